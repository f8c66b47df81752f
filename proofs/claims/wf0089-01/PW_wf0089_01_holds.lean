import PyProof.Rows.All
import Wide.All
import OpenK.AllK
import Wide.FinOn
import Open.Pieces
import PySem.Challenge.RW_wf0089_01
set_option Elab.async false
set_option maxRecDepth 100000
set_option linter.all false
namespace Mine
section
open PySem PySem.W PyProof.Rows
theorem runs_toks {M : Model} {Γ : Ctx} {p : Pos} {t : Sem Fin} {fs : List Frame} {s : Shared} {e : End} {s' : Shared} (h : Runs M Γ p t fs s e s') : s.toks ≤ s'.toks := by
  induction h with
  | done => exact Nat.le_refl _
  | raise => exact Nat.le_refl _
  | yield => exact Nat.le_refl _
  | fresh _ ih => exact Nat.le_trans (Nat.le_succ _) ih
  | call _ _ i1 i2 => exact Nat.le_trans i1 i2
  | resumeFresh _ _ _ _ i1 i2 => exact Nat.le_trans i1 i2
  | resumeSuspended _ _ _ _ i1 i2 => exact Nat.le_trans i1 i2
  | segRet _ _ i1 i2 => exact Nat.le_trans i1 i2
  | segGen _ _ i1 i2 => exact Nat.le_trans i1 i2
  | segSuspGen _ _ _ _ i1 i2 => exact Nat.le_trans i1 i2
  | _ => assumption
theorem wakes_toks {M : Model} {Γ : Ctx} {p : Pos} {g : Nat} {r : Resume} {s : Shared} {res : GenResult} {s' : Shared} (h : Wakes M Γ p g r s res s') : s.toks ≤ s'.toks := by
  unfold Wakes at h
  split at h
  · exact h.elim
  · split at h
    · obtain ⟨e, s1, h1, _, _, rfl⟩ := h
      have q := runs_toks h1
      exact q
    · obtain ⟨_, rfl⟩ := h; exact Nat.le_refl _
    · obtain ⟨_, rfl⟩ := h; exact Nat.le_refl _
  · obtain ⟨e, s1, h1, _, _, rfl⟩ := h
    have q := runs_toks h1
    exact q
  · obtain ⟨_, rfl⟩ := h; exact Nat.le_refl _
  · obtain ⟨_, rfl⟩ := h; exact Nat.le_refl _
theorem wp_toks {α : Type} {M : Model} {Γ : Ctx} {n : Nat} (t : Sem α) : ∀ {Q : α → Pos → Shared → Prop} {E : Value → Pos → Shared → Prop} {p : Pos} {s : Shared}, n ≤ s.toks → Sem.wp M Γ t Q E p s →
    Sem.wp M Γ t (fun a p s' => n ≤ s'.toks ∧ Q a p s') (fun e p s' => n ≤ s'.toks ∧ E e p s') p s := by
  induction t with
  | pure a => intro Q E p s hn h; exact ⟨hn, h⟩
  | raise e => intro Q E p s hn h; exact ⟨hn, h⟩
  | «unsupported» _ => intro Q E p s hn h; exact h.elim
  | finish _ => intro Q E p s hn h; exact h.elim
  | load a part k ih => intro Q E p s hn h; obtain ⟨o, e, h⟩ := h; exact ⟨o, e, ih _ hn h⟩
  | update a part f k ih => intro Q E p s hn h; exact ⟨h.1, ih _ hn h.2⟩
  | fresh k ih => intro Q E p s hn h; exact ih _ (Nat.le_succ_of_le hn) h
  | choose src m k ih => intro Q E p s hn h; exact ⟨h.1, ih _ hn h.2⟩
  | call c h' g l k ih =>
    intro Q E p s hn h
    obtain ⟨r, s', hr, h⟩ := h
    exact ⟨r, s', hr, ih _ (Nat.le_trans hn (runs_toks hr)) h⟩
  | genState g k ih => intro Q E p s hn h; obtain ⟨st, e, h⟩ := h; exact ⟨st, e, ih _ hn h⟩
  | resume g r l k ih => intro Q E p s hn h; obtain ⟨res, s', hw, h⟩ := h; exact ⟨res, s', hw, ih _ (Nat.le_trans hn (wakes_toks hw)) h⟩
  | register _ _ _ => intro Q E p s hn h; exact h.elim
  | yield _ _ _ _ _ => intro Q E p s hn h; exact h.elim
  | fork _ _ _ => intro Q E p s hn h; exact h.elim
  | await _ _ _ => intro Q E p s hn h; exact h.elim
  | _ => rename_i ih; intro Q E p s hn h; exact ih _ hn h
theorem wpAny_toks {α : Type} {M : Model} {A : Around} {t : Sem α} {Q : α → Shared → Prop} {E : Value → Shared → Prop} {s : Shared} (h : wpAny M A t Q E s) : wpAny M A t (fun a s' => s.toks ≤ s'.toks ∧ Q a s') (fun e s' => s.toks ≤ s'.toks ∧ E e s') s :=
  fun Γ p hΓ => wp_toks t (Nat.le_refl _) (h Γ p hΓ)
/-- a state with a positive token is kept so -/
theorem wpAny_pos {α : Type} {M : Model} {A : Around} {t : Sem α} {Q : α → Shared → Prop} {E : Value → Shared → Prop} {s : Shared} (hs : 0 < s.toks) (h : wpAny M A t (fun a s' => 0 < s'.toks → Q a s') (fun e s' => 0 < s'.toks → E e s') s) : wpAny M A t Q E s :=
  wpAny_mono (wpAny_toks h) (fun a s' q => q.2 (Nat.lt_of_lt_of_le hs q.1)) fun e s' q => q.2 (Nat.lt_of_lt_of_le hs q.1)
theorem codeAny_pos {M : Model} {A : Around} {c : Code} {R : Result → Shared → Prop} {s : Shared} (hs : 0 < s.toks) (h : codeAny M A c (fun r s' => 0 < s'.toks → R r s') s) : codeAny M A c R s := fun Γ p hc hΓ => by
  obtain ⟨r, s', hr, q⟩ := h Γ p hc hΓ
  exact ⟨r, s', hr, q (Nat.lt_of_lt_of_le hs (runs_toks hr))⟩
end
section
open PySem PySem.W PyProof.Rows

/-- deep data -/
inductive D where
  | none
  | bool (b : Bool)
  | int (i : Int)
  | flt (b : UInt64)
  | str (x : Str)
  | tup (xs : List D)
  | lst (xs : List D)
  deriving Inhabited

noncomputable abbrev Kp (h h' : Heap) : Prop := ∀ b o, h.get? b = some o → h'.get? b = some o

mutual
inductive Rep (H : List Addr) (h : Heap) : Value → D → Prop
  | none : Rep H h .none .none
  | bool (b : Bool) : Rep H h (.bool b) (.bool b)
  | int (i : Int) (t : Tok) : Rep H h (.int i t) (.int i)
  | flt (b : UInt64) (t : Tok) : t ≠ 0 → Rep H h (.float b t) (.flt b)
  | str (x : Str) (t : Tok) : Rep H h (.str x t) (.str x)
  | tup {a : Addr} {vs : List Value} {xs : List D} : a ∉ H → IsTup h a vs.toArray → Reps H h vs xs → Rep H h (.ref a) (.tup xs)
  | lst {a : Addr} {vs : List Value} {xs : List D} : a ∉ H → h.IsList a vs.toArray → Reps H h vs xs → Rep H h (.ref a) (.lst xs)
inductive Reps (H : List Addr) (h : Heap) : List Value → List D → Prop
  | nil : Reps H h [] []
  | cons {v : Value} {d : D} {vs : List Value} {ds : List D} : Rep H h v d → Reps H h vs ds → Reps H h (v :: vs) (d :: ds)
end

mutual
theorem Rep.mono' {H H' : List Addr} {h h' : Heap} (hk : ∀ a o, a ∉ H → h.get? a = some o → (∃ vs n, o.data = .seq vs n) → h'.get? a = some o) (hH : ∀ a o, a ∉ H → h.get? a = some o → (∃ vs n, o.data = .seq vs n) → a ∉ H') :
    ∀ {v : Value} {d : D}, Rep H h v d → Rep H' h' v d
  | _, _, .none => .none
  | _, _, .bool b => .bool b
  | _, _, .int i t => .int i t
  | _, _, .flt b t z => .flt b t z
  | _, _, .str x t => .str x t
  | _, _, .tup ha ⟨o, ho, hc, n, hd⟩ hs => .tup (hH _ o ha ho ⟨_, n, hd⟩) ⟨o, hk _ _ ha ho ⟨_, n, hd⟩, hc, n, hd⟩ (Reps.mono' hk hH hs)
  | _, _, .lst ha ⟨o, ho, hc, n, hd⟩ hs => .lst (hH _ o ha ho ⟨_, n, hd⟩) ⟨o, hk _ _ ha ho ⟨_, n, hd⟩, hc, n, hd⟩ (Reps.mono' hk hH hs)
theorem Reps.mono' {H H' : List Addr} {h h' : Heap} (hk : ∀ a o, a ∉ H → h.get? a = some o → (∃ vs n, o.data = .seq vs n) → h'.get? a = some o) (hH : ∀ a o, a ∉ H → h.get? a = some o → (∃ vs n, o.data = .seq vs n) → a ∉ H') :
    ∀ {vs : List Value} {ds : List D}, Reps H h vs ds → Reps H' h' vs ds
  | _, _, .nil => .nil
  | _, _, .cons x xs => .cons (Rep.mono' hk hH x) (Reps.mono' hk hH xs)
end

theorem Rep.mono {H : List Addr} {h h' : Heap} (hk : Kp h h') {v : Value} {d : D} (x : Rep H h v d) : Rep H h' v d :=
  x.mono' (fun a o _ e _ => hk a o e) (fun _ _ ha _ _ => ha)
theorem Reps.mono {H : List Addr} {h h' : Heap} (hk : Kp h h') {v : List Value} {d : List D} (x : Reps H h v d) : Reps H h' v d :=
  x.mono' (fun a o _ e _ => hk a o e) (fun _ _ ha _ _ => ha)

theorem Reps.length {H : List Addr} {h : Heap} : ∀ {vs : List Value} {ds : List D}, Reps H h vs ds → vs.length = ds.length
  | _, _, .nil => rfl
  | _, _, .cons _ xs => by rw [List.length_cons, List.length_cons, xs.length]
theorem Reps.append {H : List Addr} {h : Heap} : ∀ {vs vs' : List Value} {ds ds' : List D}, Reps H h vs ds → Reps H h vs' ds' → Reps H h (vs ++ vs') (ds ++ ds')
  | _, _, _, _, .nil, y => y
  | _, _, _, _, .cons x xs, y => .cons x (xs.append y)
theorem Reps.get {H : List Addr} {h : Heap} : ∀ {vs : List Value} {ds : List D} {i : Nat} {d : D}, Reps H h vs ds → ds[i]? = some d → ∃ v, vs[i]? = some v ∧ Rep H h v d
  | _, _, _, _, .nil, e => by cases e
  | _, _, 0, _, .cons x _, e => by cases e; exact ⟨_, rfl, x⟩
  | _, _, i + 1, _, .cons _ xs, e => by
    obtain ⟨v, a, b⟩ := xs.get (i := i) (by simpa using e)
    exact ⟨v, by simpa using a, b⟩
theorem Reps.get' {H : List Addr} {h : Heap} {vs : List Value} {ds : List D} {i : Nat} {v : Value} (x : Reps H h vs ds) (e : vs[i]? = some v) : ∃ d, ds[i]? = some d ∧ Rep H h v d := by
  have hi : i < ds.length := by
    rw [← x.length]; exact (List.getElem?_eq_some_iff.mp e).1
  obtain ⟨v', a, b⟩ := x.get (i := i) (d := ds[i]) (by simp [hi])
  rw [e] at a; cases a
  exact ⟨_, by simp [hi], b⟩

/-- a token of a state -/
noncomputable abbrev Tk := { n : Nat // 0 < n }
/-- a tree that yields a value of R without touching what stands -/
structure Ylds (M : Model) (A : Around) (t : Sem Value) (R : Heap → Value → Prop) (s : Shared) : Prop where
  out0 : 0 < s.toks → ∀ (Q : Value → Shared → Prop) (E : Value → Shared → Prop), (∀ v h' (tk : Tk), Kp s.heap h' → R h' v → Q v { s with heap := h', toks := tk.1 }) → wpAny M A t Q E s
theorem Ylds.out {M : Model} {A : Around} {t : Sem Value} {R : Heap → Value → Prop} {s : Shared} (x : Ylds M A t R s) (Q : Value → Shared → Prop) (E : Value → Shared → Prop)
    (k : ∀ v h' (tk : Tk), Kp s.heap h' → R h' v → Q v { s with heap := h', toks := tk.1 }) (hs : 0 < s.toks := by first | assumption | exact Subtype.property _ | exact Nat.succ_pos _) : wpAny M A t Q E s := x.out0 hs Q E k
theorem Ylds.of {M : Model} {A : Around} {t : Sem Value} {R : Heap → Value → Prop} {s : Shared}
    (h : 0 < s.toks → ∀ (Q : Value → Shared → Prop) (E : Value → Shared → Prop), (∀ v h' (tk : Nat), Kp s.heap h' → R h' v → Q v { s with heap := h', toks := tk }) → wpAny M A t Q E s) : Ylds M A t R s :=
  ⟨fun hs Q E k => wpAny_pos hs (h hs _ _ fun v h' tk kp r z => k v h' ⟨tk, z⟩ kp r)⟩

theorem Kp.refl (h : Heap) : Kp h h := fun _ _ e => e
theorem Kp.trans {a b c : Heap} (x : Kp a b) (y : Kp b c) : Kp a c := fun _ _ e => y _ _ (x _ _ e)
theorem Kp.push (h : Heap) (o : Obj) : Kp h (h.push o) := fun _ _ e => Heap.get?_push_of_some o e
end
section
open PySem PySem.W PyProof.Rows

noncomputable def HOK (H : List Addr) (h : Heap) : Prop := ∀ b ∈ H, ∃ o, h.get? b = some o
theorem HOK.mono {H : List Addr} {h h' : Heap} (x : HOK H h) (k : Kp h h') : HOK H h' := fun b hb => let ⟨o, e⟩ := x b hb; ⟨o, k _ _ e⟩
theorem HOK.fresh {H : List Addr} {h : Heap} (x : HOK H h) : h.objs.size ∉ H := fun hm => let ⟨_, e⟩ := x _ hm; Nat.lt_irrefl _ (Heap.lt_size e)

noncomputable def small (i : Int) : Bool := decide (i.natAbs < 2 ^ 256)
theorem small_bits {i : Int} (h : small i = true) : Builtin.Int.intBits i ≤ 2 ^ 20 := by
  have h := of_decide_eq_true h
  unfold Builtin.Int.intBits
  by_cases h0 : i.natAbs = 0
  · rw [if_pos (by simpa using Int.natAbs_eq_zero.mp h0)]; decide
  · have : i.natAbs.log2 < 256 := (Nat.log2_lt h0).mpr h
    split <;> omega

inductive SmallM (i : Int) : Prop
  | mk : i.natAbs < 2 ^ 1000000 → SmallM i
theorem SmallM.bits {i : Int} (h : SmallM i) : Builtin.Int.intBits i ≤ 2 ^ 20 := by
  obtain ⟨h⟩ := h
  unfold Builtin.Int.intBits
  by_cases h0 : i.natAbs = 0
  · rw [if_pos (by simpa using Int.natAbs_eq_zero.mp h0)]; decide
  · have : i.natAbs.log2 < 1000000 := (Nat.log2_lt h0).mpr h
    split <;> omega
theorem SmallM.of_lt {i : Int} (k : Nat) (h : i.natAbs < 2 ^ k) (hk : k ≤ 1000000) : SmallM i := ⟨Nat.lt_of_lt_of_le h (Nat.pow_le_pow_right (by decide) hk)⟩
noncomputable def fltBin : Operator → UInt64 → UInt64 → Option UInt64
  | .Add, a, b => some (Float64.add a b)
  | .Sub, a, b => some (Float64.sub a b)
  | .Mult, a, b => some (Float64.mul a b)
  | .Div, a, b => if Float64.isZero b then none else some (Float64.div a b)
  | .Mod, a, b => if Float64.isZero b then none else some (Float64.divmod a b).2
  | _, _, _ => none

noncomputable def intBin : Operator → Int → Int → Option D
  | .Add, a, b => some (.int (a + b))
  | .Sub, a, b => some (.int (a - b))
  | .Mult, a, b => @ite _ (SmallM a ∧ SmallM b) (Classical.propDecidable _) (some (.int (a * b))) none
  | .FloorDiv, a, b => if b.natAbs < 1073741824 && b != 0 then some (.int (a.fdiv b)) else none
  | .Mod, a, b => if b != 0 then some (.int (a.fmod b)) else none
  | .Pow, a, b => if decide (0 ≤ b) && decide (b ≤ 100) && small a then some (.int (a ^ b.toNat)) else none
  | .BitXor, a, b => some (.int (Builtin.bitXor a b))
  | .Div, a, b => if b == 0 || Float64.isInf (Float64.ofFrac (decide (a < 0) != decide (b < 0)) a.natAbs b.natAbs) then none else some (.flt (Float64.ofFrac (decide (a < 0) != decide (b < 0)) a.natAbs b.natAbs))
  | _, _, _ => none

noncomputable def mixBin (op : Operator) (n : Int) (k : UInt64 → Option UInt64) : Option UInt64 := match op with
  | .Add | .Sub | .Mult => if small n then k (Float64.ofInt n) else none
  | _ => none

noncomputable def seqMax : Nat := 100000
noncomputable def lstBin (op : Operator) (xs ys : List D) : Option D := match op with
  | .Add => if xs.length + ys.length ≤ seqMax then some (.lst (xs ++ ys)) else none
  | _ => none
noncomputable def strBin (op : Operator) (x y : Str) : Option D := match op with
  | .Add => if x.length + y.length ≤ seqMax then some (.str (x ++ y)) else none
  | _ => none
noncomputable def binD (op : Operator) (a b : D) : Option D := match a with
  | .int i => (match b with
    | .int j => intBin op i j
    | .flt j => (mixBin op i fun x => fltBin op x j).map .flt
    | _ => none)
  | .flt i => (match b with
    | .int j => (mixBin op j fun x => fltBin op i x).map .flt
    | .flt j => (fltBin op i j).map .flt
    | _ => none)
  | .lst xs => (match b with
    | .lst ys => lstBin op xs ys
    | _ => none)
  | .str x => (match b with
    | .str y => strBin op x y
    | _ => none)
  | _ => none

theorem none_ne {p : Prop} {d : D} (e : Option.none = some d) : p := nomatch e
theorem binD_if (op : Operator) (i : Int) (j : UInt64) : binD op (.int i) (.flt j) = (mixBin op i fun x => fltBin op x j).map .flt := rfl
theorem binD_fi (op : Operator) (j : Int) (i : UInt64) : binD op (.flt i) (.int j) = (mixBin op j fun x => fltBin op i x).map .flt := rfl
theorem binD_ff (op : Operator) (i j : UInt64) : binD op (.flt i) (.flt j) = (fltBin op i j).map .flt := rfl
theorem map_flt {x : Option UInt64} {d : D} (e : x.map D.flt = some d) : ∃ r, x = some r ∧ d = .flt r := by
  cases x with
  | none => exact nomatch e
  | some r => exact ⟨r, rfl, (Option.some.inj e).symm⟩

section
variable {prog : Program} {w : World} {A : Around} {H : List Addr} {s : Shared}

theorem yl_val {M : Model} {A : Around} {t : Sem Value} {R : Heap → Value → Prop} {s : Shared} (v : Value) (tk : Nat) (hR : R s.heap v) (h : ∀ Q E, Q v { s with toks := tk } → wpAny M A t Q E s) : Ylds M A t R s :=
  Ylds.of (fun zs Q E k => h Q E (k v s.heap tk (Kp.refl _) hR))

theorem yl_flt {M : Model} {A : Around} {t : Sem Value} {H : List Addr} {r : UInt64} {s : Shared} (h : ∀ Q E, Q (.float r s.toks) { s with toks := s.toks + 1 } → wpAny M A t Q E s) : Ylds M A t (fun h v => Rep H h v (.flt r)) s :=
  Ylds.of (fun zs Q E k => h Q E (k _ s.heap _ (Kp.refl _) (.flt _ _ (Nat.ne_of_gt zs))))
theorem add_lists' {l b : Addr} {vs ws : List Value} {Q : Value → Shared → Prop} {E : Value → Shared → Prop} (hl : s.heap.IsList l vs.toArray) (hb : s.heap.IsList b ws.toArray)
    (h : Q (.ref s.heap.objs.size) { s with heap := s.heap.push { cls := .type "list", data := .seq (vs ++ ws).toArray } })
    (hsz : vs.length + ws.length ≤ sizeLine) :
    wpAny (model prog w) A (binaryOp .Add (.ref l) (.ref b)) Q E s := by
  obtain ⟨⟨cls, dd, data, sl⟩, ho, hc, n, hd⟩ := id hl
  obtain ⟨⟨cls2, dd2, data2, sl2⟩, ho2, hc2, n2, hd2⟩ := id hb
  simp only at hc hd hc2 hd2
  subst hc hd hc2 hd2
  have e : vs.toArray ++ ws.toArray = (vs ++ ws).toArray := by simp
  refine concat_meets ⟨_, ho, rfl⟩ ⟨_, ho2, rfl⟩ noFill_list_add seq_list_add PySem.F.slot_list_add PySem.F.entry_list_add (PySem.F.args_list_add_2 _ _) (list_addW l b vs.toArray ws.toArray n n2 dd dd2 sl sl2 (by simpa using hsz)) ⟨ho, ho2, ?_⟩
  rw [e]
  exact h

theorem rep_new_lst {h : Heap} {vs : List Value} {xs : List D} (hH : HOK H h) (x : Reps H h vs xs) :
    Rep H (h.push { cls := .type "list", data := .seq vs.toArray }) (.ref h.objs.size) (.lst xs) :=
  .lst hH.fresh ⟨_, Heap.get?_push_size _ rfl, rfl, _, rfl⟩ (x.mono (Kp.push _ _))
theorem rep_new_tup {h : Heap} {vs : List Value} {xs : List D} (hH : HOK H h) (x : Reps H h vs xs) :
    Rep H (h.push { cls := .type "tuple", data := .seq vs.toArray }) (.ref h.objs.size) (.tup xs) :=
  .tup hH.fresh ⟨_, Heap.get?_push_size _ rfl, rfl, _, rfl⟩ (x.mono (Kp.push _ _))

theorem small_1023 {n : Int} (h : small n = true) : n.natAbs < 2 ^ 1023 := Nat.lt_trans (of_decide_eq_true h) (by decide +kernel)
theorem seqMax_le {n : Nat} (h : n ≤ seqMax) : n ≤ sizeLine := Nat.le_trans h (by rw [sizeLine_eq]; decide)

theorem fltBin_ok (hA : A.handled = none) {op : Operator} {a b r : UInt64} {t u : Tok} (e : fltBin op a b = some r) :
    Ylds (model prog w) A (binaryOp op (.float a t) (.float b u)) (fun h v => Rep H h v (.flt r)) s := by
  cases op <;> simp only [fltBin] at e
  case Add => cases e; exact yl_flt fun Q E k => add_float k
  case Sub => cases e; exact yl_flt fun Q E k => sub_float k
  case Mult => cases e; exact yl_flt fun Q E k => mul_float k
  case Div =>
    split at e
    · cases e
    · rename_i hz
      cases e; exact yl_flt fun Q E k => truediv_float_or hA (fun z => absurd z hz) fun _ => k
  case Mod =>
    split at e
    · cases e
    · rename_i hz
      cases e; exact yl_flt fun Q E k => AutoFloatOps.mod_1 hz k
  all_goals cases e

theorem fltInt_ok {op : Operator} {a r : UInt64} {n : Int} {t u : Tok} (e : mixBin op n (fun b => fltBin op a b) = some r) :
    Ylds (model prog w) A (binaryOp op (.float a t) (.int n u)) (fun h v => Rep H h v (.flt r)) s := by
  cases op <;> simp only [mixBin, fltBin] at e
  case Add =>
    split at e
    · rename_i hs; cases e; exact yl_flt fun Q E k => add_fi_fits (small_1023 hs) k
    · cases e
  case Sub =>
    split at e
    · rename_i hs; cases e; exact yl_flt fun Q E k => sub_fi_fits (small_1023 hs) k
    · cases e
  case Mult =>
    split at e
    · rename_i hs; cases e; exact yl_flt fun Q E k => mul_fi_fits (small_1023 hs) k
    · cases e
  all_goals cases e

theorem intFlt_ok {op : Operator} {a r : UInt64} {n : Int} {t u : Tok} (e : mixBin op n (fun b => fltBin op b a) = some r) :
    Ylds (model prog w) A (binaryOp op (.int n u) (.float a t)) (fun h v => Rep H h v (.flt r)) s := by
  cases op <;> simp only [mixBin, fltBin] at e
  case Add =>
    split at e
    · rename_i hs; cases e; exact yl_flt fun Q E k => add_if_fits (small_1023 hs) k
    · cases e
  case Sub =>
    split at e
    · rename_i hs; cases e; exact yl_flt fun Q E k => sub_if_fits (small_1023 hs) k
    · cases e
  case Mult =>
    split at e
    · rename_i hs; cases e; exact yl_flt fun Q E k => mul_if_fits (small_1023 hs) k
    · cases e
  all_goals cases e

theorem intBin_ok {op : Operator} {a b : Int} {r : D} {t u : Tok} (e : intBin op a b = some r) :
    Ylds (model prog w) A (binaryOp op (.int a t) (.int b u)) (fun h v => Rep H h v r) s := by
  cases op <;> simp only [intBin] at e
  case Add => cases e; exact yl_val _ _ (.int _ _) fun Q E k => add_int k
  case Sub => cases e; exact yl_val _ _ (.int _ _) fun Q E k => sub_int k
  case BitXor => cases e; exact yl_val _ _ (.int _ _) fun Q E k => xor_int k
  case Mult =>
    split at e
    · rename_i hs
      obtain ⟨h1, h2⟩ := hs
      cases e; exact yl_val _ _ (.int _ _) fun Q E k => mul_int k (IntMulOk.of_bits h1.bits h2.bits)
    · cases e
  case FloorDiv =>
    split at e
    · rename_i hs
      obtain ⟨h1, h2⟩ := Bool.and_eq_true_iff.mp hs
      cases e; exact yl_val _ _ (.int _ _) fun Q E k => floordiv_int (by simpa using h2) k (.inl (PyProof.noPylong_small (of_decide_eq_true h1)))
    · cases e
  case Mod =>
    split at e
    · rename_i hs
      cases e; exact yl_val _ _ (.int _ _) fun Q E k => mod_int' (by simpa using hs) k
    · cases e
  case Pow =>
    split at e
    · rename_i hs
      obtain ⟨h1, h3⟩ := Bool.and_eq_true_iff.mp hs
      obtain ⟨h1, h2⟩ := Bool.and_eq_true_iff.mp h1
      have h1 := of_decide_eq_true h1
      have h2 := of_decide_eq_true h2
      have h3 := small_bits h3
      cases e
      refine yl_val _ _ (.int _ _) fun Q E k => pow_int h1 ?_ k
      have h4 : ((Builtin.Int.intBits a : Nat) : Int) ≤ 1048576 := by omega
      calc ((Builtin.Int.intBits a : Nat) : Int) * b ≤ 1048576 * 100 := Int.mul_le_mul h4 h2 h1 (by decide)
        _ ≤ 2 ^ 27 := by decide
    · cases e
  case Div =>
    split at e
    · cases e
    · rename_i hs
      simp only [Bool.or_eq_true, not_or] at hs
      cases e
      exact yl_flt fun Q E k => AutoIntOps.truediv_2 hs.1 hs.2 k
  all_goals cases e

theorem strlen_cps (x y : Str) : (x ++ y).length = x.length + y.length := Str.length_append ..
theorem str_nil_of {x : Str} (h : (x.length == 0) = true) : x = Str.empty := by
  obtain ⟨⟨l⟩⟩ := x
  have : l.length = 0 := by simpa [Str.length] using h
  cases l with
  | nil => rfl
  | cons _ _ => simp at this

theorem lstBin_ok (hH : HOK H s.heap) {op : Operator} {a b : Addr} {vs ws : List Value} {xs ys : List D} {d : D} (e : lstBin op xs ys = some d) (h2 : s.heap.IsList a vs.toArray) (h3 : Reps H s.heap vs xs)
    (h5 : s.heap.IsList b ws.toArray) (h6 : Reps H s.heap ws ys) : Ylds (model prog w) A (binaryOp op (.ref a) (.ref b)) (fun h v => Rep H h v d) s := by
  cases op <;> simp only [lstBin] at e
  case Add =>
    split at e
    · rename_i hs
      cases e
      exact Ylds.of (fun zs Q E k => add_lists' h2 h5 (k _ _ _ (Kp.push _ _) (rep_new_lst hH (h3.append h6))) (seqMax_le (by rw [h3.length, h6.length]; exact hs)))
    · cases e
  all_goals cases e
theorem strBin_ok {op : Operator} {x y : Str} {t u : Tok} {d : D} (e : strBin op x y = some d) : Ylds (model prog w) A (binaryOp op (.str x t) (.str y u)) (fun h v => Rep H h v d) s := by
  cases op <;> simp only [strBin] at e
  case Add =>
    split at e
    · rename_i hs
      cases e
      refine Ylds.of (fun zs Q E k => ?_)
      exact add_str (fun t' tk => k _ _ _ (Kp.refl _) (.str _ _)) (hsz := seqMax_le hs)
    · cases e
  all_goals cases e

theorem bin_ok (hA : A.handled = none) (hH : HOK H s.heap) {op : Operator} {a b d : D} {va vb : Value} (e : binD op a b = some d) (ra : Rep H s.heap va a) (rb : Rep H s.heap vb b) :
    Ylds (model prog w) A (binaryOp op va vb) (fun h v => Rep H h v d) s := by
  cases ra with
  | int i t => cases rb with
    | int j u => exact intBin_ok e
    | flt j u =>
      rw [binD_if] at e
      obtain ⟨r, e', rfl⟩ := map_flt e
      exact intFlt_ok e'
    | _ => exact none_ne e
  | flt i t => cases rb with
    | int j u =>
      rw [binD_fi] at e
      obtain ⟨r, e', rfl⟩ := map_flt e
      exact fltInt_ok e'
    | flt j u =>
      rw [binD_ff] at e
      obtain ⟨r, e', rfl⟩ := map_flt e
      exact fltBin_ok hA e'
    | _ => exact none_ne e
  | lst h1 h2 h3 => cases rb with
    | lst h4 h5 h6 => exact lstBin_ok hH e h2 h3 h5 h6
    | _ => exact none_ne e
  | str x t => cases rb with
    | str y u => exact strBin_ok e
    | _ => exact none_ne e
  | _ => exact none_ne e
end
end
section
open PySem PySem.W PyProof.Rows

/-- where an expression stands: all fixed but the heap, of which I is known, and stays known as it grows -/
structure Cx where
  prog : Program
  w : World
  A : Around
  env : Env
  H : List Addr
  I : Heap → Prop
  hh : A.handled = none
  mono : ∀ {h h' : Heap}, I h → Kp h h' → I h'
  hu : A.units + 100 < cLine
  hok : ∀ {h : Heap}, I h → HOK H h
  fn : env.scope.kind = .function
noncomputable abbrev Cx.M (c : Cx) : Model := model c.prog c.w

noncomputable def EvR (c : Cx) (e : Expr) (R : Heap → Value → Prop) : Prop := ∀ s : Shared, c.I s.heap → Ylds c.M c.A (eval e c.env) R s
noncomputable abbrev Cx.RD (c : Cx) (d : D) : Heap → Value → Prop := fun h v => Rep c.H h v d
noncomputable abbrev EvD (c : Cx) (e : Expr) (d : D) : Prop := EvR c e (c.RD d)
noncomputable def Mono (R : Heap → Value → Prop) : Prop := ∀ h h' v, R h v → Kp h h' → R h' v
theorem mono_rep {H : List Addr} {d : D} : Mono (fun h v => Rep H h v d) := fun _ _ _ r k => r.mono k

theorem Ylds.weak {M : Model} {A : Around} {t : Sem Value} {R R' : Heap → Value → Prop} {s : Shared} (x : Ylds M A t R s) (h : ∀ h' v, Kp s.heap h' → R h' v → R' h' v) : Ylds M A t R' s :=
  Ylds.of (fun zs Q E k => x.out Q E fun v h' tk hk hR => k v h' tk hk (h h' v hk hR))

section
variable {c : Cx}
theorem ev_none {k pos} : EvD c (.Constant .none k pos) .none := fun s _ => Ylds.of (fun zs Q E k => wpAny_Constant_none (k _ _ _ (Kp.refl _) .none))
theorem ev_bool {b k pos} : EvD c (.Constant (.bool b) k pos) (.bool b) := fun s _ => Ylds.of (fun zs Q E k => wpAny_Constant_bool (k _ _ _ (Kp.refl _) (.bool _)))
theorem ev_int {i k pos} : EvD c (.Constant (.int i) k pos) (.int i) := fun s _ => Ylds.of (fun zs Q E k => wpAny_Constant_int (k _ _ _ (Kp.refl _) (.int _ _)))
theorem ev_flt {i k pos} : EvD c (.Constant (.float i) k pos) (.flt i) := fun s _ => Ylds.of (fun zs Q E k => AutoFloatOps.wpAny_Constant_float (k _ _ _ (Kp.refl _) (.flt _ _ (Nat.ne_of_gt zs))))
theorem ev_str {i k pos} : EvD c (.Constant (.str i) k pos) (.str i) := fun s _ => Ylds.of (fun zs Q E k => wpAny_Constant_str (k _ _ _ (Kp.refl _) (.str _ _)))

/-- what a name holds in a frame, its own or one that it sees -/
noncomputable def Loads (env : Env) (h : Heap) (x : Str) (v : Value) : Prop :=
  (env.kindOf x = some .local ∧ ∃ m, h.Ns env.locals m ∧ m x = some v) ∨
  ((env.kindOf x = some .cell ∨ env.kindOf x = some .free) ∧ ∃ a, env.cells.lookup x = some a ∧ h.IsCell a (some v))
theorem Loads.mono {env : Env} {h h' : Heap} {x : Str} {v : Value} (l : Loads env h x v) (k : Kp h h') : Loads env h' x v :=
  l.imp (fun ⟨a, m, n, e⟩ => ⟨a, m, n.keeps k, e⟩) fun ⟨a, b, e, n⟩ => ⟨a, b, e, n.keeps k⟩

theorem ev_name {x : Str} {pos : Pos} {R : Heap → Value → Prop} (hd : (x == ("__debug__" : Str)) = false) (hc : (x == ("__classdict__" : Str)) = false)
    (l : ∀ h, c.I h → ∃ v, Loads c.env h x v ∧ R h v) : EvR c (.Name x pos) R := fun s hI => Ylds.of (fun zs Q E k => by
  obtain ⟨v, l, r⟩ := l s.heap hI
  rcases l with ⟨hk, m, hn, e⟩ | ⟨hk, a, ha, hv⟩
  · exact wpAny_Name (wpAny_loadName_local c.fn hk hn e (k v s.heap s.toks (Kp.refl _) r)) hd
  · rcases hk with hk | hk
    · exact wpAny_Name (wpAny_loadName_cell c.fn hk ha hv (k v s.heap s.toks (Kp.refl _) r)) hd
    · exact wpAny_Name (wpAny_loadName_free c.fn hk ha hv (k v s.heap s.toks (Kp.refl _) r) hc) hd)
theorem ev_global {x : Str} {pos : Pos} {R : Heap → Value → Prop} (hd : (x == ("__debug__" : Str)) = false) (hx : c.env.kindOf x = some .globalImplicit)
    (l : ∀ h, c.I h → ∃ mg v, h.Ns c.env.globals mg ∧ mg x = some v ∧ R h v) : EvR c (.Name x pos) R := fun s hI => Ylds.of (fun zs Q E k => by
  obtain ⟨mg, v, hg, e, r⟩ := l s.heap hI
  exact Calls.Name_function_global c.fn hx (Calls.loadGlobal_global hg e (k v s.heap s.toks (Kp.refl _) r)) hd)
theorem ev_builtin {x : Str} {pos : Pos} {v : Value} (hd : (x == ("__debug__" : Str)) = false) (hx : c.env.kindOf x = some .globalImplicit)
    (l : ∀ h, c.I h → ∃ mg mb, h.Ns c.env.globals mg ∧ mg x = none ∧ h.Ns c.env.builtins mb ∧ mb x = some v) : EvR c (.Name x pos) (fun _ r => r = v) := fun s hI => Ylds.of (fun zs Q E k => by
  obtain ⟨mg, mb, hg, e, hb, e'⟩ := l s.heap hI
  exact Calls.Name_function_global c.fn hx (Calls.loadGlobal_builtin hg e hb e' (k v s.heap s.toks (Kp.refl _) rfl)) hd)

theorem ev_bin {l r : Expr} {op : Operator} {pos : Pos} {a b d : D} (hl : EvD c l a) (hr : EvD c r b) (e : binD op a b = some d) : EvD c (.BinOp l op r pos) d :=
  fun s hI => Ylds.of (fun zs Q E k => wpAny_BinOp ((hl s hI).out _ E fun va h₁ t₁ k₁ ra => (hr _ (c.mono hI k₁)).out _ E fun vb h₂ t₂ k₂ rb =>
    (bin_ok c.hh (c.hok (c.mono (c.mono hI k₁) k₂)) e (ra.mono k₂) rb).out Q E fun v h₃ t₃ k₃ r₃ => k v h₃ t₃ ((k₁.trans k₂).trans k₃) r₃))

noncomputable def intCmp : CmpOp → Int → Int → Option Bool
  | .Eq, a, b => some (a == b)
  | .NotEq, a, b => some (a != b)
  | .Lt, a, b => some (decide (a < b))
  | .LtE, a, b => some (decide (a ≤ b))
  | .Gt, a, b => some (decide (b < a))
  | .GtE, a, b => some (decide (b ≤ a))
  | _, _, _ => none
noncomputable def fltCmp : CmpOp → UInt64 → UInt64 → Option Bool
  | .Eq, a, b => some (Float64.cmp a b == some Ordering.eq)
  | _, _, _ => none
noncomputable def strCmp : CmpOp → Str → Str → Option Bool
  | .Eq, a, b => some (a.cps.toList == b.cps.toList)
  | .NotEq, a, b => some (a.cps.toList != b.cps.toList)
  | _, _, _ => none
mutual
noncomputable def D.toP : D → Option PyData
  | .none => some .none
  | .bool b => some (.bool b)
  | .int i => some (.int i)
  | .flt _ => Option.none
  | .str x => some (.str x)
  | .tup xs => (D.toPs xs).map .tuple
  | .lst xs => (D.toPs xs).map .list
noncomputable def D.toPs : List D → Option (List PyData)
  | [] => some []
  | x :: r => match D.toP x, D.toPs r with
    | some p, some ps => some (p :: ps)
    | _, _ => Option.none
end
mutual
theorem Rep.reads {H : List Addr} {h : Heap} : ∀ {v : Value} {d : D} {p : PyData}, Rep H h v d → d.toP = some p → ∃ as, Reads h v p as
  | _, _, _, .none, e => by rw [D.toP] at e; cases e; exact ⟨_, .none⟩
  | _, _, _, .bool b, e => by rw [D.toP] at e; cases e; exact ⟨_, .bool b⟩
  | _, _, _, .int i t, e => by rw [D.toP] at e; cases e; exact ⟨_, .int i t⟩
  | _, _, _, .flt _ _ _, e => by rw [D.toP] at e; cases e
  | _, _, _, .str x t, e => by rw [D.toP] at e; cases e; exact ⟨_, .str x t⟩
  | _, _, _, .tup _ ⟨o, ho, hc, n, hd⟩ hs, e => by
    rw [D.toP] at e
    obtain ⟨ps, e', rfl⟩ := Option.map_eq_some_iff.mp e
    obtain ⟨as, r⟩ := Reps.reads hs e'
    exact ⟨_, .tuple ho hc hd r⟩
  | _, _, _, .lst _ ⟨o, ho, hc, n, hd⟩ hs, e => by
    rw [D.toP] at e
    obtain ⟨ps, e', rfl⟩ := Option.map_eq_some_iff.mp e
    obtain ⟨as, r⟩ := Reps.reads hs e'
    exact ⟨_, .list ho hc hd r⟩
theorem Reps.reads {H : List Addr} {h : Heap} : ∀ {vs : List Value} {ds : List D} {ps : List PyData}, Reps H h vs ds → D.toPs ds = some ps → ∃ as, ReadsAll h vs ps as
  | _, _, _, .nil, e => by rw [D.toPs] at e; cases e; exact ⟨_, .nil⟩
  | _, _, _, .cons x xs, e => by
    rw [D.toPs] at e
    split at e
    · rename_i p ps e1 e2
      cases e
      obtain ⟨as, r⟩ := Rep.reads x e1
      obtain ⟨bs, q⟩ := Reps.reads xs e2
      exact ⟨_, .cons r q⟩
    · cases e
end
noncomputable def seqCmp (op : CmpOp) (a b : D) : Option Bool := match a.toP, b.toP with
  | some p, some q => if SeqAt.shaped p && SeqAt.shaped q then (match op with
    | .Eq => some (PyData.eqv p q)
    | .NotEq => some (!PyData.eqv p q)
    | _ => none) else none
  | _, _ => none
noncomputable def D.isNone : D → Bool
  | .none => true
  | _ => false
noncomputable def noneCmp (op : CmpOp) (v : D) : Option Bool := match op with
  | .Is => some v.isNone
  | .IsNot => some (!v.isNone)
  | _ => none
noncomputable def cmpD (op : CmpOp) (a b : D) : Option Bool := match b with
  | .none => noneCmp op a
  | .int j => (match a with | .int i => intCmp op i j | _ => none)
  | .flt j => (match a with | .flt i => fltCmp op i j | _ => none)
  | .str j => (match a with | .str i => strCmp op i j | _ => none)
  | .bool _ => none
  | .tup ys => (match a with | .tup xs => seqCmp op (.tup xs) (.tup ys) | _ => none)
  | .lst ys => (match a with | .lst xs => seqCmp op (.lst xs) (.lst ys) | _ => none)
theorem none_neB {p : Prop} {d : Bool} (e : Option.none = some d) : p := nomatch e

theorem yl_same {M : Model} {A : Around} {t : Sem Value} {R : Heap → Value → Prop} {s : Shared} (v : Value) (hR : R s.heap v) (h : ∀ Q E, Q v s → wpAny M A t Q E s) : Ylds M A t R s :=
  Ylds.of (fun zs Q E k => h Q E (k v s.heap s.toks (Kp.refl _) hR))

theorem intCmp_ok {prog : Program} {w : World} {A : Around} {H : List Addr} {s : Shared} {op : CmpOp} {a b : Int} {t u : Tok} {r : Bool} (e : intCmp op a b = some r) :
    Ylds (model prog w) A (compareOp op (.int a t) (.int b u)) (fun h v => Rep H h v (.bool r)) s := by
  cases op <;> simp only [intCmp] at e
  case Eq => cases e; exact yl_same (.bool _) (.bool _) fun Q E k => eq_int k
  case NotEq => cases e; exact yl_same (.bool _) (.bool _) fun Q E k => ne_int k
  case Lt => cases e; exact yl_same (.bool _) (.bool _) fun Q E k => PyProof.Rows.lt_int k
  case LtE => cases e; exact yl_same (.bool _) (.bool _) fun Q E k => PyProof.Rows.le_int k
  case Gt => cases e; exact yl_same (.bool _) (.bool _) fun Q E k => PyProof.Rows.gt_int k
  case GtE => cases e; exact yl_same (.bool _) (.bool _) fun Q E k => PyProof.Rows.ge_int k
  all_goals cases e
theorem strCmp_ok {prog : Program} {w : World} {A : Around} {H : List Addr} {s : Shared} {op : CmpOp} {a b : Str} {t u : Tok} {r : Bool} (e : strCmp op a b = some r) :
    Ylds (model prog w) A (compareOp op (.str a t) (.str b u)) (fun h v => Rep H h v (.bool r)) s := by
  cases op <;> simp only [strCmp] at e
  case Eq => cases e; exact yl_same (.bool _) (.bool _) fun Q E k => PySem.P.eq_str k
  case NotEq => cases e; exact yl_same (.bool _) (.bool _) fun Q E k => PySem.P.ne_str k
  all_goals cases e
theorem fltCmp_ok {prog : Program} {w : World} {A : Around} {H : List Addr} {s : Shared} {op : CmpOp} {a b : UInt64} {t u : Tok} {r : Bool} (e : fltCmp op a b = some r) :
    Ylds (model prog w) A (compareOp op (.float a t) (.float b u)) (fun h v => Rep H h v (.bool r)) s := by
  cases op <;> simp only [fltCmp] at e
  case Eq => cases e; exact yl_same (.bool _) (.bool _) fun Q E k => AutoFloatOps.eq_0 k
  all_goals cases e
theorem seqCmp_ok {prog : Program} {w : World} {A : Around} {H : List Addr} {s : Shared} (hu : A.units + 100 < cLine) {op : CmpOp} {a b : D} {va vb : Value} {r : Bool} (e : seqCmp op a b = some r) (ra : Rep H s.heap va a) (rb : Rep H s.heap vb b) :
    Ylds (model prog w) A (compareOp op va vb) (fun h v => Rep H h v (.bool r)) s := by
  unfold seqCmp at e
  split at e
  · rename_i p q ep eq
    split at e
    · rename_i hs
      obtain ⟨h1, h2⟩ := Bool.and_eq_true_iff.mp hs
      obtain ⟨as, x⟩ := ra.reads ep
      obtain ⟨bs, y⟩ := rb.reads eq
      cases op <;> simp only at e
      case Eq => cases e; exact yl_same (.bool _) (.bool _) fun Q E k => PyProof.Rows.eq_dataH x y h1 h2 (by omega) k
      case NotEq => cases e; exact yl_same (.bool _) (.bool _) fun Q E k => PyProof.Rows.ne_dataH x y h1 h2 (by omega) k
      all_goals cases e
    · cases e
  · cases e
theorem noneCmp_ok {prog : Program} {w : World} {A : Around} {H : List Addr} {s : Shared} {op : CmpOp} {a : D} {va : Value} {r : Bool} (e : noneCmp op a = some r) (ra : Rep H s.heap va a) :
    Ylds (model prog w) A (compareOp op va .none) (fun h v => Rep H h v (.bool r)) s := by
  have hn : (va == Value.none) = a.isNone := by cases ra <;> rfl
  cases op <;> simp only [noneCmp] at e
  case Is => cases e; exact yl_same (.bool _) (.bool _) fun Q E k => is_none (by rw [hn]; exact k)
  case IsNot => cases e; exact yl_same (.bool _) (.bool _) fun Q E k => isNot_none (by rw [hn]; exact k)
  all_goals cases e
theorem cmp_ok {prog : Program} {w : World} {A : Around} {H : List Addr} {s : Shared} (hu : A.units + 100 < cLine) {op : CmpOp} {a b : D} {va vb : Value} {r : Bool} (e : cmpD op a b = some r) (ra : Rep H s.heap va a) (rb : Rep H s.heap vb b) :
    Ylds (model prog w) A (compareOp op va vb) (fun h v => Rep H h v (.bool r)) s := by
  cases rb with
  | none => exact noneCmp_ok e ra
  | int j u => cases ra with
    | int i t => exact intCmp_ok e
    | _ => exact none_neB e
  | flt j u => cases ra with
    | flt i t => exact fltCmp_ok e
    | _ => exact none_neB e
  | str j u => cases ra with
    | str i t => exact strCmp_ok e
    | _ => exact none_neB e
  | tup h1 h2 h3 => cases ra with
    | tup h4 h5 h6 => exact seqCmp_ok hu e (.tup h4 h5 h6) (.tup h1 h2 h3)
    | _ => exact none_neB e
  | lst h1 h2 h3 => cases ra with
    | lst h4 h5 h6 => exact seqCmp_ok hu e (.lst h4 h5 h6) (.lst h1 h2 h3)
    | _ => exact none_neB e
  | _ => exact none_neB e

theorem ev_cmp {l r : Expr} {op : CmpOp} {pos : Pos} {a b : D} {d : Bool} (hm : behindInMarks op r = false) (hl : EvD c l a) (hr : EvD c r b) (e : cmpD op a b = some d) : EvD c (.Compare l [op] [r] pos) (.bool d) :=
  fun s hI => Ylds.of (fun zs Q E k => wpAny_Compare1 ((hl s hI).out _ E fun va h₁ t₁ k₁ ra => (hr _ (c.mono hI k₁)).out _ E fun vb h₂ t₂ k₂ rb =>
    (cmp_ok c.hu e (ra.mono k₂) rb).out Q E fun v h₃ t₃ k₃ r₃ => k v h₃ t₃ ((k₁.trans k₂).trans k₃) r₃) hm)

/-- a test -/
noncomputable def EvT (c : Cx) (e : Expr) (b : Bool) : Prop := ∀ (s : Shared), 0 < s.toks → ∀ (Q : Bool → Shared → Prop) (E : Value → Shared → Prop), c.I s.heap → (∀ h' (tk : Tk), Kp s.heap h' → Q b { s with heap := h', toks := tk.1 }) →
  wpAny c.M c.A (isTrue e c.env (eval e c.env)) Q E s
theorem et_cmp {l r : Expr} {op : CmpOp} {pos : Pos} {a b : D} {d : Bool} (hm : behindInMarks op r = false) (hl : EvD c l a) (hr : EvD c r b) (e : cmpD op a b = some d) : EvT c (.Compare l [op] [r] pos) d :=
  fun s zs Q E hI k => wpAny_isTrue_Compare1 ((hl s hI).out _ E fun va h₁ t₁ k₁ ra => (hr _ (c.mono hI k₁)).out _ E fun vb h₂ t₂ k₂ rb =>
    (cmp_ok (H := c.H) c.hu e (ra.mono k₂) rb).out _ E fun v h₃ t₃ k₃ r₃ => by cases r₃; exact wpAny_truthy_bool (k h₃ t₃ ((k₁.trans k₂).trans k₃))) hm
theorem et_val {e : Expr} {d : Bool} (hp : isTrue e c.env (eval e c.env) = (do let v ← eval e c.env; standAt e.pos; holding [v] (truthy v))) (h : EvD c e (.bool d)) : EvT c e d :=
  fun s zs Q E hI k => wpAny_isTrue_value ((h s hI).out _ E fun v h₃ t₃ k₃ r₃ => by cases r₃; exact wpAny_truthy_bool (k h₃ t₃ k₃)) hp

theorem ev_ite {test body orelse : Expr} {pos : Pos} {b : Bool} {R : Heap → Value → Prop} (ht : EvT c test b) (h1 : b = true → EvR c body R) (h2 : b = false → EvR c orelse R) : EvR c (.IfExp test body orelse pos) R :=
  fun s hI => Ylds.of (fun zs Q E k => wpAny_IfExp (ht s zs _ E hI fun h' tk k₁ => by
    cases b with
    | true => exact (h1 rfl _ (c.mono hI k₁)).out Q E fun v h₂ t₂ k₂ r => k v h₂ t₂ (k₁.trans k₂) r
    | false => exact (h2 rfl _ (c.mono hI k₁)).out Q E fun v h₂ t₂ k₂ r => k v h₂ t₂ (k₁.trans k₂) r))

/-- expressions in a row -/
inductive EvAll (c : Cx) : List Expr → List D → Prop
  | nil : EvAll c [] []
  | cons {e : Expr} {es : List Expr} {d : D} {ds : List D} : starEach (e :: es) c.env = (false, eval e c.env) :: starEach es c.env → EvD c e d → EvAll c es ds → EvAll c (e :: es) (d :: ds)
theorem EvAll.out {pos : Pos} : ∀ {es : List Expr} {ds : List D}, EvAll c es ds → ∀ (s : Shared) (Q : List Value → Shared → Prop) (E : Value → Shared → Prop), c.I s.heap →
    (∀ vs h' (tk : Tk), Kp s.heap h' → Reps c.H h' vs ds → Q vs { s with heap := h', toks := tk.1 }) → ∀ (zs : 0 < s.toks := by first | assumption | exact Subtype.property _ | exact Nat.succ_pos _), wpAny c.M c.A (spliced (backTo pos (starEach es c.env))) Q E s
  | _, _, .nil, s, Q, E, _, k, zs => args_nil (k [] s.heap ⟨s.toks, zs⟩ (Kp.refl _) .nil)
  | _, _, .cons hs x xs, s, Q, E, hI, k, zs => args_cons ((x s hI).out _ E fun v h₁ t₁ k₁ r => EvAll.out xs _ _ E (c.mono hI k₁) fun vs h₂ t₂ k₂ rs => k (v :: vs) h₂ t₂ (k₁.trans k₂) (.cons (r.mono k₂) rs)) hs

theorem ev_tuple {es : List Expr} {ds : List D} {k : Nat} {pos : Pos} (h : EvAll c es ds) (hn : ds.length ≤ seqMax) : EvD c (.Tuple es k pos) (.tup ds) :=
  fun s hI => Ylds.of (fun zs Q E kk => Tuple_ (EvAll.out h s _ E hI fun vs h₁ t₁ k₁ rs =>
    wpAny_newObj_type (kk _ _ _ (k₁.trans (Kp.push _ _)) (rep_new_tup (c.hok (c.mono hI k₁)) rs)) (by show vs.toArray.size ≤ sizeLine; rw [List.size_toArray, rs.length]; exact seqMax_le hn)))
theorem ev_list {es : List Expr} {ds : List D} {pos : Pos} (h : EvAll c es ds) (hn : ds.length ≤ seqMax) : EvD c (.List es pos) (.lst ds) :=
  fun s hI => Ylds.of (fun zs Q E kk => List_ (EvAll.out h s _ E hI fun vs h₁ t₁ k₁ rs =>
    wpAny_newObj_type (kk _ _ _ (k₁.trans (Kp.push _ _)) (rep_new_lst (c.hok (c.mono hI k₁)) rs)) (by show vs.toArray.size ≤ sizeLine; rw [List.size_toArray, rs.length]; exact seqMax_le hn)))
end
end
section
open PySem PySem.W PyProof.Rows

noncomputable def isSl : Expr → Bool
  | .Slice _ _ _ _ => true
  | _ => false
theorem subscripted_plain {slice : Expr} (h : isSl slice = false) (o i : Value) : subscripted slice false o i = operate [o, i] (getItem o i) := by
  cases slice <;> first | rfl | cases h

noncomputable def itemD (a : D) (i : Int) : Option D := match a with
  | .tup xs => if decide (0 ≤ i) && decide (xs.length ≤ seqMax) then xs[i.toNat]? else none
  | .lst xs => if decide (0 ≤ i) && decide (xs.length ≤ seqMax) then xs[i.toNat]? else none
  | .str x => if decide (0 ≤ i) && decide (x.length ≤ seqMax) then x.cps[i.toNat]?.map fun ch => .str ⟨#[ch]⟩ else none
  | _ => none

theorem idx_hi {i : Int} {n : Nat} (h0 : 0 ≤ i) (h1 : i.toNat < n) (h2 : n ≤ seqMax) : i < 2 ^ 63 := by
  have : seqMax = 100000 := rfl
  omega
theorem seqIndex_nonneg {i : Int} {n : Nat} (h0 : 0 ≤ i) (h1 : i.toNat < n) : seqIndex? i n = some i.toNat := by
  unfold seqIndex?
  have e1 : ¬ i < 0 := by omega
  have e2 : ¬ i ≥ (n : Int) := by omega
  simp [e1, e2, h0, h1]

section
variable {c : Cx}
theorem ev_index {value slice : Expr} {pos : Pos} {a : D} {i : Int} {d : D} (hns : isSl slice = false) (hv : EvD c value a) (hs : EvD c slice (.int i)) (e : itemD a i = some d) : EvD c (.Subscript value slice pos) d := by
  intro s hI
  refine Ylds.of (fun zs Q E k => Subscript_ ((hv s hI).out _ E fun va h₁ t₁ k₁ ra => (hs _ (c.mono hI k₁)).out _ E fun vi h₂ t₂ k₂ ri => ?_))
  cases ri with | int i t =>
  replace ra := ra.mono k₂
  have kk := k₁.trans k₂
  have hsub := fun o i => subscripted_plain hns o i
  cases ra with
  | tup g1 g2 g3 =>
    simp only [itemD] at e
    split at e
    · rename_i hb
      obtain ⟨b1, b2⟩ := Bool.and_eq_true_iff.mp hb
      obtain ⟨x, ex, rx⟩ := g3.get e
      have b3 := (List.getElem?_eq_some_iff.mp e).1
      have b1 := of_decide_eq_true b1
      have b2 := of_decide_eq_true b2
      exact tail_any g2.typeIs slot_tuple_getitem.lookup (getItem_tuple (j := i.toNat) g2 (by omega) (idx_hi b1 b3 b2) (by rw [List.size_toArray, g3.length]; exact seqIndex_nonneg b1 b3) (by simpa using ex) (k x _ _ kk rx)) (hsub _ _)
    · cases e
  | lst g1 g2 g3 =>
    simp only [itemD] at e
    split at e
    · rename_i hb
      obtain ⟨b1, b2⟩ := Bool.and_eq_true_iff.mp hb
      obtain ⟨x, ex, rx⟩ := g3.get e
      have b3 := (List.getElem?_eq_some_iff.mp e).1
      have b1 := of_decide_eq_true b1
      have b2 := of_decide_eq_true b2
      exact tail_any g2.typeIs slot_list_getitem.lookup (wpAny_getItem_list g2 b1 (idx_hi b1 b3 b2) (by simpa using ex) (k x _ _ kk rx)) (hsub _ _)
    · cases e
  | str x t =>
    simp only [itemD] at e
    split at e
    · rename_i hb
      obtain ⟨b1, b2⟩ := Bool.and_eq_true_iff.mp hb
      obtain ⟨ch, ec, rfl⟩ := Option.map_eq_some_iff.mp e
      have b3 : i.toNat < x.length := (Array.getElem?_eq_some_iff.mp ec).1
      have b1 := of_decide_eq_true b1
      have b2 := of_decide_eq_true b2
      have b4 := idx_hi b1 b3 b2
      refine tail_any (typeIs_str _ _ _) F.slot_str_getitem.lookup (PySem.P.getItem_str (c := ch) ?_ ?_ (k _ _ _ kk (.str _ _))) (hsub _ _)
      · simp only [Bool.or_eq_false_iff, decide_eq_false_iff_not]; omega
      · rw [seqIndex_nonneg b1 b3]; exact ec
    · cases e
  | _ => exact none_ne e

theorem ev_neg {l : Expr} {pos : Pos} {i : Int} (hl : EvD c l (.int i)) : EvD c (.UnaryOp .USub l pos) (.int (-i)) :=
  fun s hI => Ylds.of (fun zs Q E k => wpAny_UnaryOp ((hl s hI).out _ E fun va h₁ t₁ k₁ ra => by cases ra; exact PySem.P.neg_int (k _ _ _ k₁ (.int _ _))))

/-- x[:i] of a text -/
theorem ev_upto_str {value u : Expr} {p pos : Pos} {x : Str} {i : Int} (hv : EvD c value (.str x)) (hu : EvD c u (.int i)) (hx : x.length ≤ seqMax) :
    EvD c (.Subscript value (.Slice Option.none (some u) Option.none p) pos) (.str (Txt.slice x none (some i))) := by
  intro s hI
  refine Ylds.of (fun zs Q E k => Subscript_ ((hv s hI).out _ E fun va h₁ t₁ k₁ ra => wpAny_Slice (evalPart_none_step (evalPart_some_step ((hu _ (c.mono hI k₁)).out _ E fun vi h₂ t₂ k₂ ri => evalPart_none_step ?_)))))
  cases ri with | int i ti =>
  cases ra with | str x tx =>
  refine tail_any (ops := [_, _]) (typeIs_str _ _ _) F.slot_str_getitem.lookup (wpAny_getItem_str_slice (l := none) (u := some (i, ti)) (st := none) ⟨_, Heap.get?_push_size _ rfl, rfl, rfl⟩ rfl
      (post_val_or_str ⟨Nat.le_trans (Txt.slice_le x none (some i)) (seqMax_le hx), fun t' tk => k _ _ _ ((k₁.trans k₂).trans (Kp.push _ _)) (.str _ _)⟩)) rfl

theorem reps_take {H : List Addr} {h : Heap} : ∀ {vs : List Value} {ds : List D} (n : Nat), Reps H h vs ds → Reps H h (vs.take n) (ds.take n)
  | _, _, 0, _ => by simpa using Reps.nil
  | _, _, n + 1, .nil => by simpa using Reps.nil
  | _, _, n + 1, .cons x xs => by simpa using Reps.cons x (reps_take n xs)
theorem reps_reverse {H : List Addr} {h : Heap} : ∀ {vs : List Value} {ds : List D}, Reps H h vs ds → Reps H h vs.reverse ds.reverse
  | _, _, .nil => by simpa using Reps.nil
  | _, _, .cons x xs => by simpa using (reps_reverse xs).append (.cons x .nil)

theorem kp_two (h : Heap) (a b : Obj) : Kp h ((h.push a).push b) := (Kp.push _ _).trans (Kp.push _ _)
theorem rep_two {H : List Addr} {h : Heap} (a : Obj) {vs : List Value} {xs : List D} (hH : HOK H h) (x : Reps H h vs xs) :
    Rep H ((h.push a).push { cls := .type "list", data := .seq vs.toArray }) (.ref (h.push a).objs.size) (.lst xs) :=
  rep_new_lst (hH.mono (Kp.push _ _)) (x.mono (Kp.push _ _))

/-- x[::-1] of a list -/
theorem ev_rev {value st : Expr} {p pos : Pos} {xs : List D} (hv : EvD c value (.lst xs)) (hs : EvD c st (.int (-1))) (hx : xs.length ≤ seqMax) :
    EvD c (.Subscript value (.Slice Option.none Option.none (some st) p) pos) (.lst xs.reverse) := by
  intro s hI
  refine Ylds.of (fun zs Q E k => Subscript_ ((hv s hI).out _ E fun va h₁ t₁ k₁ ra => wpAny_Slice (evalPart_none_step (evalPart_none_step (evalPart_some_step ((hs _ (c.mono hI k₁)).out _ E fun vi h₂ t₂ k₂ ri => ?_))))))
  cases ri with | int i ti =>
  cases ra with | @lst a vs _ g1 g2 g3 =>
  have g2 : h₂.IsList _ _ := g2.at fun o e => k₂ _ _ e
  have g3 := g3.mono k₂
  refine tail_any (ops := [.ref a, .ref h₂.objs.size]) (g2.push _).typeIs slot_list_getitem.lookup (wpAny_getItem_list_slice (g2.push _) (Heap.IsSliceOf.new ..) .none .none (.int _ _) (by decide) ?_ (by rw [List.size_toArray, g3.length]; exact seqMax_le hx)) rfl
  rw [PySem.W.krv_pick]
  exact k _ _ _ ((k₁.trans k₂).trans (kp_two _ _ _)) (rep_two _ (c.hok (c.mono (c.mono hI k₁) k₂)) (reps_reverse g3))
/-- x[:i] of a list -/
theorem ev_upto_lst {value u : Expr} {p pos : Pos} {xs : List D} {i : Int} (h0 : 0 ≤ i) (hv : EvD c value (.lst xs)) (hu : EvD c u (.int i)) (hx : xs.length ≤ seqMax) :
    EvD c (.Subscript value (.Slice Option.none (some u) Option.none p) pos) (.lst (xs.take i.toNat)) := by
  intro s hI
  refine Ylds.of (fun zs Q E k => Subscript_ ((hv s hI).out _ E fun va h₁ t₁ k₁ ra => wpAny_Slice (evalPart_none_step (evalPart_some_step ((hu _ (c.mono hI k₁)).out _ E fun vi h₂ t₂ k₂ ri => evalPart_none_step ?_)))))
  cases ri with | int i ti =>
  cases ra with | @lst a vs _ g1 g2 g3 =>
  have g2 : h₂.IsList _ _ := g2.at fun o e => k₂ _ _ e
  have g3 := g3.mono k₂
  refine tail_any (ops := [.ref h₂.objs.size, .ref a]) (g2.push _).typeIs slot_list_getitem.lookup (wpAny_getItem_list_slice (g2.push _) (Heap.IsSliceOf.new ..) .none (.int _ _) .none (by simp) ?_ (by rw [List.size_toArray, g3.length]; exact seqMax_le hx)) rfl
  have e : slicePick vs.toArray none (some i) none = (vs.take i.toNat).toArray := by
    have e' := slicePick_upto' vs.toArray i.toNat
    rw [Int.toNat_of_nonneg h0] at e'
    exact e'
  rw [e]
  exact k _ _ _ ((k₁.trans k₂).trans (kp_two _ _ _)) (rep_two _ (c.hok (c.mono (c.mono hI k₁) k₂)) (reps_take _ g3))
end
end
section
open PySem PySem.W PyProof.Rows

noncomputable def IsSeq (o : Obj) : Prop := ∃ vs n, o.data = .seq vs n
/-- something known of an object, that stays known while its own addresses and the lists and tuples in sight stand -/
structure HP where
  fp : List Addr
  p : List Addr → Heap → Prop
  mono : ∀ H H' h h', p H h → (∀ b o, h.get? b = some o → (b ∈ fp ∨ (b ∉ H ∧ IsSeq o)) → h'.get? b = some o) → (∀ b o, b ∉ H → h.get? b = some o → IsSeq o → b ∉ H') → p H' h'
  live : ∀ H h, p H h → ∀ b ∈ fp, ∃ o, h.get? b = some o
/-- what a name may hold: data, or an object of its own kind -/
inductive V where
  | d (x : D)
  | ob (a : Addr) (P : HP)
noncomputable def RV (H : List Addr) (h : Heap) (r : Value) : V → Prop
  | .d x => Rep H h r x
  | .ob a P => r = .ref a ∧ P.p H h
noncomputable def V.fp : V → List Addr
  | .d _ => []
  | .ob _ P => P.fp
theorem RV.mono' {H H' : List Addr} {h h' : Heap} {r : Value} {v : V} (x : RV H h r v) (hk : ∀ b o, h.get? b = some o → (b ∈ v.fp ∨ (b ∉ H ∧ IsSeq o)) → h'.get? b = some o)
    (hH : ∀ b o, b ∉ H → h.get? b = some o → IsSeq o → b ∉ H') : RV H' h' r v := by
  cases v with
  | d y => exact Rep.mono' (fun a o ha e hs => hk a o e (.inr ⟨ha, hs⟩)) hH x
  | ob a P => exact ⟨x.1, P.mono _ _ _ _ x.2 hk hH⟩
theorem RV.mono {H : List Addr} {h h' : Heap} {r : Value} {v : V} (x : RV H h r v) (k : Kp h h') : RV H h' r v := x.mono' (fun b o e _ => k b o e) fun _ _ ha _ _ => ha
noncomputable abbrev EvV (c : Cx) (e : Expr) (v : V) : Prop := EvR c e (fun h r => RV c.H h r v)
inductive RVs (H : List Addr) (h : Heap) : List Value → List V → Prop
  | nil : RVs H h [] []
  | cons {r v rs vs} : RV H h r v → RVs H h rs vs → RVs H h (r :: rs) (v :: vs)
theorem RVs.mono {H : List Addr} {h h' : Heap} (k : Kp h h') : ∀ {r : List Value} {v : List V}, RVs H h r v → RVs H h' r v
  | _, _, .nil => .nil
  | _, _, .cons x xs => .cons (RV.mono x k) (xs.mono k)

inductive EvVs (c : Cx) : List Expr → List V → Prop
  | nil : EvVs c [] []
  | cons {e : Expr} {es : List Expr} {v : V} {vs : List V} : starEach (e :: es) c.env = (false, eval e c.env) :: starEach es c.env → EvV c e v → EvVs c es vs → EvVs c (e :: es) (v :: vs)
theorem EvVs.out {c : Cx} {pos : Pos} : ∀ {es : List Expr} {vs : List V}, EvVs c es vs → ∀ (s : Shared) (Q : List Value → Shared → Prop) (E : Value → Shared → Prop), c.I s.heap →
    (∀ rs h' (tk : Tk), Kp s.heap h' → RVs c.H h' rs vs → Q rs { s with heap := h', toks := tk.1 }) → ∀ (zs : 0 < s.toks := by first | assumption | exact Subtype.property _ | exact Nat.succ_pos _), wpAny c.M c.A (spliced (backTo pos (starEach es c.env))) Q E s
  | _, _, .nil, s, Q, E, _, k, zs => args_nil (k [] s.heap ⟨s.toks, zs⟩ (Kp.refl _) .nil)
  | _, _, .cons hs x xs, s, Q, E, hI, k, zs => args_cons ((x s hI).out _ E fun v h₁ t₁ k₁ r => EvVs.out xs _ _ E (c.mono hI k₁) fun vs h₂ t₂ k₂ rs => k (v :: vs) h₂ t₂ (k₁.trans k₂) (.cons (r.mono k₂) rs)) hs
theorem EvVs.plain {c : Cx} {pos : Pos} : ∀ {es : List Expr} {vs : List V}, EvVs c es vs → (backTo pos (starEach es c.env)).any (·.1) = false
  | _, _, .nil => rfl
  | _, _, .cons hs x xs => by
    rw [hs]
    show (false || (backTo pos (starEach _ c.env)).any (·.1)) = false
    rw [xs.plain]; rfl

section
variable {c : Cx}
/-- a call of a def -/
theorem ev_call {x : Str} {np pos : Pos} {e : Expr} {es : List Expr} {v : V} {vs : List V} {f : Addr} {R : Heap → Value → Prop} (hf : EvR c (.Name x np) (fun _ r => r = .ref f))
    (hfn : ∀ h, c.I h → ∃ o fd, h.get? f = some o ∧ o.data = .func fd) (ha : EvVs c (e :: es) (v :: vs))
    (hc : ∀ s rs, c.I s.heap → RVs c.H s.heap rs (v :: vs) → Ylds c.M c.A (call (.ref f) rs) R s) : EvR c (.Call (.Name x np) (e :: es) [] pos) R := by
  intro s hI
  refine Ylds.of (fun zs Q E k => Call_Name rfl ((hf s hI).out _ E fun fv h₁ t₁ k₁ r => ?_))
  subst r
  obtain ⟨o, fd, ho, hd⟩ := hfn _ (c.mono hI k₁)
  cases ha with | cons hs he hr =>
  refine callWith_def hd ((EvVs.cons hs he hr).out _ _ E (c.mono hI k₁) fun rs h₂ t₂ k₂ q => ⟨k₂ _ _ ho, ?_⟩) hs
  exact (hc _ rs (c.mono (c.mono hI k₁) k₂) q).out Q E fun r h₃ t₃ k₃ p => k r h₃ t₃ ((k₁.trans k₂).trans k₃) p
theorem ev_callB {x : Str} {np pos : Pos} {e : Expr} {es : List Expr} {v : V} {vs : List V} {id : String} {R : Heap → Value → Prop} (hf : EvR c (.Name x np) (fun _ r => r = .builtin id)) (ha : EvVs c (e :: es) (v :: vs))
    (hc : ∀ s rs, c.I s.heap → RVs c.H s.heap rs (v :: vs) → Ylds c.M c.A (call (.builtin id) rs) R s) : EvR c (.Call (.Name x np) (e :: es) [] pos) R := by
  intro s hI
  refine Ylds.of (fun zs Q E k => Call_Name rfl ((hf s hI).out _ E fun fv h₁ t₁ k₁ r => ?_))
  subst r
  cases ha with | cons hs he hr =>
  refine PyProof.Rows.callWith_builtin1 ((EvVs.cons hs he hr).out _ _ E (c.mono hI k₁) fun rs h₂ t₂ k₂ q => ?_) hs hr.plain
  exact (hc _ rs (c.mono (c.mono hI k₁) k₂) q).out Q E fun r h₃ t₃ k₃ p => k r h₃ t₃ ((k₁.trans k₂).trans k₃) p
theorem ev_callT {x : Str} {np pos : Pos} {e : Expr} {es : List Expr} {v : V} {vs : List V} {T : String} {R : Heap → Value → Prop} (hf : EvR c (.Name x np) (fun _ r => r = .type T)) (ha : EvVs c (e :: es) (v :: vs))
    (hc : ∀ s rs, c.I s.heap → RVs c.H s.heap rs (v :: vs) → Ylds c.M c.A (call (.type T) rs) R s) : EvR c (.Call (.Name x np) (e :: es) [] pos) R := by
  intro s hI
  refine Ylds.of (fun zs Q E k => Call_Name rfl ((hf s hI).out _ E fun fv h₁ t₁ k₁ r => ?_))
  subst r
  cases ha with | cons hs he hr =>
  refine PyProof.Rows.callWith_type1 ((EvVs.cons hs he hr).out _ _ E (c.mono hI k₁) fun rs h₂ t₂ k₂ q => ?_) hs hr.plain
  exact (hc _ rs (c.mono (c.mono hI k₁) k₂) q).out Q E fun r h₃ t₃ k₃ p => k r h₃ t₃ ((k₁.trans k₂).trans k₃) p
end

section
variable {prog : Program} {w : World} {A : Around} {H : List Addr} {s : Shared}
noncomputable def lenD : D → Option Int
  | .str x => if x.length ≤ seqMax then some x.length else none
  | .tup xs => if xs.length ≤ seqMax then some xs.length else none
  | .lst xs => if xs.length ≤ seqMax then some xs.length else none
  | _ => none
theorem len_ok {a : D} {n : Int} {va : Value} (e : lenD a = some n) (ra : Rep H s.heap va a) : Ylds (model prog w) A (call (.builtin "len") [va]) (fun h v => Rep H h v (.int n)) s := by
  have hm : seqMax = 100000 := rfl
  cases ra with
  | str x t =>
    simp only [lenD] at e
    split at e
    · cases e; exact yl_val _ _ (.int _ _) fun Q E k => PySem.P.len_str (by omega) k
    · cases e
  | tup h1 h2 h3 =>
    simp only [lenD] at e
    split at e
    · cases e
      have hl := h3.length
      refine yl_val (.int _ (s.toks + 1)) _ (.int _ _) fun Q E k => PyProof.Rows.len_tuple h2 (by rw [List.size_toArray]; omega) (by rw [List.size_toArray, hl]; exact k)
    · cases e
  | lst h1 h2 h3 =>
    simp only [lenD] at e
    split at e
    · cases e
      have hl := h3.length
      refine yl_val (.int _ (s.toks + 1)) _ (.int _ _) fun Q E k => PySem.Calls.call_len_list h2 (by rw [List.size_toArray]; omega) (by rw [List.size_toArray, hl]; exact k)
    · cases e
  | _ => exact none_neB (d := true) (by cases e)

theorem int_flt_ok (hA : A.handled = none) {x : UInt64} {t : Tok} (hf : Float64.isFinite x = true) :
    Ylds (model prog w) A (call (.type "int") [.float x t]) (fun h v => Rep H h v (.int (PySem.Flt.toInt Float64.truncOf x))) s :=
  yl_val _ _ (.int _ _) fun Q E k => PySem.Flt.call_int_float3 hA (fun z => by simp [Float64.isFinite, Float64.isNaN] at hf z; split at hf <;> simp_all) (fun z => by simp [Float64.isFinite, Float64.isInf] at hf z; split at hf <;> simp_all) fun _ => k
end
end
section
open PySem PySem.W PyProof.Rows PySem.Builtin PySem.Builtin.Str

noncomputable def strs? : List D → Option (List Str)
  | [] => some []
  | .str x :: r => (strs? r).map (x :: ·)
  | _ :: _ => none
theorem strs_are {H : List Addr} {h : Heap} {vs : List Value} : ∀ {ds : List D} {ys : List Str}, Reps H h vs ds → strs? ds = some ys → StrsAre vs ys := by
  induction vs with
  | nil => intro ds ys r e; cases r; rw [strs?] at e; cases e; exact .nil
  | cons v vs ih =>
    intro ds ys r e
    cases r with | cons x xs =>
    cases x with
    | str x t =>
      rw [strs?] at e
      obtain ⟨r, e', rfl⟩ := Option.map_eq_some_iff.mp e
      exact .cons _ _ (ih xs e')
    | _ => simp only [strs?] at e; cases e
theorem reps_of_strs {H : List Addr} {h : Heap} : ∀ (l : List (Str × Tok)), Reps H h (strValues l) (l.map fun p => D.str p.1)
  | [] => .nil
  | (x, t) :: r => .cons (.str x t) (reps_of_strs r)

noncomputable def joinD (sep : Str) (xs : List D) : Option Str := match strs? xs with
  | some ys => if (ys.map (·.length)).sum + ys.length * sep.length ≤ seqMax then some (Txt.join sep ys) else none
  | none => none

section
variable {c : Cx}
theorem ev_meth0 {o : Expr} {name : Str} {apos pos : Pos} {x : Str} {d : D} (hbase : attributeBase o name c.env (eval o c.env) = eval o c.env) (hline : (apos.endLine == pos.line) = true)
    (ho : EvD c o (.str x)) (hm : ∀ t s Q E, (∀ v h' tk, Kp s.heap h' → Rep c.H h' v d → Q v { s with heap := h', toks := tk }) → MethodOnS c.prog c.w c.A E name (.str x t) pos [] Q s) :
    EvD c (.Call (.Attribute o name apos) [] [] pos) d := by
  intro s hI
  refine Ylds.of (fun zs Q E k => Call_method0 hbase hline ((ho s hI).out _ E fun v h₁ t₁ k₁ r => ?_))
  cases r with | str x t =>
  exact hm t _ Q E fun v h' tk k' r' => k v h' tk (k₁.trans k') r'

theorem ev_lower {o : Expr} {apos pos : Pos} {x : Str} (hbase : attributeBase o "lower" c.env (eval o c.env) = eval o c.env) (hline : (apos.endLine == pos.line) = true) (ho : EvD c o (.str x)) (hx : tooLong (Txt.lower x).length = false) :
    EvD c (.Call (.Attribute o "lower" apos) [] [] pos) (.str (Txt.lower x)) :=
  ev_meth0 hbase hline ho fun t s Q E k => SB.lower hx (k _ _ _ (Kp.refl _) (.str _ _))
theorem ev_upper {o : Expr} {apos pos : Pos} {x : Str} (hbase : attributeBase o "upper" c.env (eval o c.env) = eval o c.env) (hline : (apos.endLine == pos.line) = true) (ho : EvD c o (.str x)) (hx : tooLong (Txt.upper x).length = false) :
    EvD c (.Call (.Attribute o "upper" apos) [] [] pos) (.str (Txt.upper x)) :=
  ev_meth0 hbase hline ho fun t s Q E k => SB.upper hx (k _ _ _ (Kp.refl _) (.str _ _))

theorem ev_meth {o : Expr} {name : Str} {id : String} {apos pos : Pos} {x : Str} {e : Expr} {es : List Expr} {v : V} {vs : List V} {R : Heap → Value → Prop} (hbase : attributeBase o name c.env (eval o c.env) = eval o c.env) (hline : (apos.endLine == pos.line) = true)
    (hlen : (e :: es).length < 20)
    (slot : Slot "str" name id) (ty : typeOf (.builtin id) = pure (.type "method_descriptor")) (ho : EvD c o (.str x)) (ha : EvVs c (e :: es) (v :: vs))
    (hc : ∀ s t rs, c.I s.heap → RVs c.H s.heap rs (v :: vs) → Ylds c.M c.A (call (.builtin id) (.str x t :: rs)) R s) :
    EvR c (.Call (.Attribute o name apos) (e :: es) [] pos) R := by
  intro s hI
  have hpl := ha.plain (pos := pos)
  refine Ylds.of (fun zs Q E k => wpAny_Call_method_lateS hbase ?_ hline ((ho s hI).out _ E fun w h₁ t₁ k₁ r => ?_))
  · have h1 : (backTo pos (starEach (e :: es) c.env)).all (fun x => !x.1) = true := by
      rw [List.all_eq_true]; intro y hy
      have := List.any_eq_false.mp hpl y hy
      simpa using this
    rw [h1]
    show (true && true && decide _) = true
    simp only [Bool.and_self, Bool.true_and, decide_eq_true_eq]
    show (e :: es).length + 0 + 0 < 30
    omega
  cases r with | str x t =>
  refine ⟨"str", id, F.plainAttrs_str, slot, ty, typeIs_str _ _ _, (fun _ e => nomatch e), ?_⟩
  cases ha with | cons hs he hr =>
  have hout := (EvVs.cons hs he hr).out (pos := pos) { s with heap := h₁, toks := t₁ } (fun rs s₂ => wpAny c.M c.A (call (.builtin id) ([.str x t] ++ rs)) Q E s₂) E (c.mono hI k₁) fun rs h₂ t₂ k₂ q =>
    (hc { s with heap := h₂, toks := t₂ } t rs (c.mono (c.mono hI k₁) k₂) q).out Q E fun r h₃ t₃ k₃ p => k r h₃ t₃ ((k₁.trans k₂).trans k₃) p
  rw [hs] at hpl hout ⊢
  exact Calls.callWith_builtin hpl (Calls.evalArgs_plain hout)

theorem ev_join {o e : Expr} {apos pos : Pos} {x y : Str} {xs : List D} (hbase : attributeBase o "join" c.env (eval o c.env) = eval o c.env) (hline : (apos.endLine == pos.line) = true)
    (hs : starEach [e] c.env = [(false, eval e c.env)]) (ho : EvD c o (.str x)) (ha : EvD c e (.lst xs)) (hj : joinD x xs = some y) : EvD c (.Call (.Attribute o "join" apos) [e] [] pos) (.str y) := by
  refine ev_meth (v := .d (.lst xs)) (vs := []) hbase hline (by simp) F.slot_str_join F.type_str_join ho (.cons hs ha .nil) fun s t rs hI q => ?_
  cases q with | cons q qs =>
  cases qs
  simp only [joinD] at hj
  split at hj
  · rename_i ys hys
    split at hj
    · rename_i hb
      cases hj
      have q : Rep c.H s.heap _ (.lst xs) := q
      cases q with | lst h1 h2 h3 =>
      exact Ylds.of (fun zs Q E k => PyProof.Rows.join_list h2 (strs_are h3 hys) (by have : seqMax = 100000 := rfl; omega) fun t' tk => k _ _ _ (Kp.refl _) (.str _ _))
    · cases hj
  · cases hj

theorem split_max' {prog : Program} {w : World} {A : Around} {E : Value → Shared → Prop} {s : Shared} {x y : Str} {t u v : Tok} {k : Int} {Q : Value → Shared → Prop} (hy : (y.length == 0) = false) (hk : (decide (k < -(2 ^ 63 : Int)) || decide (k ≥ 2 ^ 63)) = false)
    (hq : ∀ l tk, l.map (·.1) = Txt.splitMax x y k → Q (.ref s.heap.objs.size) { s with heap := s.heap.push { cls := .type "list", data := .seq (strValues l).toArray }, toks := tk })
    (hsz : x.length + 2 ≤ sizeLine) : wpAny (model prog w) A (call (.builtin "str.split") [.str x t, .str y u, .int k v]) Q E s := by
  have hn : (partsBetween x (occurrences x y 0 x.length (limitOf x k)) y.length).length ≤ sizeLine := by
    have e1 := StrLaws.occ_length_le_len x y 0 x.length (limitOf x k)
    rw [length_partsBetween]; omega
  cases h1 : (decide (x.length < y.length) || decide (strKind x < strKind y))
  · cases hf : (occurrences x y 0 x.length (limitOf x k)).isEmpty
    · refine call_meets F.slot_str_split (typeIs_str _ _ _) F.entry_str_split (F.args_str_split_3 _ _ _) (meets_str_split_sep_max x y k t u v hk h1 hy hf (by omega) hn) ?_
      show wants Q E _ { s with toks := _, heap := s.heap.push { cls := .type "list", data := .seq (strsFrom s.toks (partsBetween x (occurrences x y 0 x.length (limitOf x k)) y.length)).toArray } }
      rw [strsFrom_eq]
      exact hq (numbered s.toks _) _ ((numbered_texts _ _).trans ((if_neg (ne_true_of_eq_false h1)).trans (if_neg (ne_true_of_eq_false hf))).symm)
    · exact call_meets F.slot_str_split (typeIs_str _ _ _) F.entry_str_split (F.args_str_split_3 _ _ _) (meets_str_split_max_not_found x y k t u v hk h1 hy hf)
        (hq [(x, t)] s.toks ((if_neg (ne_true_of_eq_false h1)).trans (if_pos hf)).symm)
  · exact call_meets F.slot_str_split (typeIs_str _ _ _) F.entry_str_split (F.args_str_split_3 _ _ _) (meets_str_split_max_cannot_occur x y k t u v hk h1)
      (hq [(x, t)] s.toks (if_pos h1).symm)

theorem ev_split {o e₁ e₂ : Expr} {apos pos : Pos} {x y : Str} {n : Int} (hbase : attributeBase o "split" c.env (eval o c.env) = eval o c.env) (hline : (apos.endLine == pos.line) = true)
    (hs : starEach [e₁, e₂] c.env = (false, eval e₁ c.env) :: starEach [e₂] c.env) (hs2 : starEach [e₂] c.env = (false, eval e₂ c.env) :: starEach [] c.env) (ho : EvD c o (.str x)) (ha : EvD c e₁ (.str y)) (hb : EvD c e₂ (.int n))
    (hx : x.length ≤ seqMax) (hy : (y.length == 0) = false) (hk : (decide (n < -(2 ^ 63 : Int)) || decide (n ≥ 2 ^ 63)) = false) :
    EvD c (.Call (.Attribute o "split" apos) [e₁, e₂] [] pos) (.lst ((Txt.splitMax x y n).map .str)) := by
  refine ev_meth (v := .d (.str y)) (vs := [.d (.int n)]) hbase hline (by simp) F.slot_str_split F.type_str_split ho (.cons hs ha (.cons hs2 hb .nil)) fun s t rs hI q => ?_
  cases q with | cons q qs =>
  cases qs with | cons q2 qs =>
  cases qs
  have q : Rep c.H s.heap _ (.str y) := q
  have q2 : Rep c.H s.heap _ (.int n) := q2
  cases q with | str y u =>
  cases q2 with | int n v =>
  refine Ylds.of (fun zs Q E k => split_max' hy hk (fun l tk e => k _ _ _ (Kp.push _ _) ?_) ?_)
  · have := rep_new_lst (vs := strValues l) (c.hok hI) (reps_of_strs l)
    have e2 : l.map (fun p => D.str p.1) = (Txt.splitMax x y n).map D.str := by rw [← e, List.map_map]; rfl
    rw [e2] at this
    exact this
  · have : seqMax = 100000 := rfl
    rw [sizeLine_eq]; omega

theorem ev_strindex {o e : Expr} {apos pos : Pos} {x y : Str} (hbase : attributeBase o "index" c.env (eval o c.env) = eval o c.env) (hline : (apos.endLine == pos.line) = true)
    (hs : starEach [e] c.env = [(false, eval e c.env)]) (ho : EvD c o (.str x)) (ha : EvD c e (.str y)) (hf : 0 ≤ Txt.find x y) : EvD c (.Call (.Attribute o "index" apos) [e] [] pos) (.int (Txt.find x y)) := by
  refine ev_meth (v := .d (.str y)) (vs := []) hbase hline (by simp) F.slot_str_index F.type_str_index ho (.cons hs ha .nil) fun s t rs hI q => ?_
  cases q with | cons q qs =>
  cases qs
  have q : Rep c.H s.heap _ (.str y) := q
  cases q with | str y u =>
  exact Ylds.of (fun zs Q E k => index_or c.hh (fun h _ => by omega) fun _ _ => k _ _ _ (Kp.refl _) (.int _ _))
end
end
section
open PySem PySem.W PyProof.Rows

noncomputable def fltAt (a b c : UInt64) : Nat → UInt64
  | 0 => a
  | 1 => b
  | _ => c
noncomputable def best3 (f : UInt64 → UInt64 → Bool) (a b c : UInt64) : UInt64 := if f b a then (if f c b then c else b) else (if f c a then c else a)
noncomputable def maxF (a b c : UInt64) : UInt64 := best3 (fun x y => Float64.cmp x y == some Ordering.gt) a b c
noncomputable def minF (a b c : UInt64) : UInt64 := best3 (fun x y => Float64.cmp x y == some Ordering.lt) a b c

theorem at3 {a b c : UInt64} {t u x : Tok} {i : Nat} {v : Value} (h : (#[Value.float a t, .float b u, .float c x] : Array Value)[i]? = some v) : ∃ k, v = .float (fltAt a b c i) k ∧ (k = t ∨ k = u ∨ k = x) := by
  match i, h with
  | 0, h => exact ⟨t, by simpa [fltAt] using h.symm, .inl rfl⟩
  | 1, h => exact ⟨u, by simpa [fltAt] using h.symm, .inr (.inl rfl)⟩
  | 2, h => exact ⟨x, by simpa [fltAt] using h.symm, .inr (.inr rfl)⟩
  | n + 3, h => simp at h
theorem arg3 (f : UInt64 → UInt64 → Bool) (a b c : UInt64) : fltAt a b c (argBest (fun i j => f (fltAt a b c i) (fltAt a b c j)) 2) = best3 f a b c := by
  unfold best3
  cases h1 : f b a <;> simp only [argBest, fltAt, h1, if_true, if_false, Bool.false_eq_true]
  · cases h2 : f c a <;> simp [fltAt, h2]
  · cases h2 : f c b <;> simp [fltAt, h2]

section
variable {prog : Program} {w : World} {A : Around} {H : List Addr} {s : Shared}

theorem three_ok {id : String} {op : CmpOp} (f : UInt64 → UInt64 → Bool) (hh : A.handled = none)
    (hcall : ∀ {a b c : Value} {Q : Value → Shared → Prop} {E : Value → Shared → Prop}, wpAny (model prog w) A.in1 (pyIter (.ref s.heap.objs.size)) (fun it s₂ => ∃ I fp wr n P St bt, it = .ref I ∧ Walks prog w A.in1 I fp wr n P St ∧ St 0 s₂.heap ∧ (∀ b ∈ fp, b < s₂.heap.objs.size) ∧ 0 < n ∧ CmpOf prog w A.in1 op P bt ∧
      ∀ v h' tk, P (argBest bt (n - 1)) v → (∀ b o, b ∉ wr → s₂.heap.get? b = some o → h'.get? b = some o) → Q v { s₂ with heap := h', toks := tk }) E
      { s with heap := s.heap.push { cls := .type "tuple", data := .seq #[a, b, c] } } → wpAny (model prog w) A (call (.builtin id) [a, b, c]) Q E s)
    (hcmp : ∀ {a b : UInt64} {t u : Tok} {Q : Value → Shared → Prop} {E : Value → Shared → Prop} {s : Shared}, Q (.bool (f a b)) s → wpAny (model prog w) A.in1 (richCompare op (.float a t) (.float b u)) Q E s)
    (a b c : UInt64) (t u x : Tok) (z1 : t ≠ 0) (z2 : u ≠ 0) (z3 : x ≠ 0) : Ylds (model prog w) A (call (.builtin id) [.float a t, .float b u, .float c x]) (fun h v => Rep H h v (.flt (best3 f a b c))) s := by
  refine Ylds.of (fun zs Q E k => hcall ?_)
  have hT : (s.heap.push { cls := .type "tuple", data := .seq #[.float a t, .float b u, .float c x] }).IsTuple s.heap.objs.size #[.float a t, .float b u, .float c x] := ⟨_, Heap.get?_push_size _ rfl, rfl, 0, rfl⟩
  refine wpAny_pyIter_tuple hT ?_
  have hsz : (s.heap.push { cls := .type "tuple", data := .seq #[.float a t, .float b u, .float c x] }).objs.size = s.heap.objs.size + 1 := Heap.size_push ..
  refine ⟨_, [_, s.heap.objs.size], [_], _, _, _, fun i j => f (fltAt a b c i) (fltAt a b c j), rfl, Walks.tuple (A := A.in1) hh _ s.heap.objs.size (by rw [hsz]; exact Nat.ne_of_lt (Nat.lt_succ_self _)) #[.float a t, .float b u, .float c x],
    ⟨⟨_, Heap.get?_push_size _ rfl, rfl, rfl⟩, hT.push _⟩, fun d hd => ?_, by simp, fun i j vi vj s Q E hi hj hQ => ?_, fun v h' tk hP hk => ?_⟩
  · show d < ((s.heap.push _).push _).objs.size
    rw [Heap.size_push, hsz]
    rcases List.mem_cons.mp hd with rfl | hd
    · rw [hsz]; exact Nat.lt_succ_self _
    · rcases List.mem_cons.mp hd with rfl | hd
      · exact Nat.lt_succ_of_lt (Nat.lt_succ_self _)
      · cases hd
  · obtain ⟨k1, rfl, _⟩ := at3 hi
    obtain ⟨k2, rfl, _⟩ := at3 hj
    exact hcmp hQ
  · have hold : Kp s.heap h' := fun d o e => by
      refine hk d o (fun hm => ?_) (Heap.get?_push_of_some _ (Heap.get?_push_of_some _ e))
      rcases List.mem_cons.mp hm with e1 | hm
      · have := Heap.lt_size e; rw [e1, hsz] at this; exact Nat.lt_irrefl _ (Nat.lt_of_succ_lt this)
      · cases hm
    obtain ⟨k1, e, q⟩ := at3 hP
    have zk : k1 ≠ 0 := by rcases q with rfl | rfl | rfl <;> assumption
    have e2 : (#[Value.float a t, .float b u, .float c x] : Array Value).size - 1 = 2 := rfl
    rw [e2, arg3] at e
    exact k v h' tk hold (by rw [e]; exact .flt _ _ zk)

theorem max_ok (hh : A.handled = none) (a b c : UInt64) (t u x : Tok) (z1 : t ≠ 0) (z2 : u ≠ 0) (z3 : x ≠ 0) : Ylds (model prog w) A (call (.builtin "max") [.float a t, .float b u, .float c x]) (fun h v => Rep H h v (.flt (maxF a b c))) s :=
  three_ok (op := .Gt) _ hh (fun h => call_max_three h) (fun h => AutoFloatOps.gt_0 h) a b c t u x z1 z2 z3
theorem min_ok (hh : A.handled = none) (a b c : UInt64) (t u x : Tok) (z1 : t ≠ 0) (z2 : u ≠ 0) (z3 : x ≠ 0) : Ylds (model prog w) A (call (.builtin "min") [.float a t, .float b u, .float c x]) (fun h v => Rep H h v (.flt (minF a b c))) s :=
  three_ok (op := .Lt) _ hh (fun h => call_min_three h) (fun h => AutoFloatOps.lt_0 h) a b c t u x z1 z2 z3
end
end
section
open PySem PySem.W PyProof.Rows

/-- a fresh iterator over data -/
structure Its (prog : Program) (w : World) (A : Around) (H : List Addr) (h₁ : Heap) (I : Addr) (ds : List D) (tp hid : Bool) (fp : List Addr) (P : Nat → Value → Prop) (St : Nat → Heap → Prop) : Prop where
  W : Walks prog w A I fp [I] ds.length P St
  new : h₁.objs.size ≤ I
  live : ∀ i h, St i h → ∃ o, h.get? I = some o
  fps : ∀ b ∈ fp, b = I ∨ ((b ∉ H ∨ hid = true) ∧ ∃ o, h₁.get? b = some o ∧ IsSeq o)
  item : ∀ i v, i < ds.length → P i v → ∃ d, ds[i]? = some d ∧ Rep H h₁ v d
  go : tp = true → ∀ i (s : Shared) T elts x1 pos (Q : Unit → Shared → Prop) E, St i s.heap → Q () s → wpAny (model prog w) A (letOwnedTupleGo (.Tuple elts x1 pos) (.ref I) (.ref T)) Q E s

theorem get_none_ge {h : Heap} {a : Addr} (ha : h.objs.size ≤ a) : h.get? a = none := by
  cases e : h.get? a with
  | none => rfl
  | some o' => exact absurd (Heap.lt_size e) (Nat.not_lt.mpr ha)

/-- the value it gives walks over data -/
noncomputable def ItV (prog : Program) (w : World) (A : Around) (H : List Addr) (ds : List D) (tp hid : Bool) (v : Value) (s : Shared) : Prop :=
  ∀ (Q : Value → Shared → Prop) (E : Value → Shared → Prop),
    (∀ I h' fp P St, Kp s.heap h' → h'.objs.size = I + 1 → Its prog w A H s.heap I ds tp hid fp P St → St 0 h' → (∀ b ∈ fp, b < h'.objs.size) → Q (.ref I) { s with heap := h' }) →
    wpAny (model prog w) A (pyIter v) Q E s

noncomputable def EvIt (c : Cx) (e : Expr) (ds : List D) (tp hid : Bool) : Prop := ∀ (s : Shared), 0 < s.toks → ∀ (Q : Value → Shared → Prop) (E : Value → Shared → Prop), c.I s.heap →
  (∀ v h' (tk : Tk), Kp s.heap h' → ItV c.prog c.w c.A c.H ds tp hid v { s with heap := h', toks := tk.1 } → Q v { s with heap := h', toks := tk.1 }) → wpAny c.M c.A (eval e c.env) Q E s

theorem its_list {prog : Program} {w : World} {A : Around} {H : List Addr} {s : Shared} {a : Addr} {vs : List Value} {ds : List D} (hh : A.handled = none) {hid : Bool} (ha : a ∉ H ∨ hid = true) (hl : s.heap.IsList a vs.toArray) (hr : Reps H s.heap vs ds) : ItV prog w A H ds true hid (.ref a) s := by
  intro Q E k
  have hlt : a < s.heap.objs.size := by obtain ⟨o, ho, _⟩ := hl; exact Heap.lt_size ho
  have hlen : vs.toArray.size = ds.length := by rw [List.size_toArray, hr.length]
  refine wpAny_pyIter_list hl (k _ _ [s.heap.objs.size, a] (fun i v => vs.toArray[i]? = some v) (fun i h => h.IsListIter s.heap.objs.size a i ∧ h.IsList a vs.toArray) (Kp.push _ _) (Heap.size_push ..) ?_ ⟨⟨_, Heap.get?_push_size _ rfl, rfl, rfl⟩, hl.push _⟩ fun b hb => ?_)
  · refine ⟨?_, Nat.le_refl _, fun i h st => let ⟨o, e, _⟩ := st.1; ⟨o, e⟩, fun b hb => (List.mem_cons.mp hb).imp id fun hb => by rw [List.mem_singleton.mp hb]; exact ⟨ha, (let ⟨o, ho, _, n, hd⟩ := hl; ⟨o, ho, _, n, hd⟩)⟩, fun i v _ hv => hr.get' (by simpa using hv), fun _ i s T elts x1 pos Q E st hQ => wpAny_letOwnedTupleGo_listiter st.1 hQ⟩
    rw [← hlen]
    exact Walks.list hh _ a (Nat.ne_of_lt hlt) _
  · rw [Heap.size_push]
    rcases List.mem_cons.mp hb with rfl | hb
    · exact Nat.lt_succ_self _
    · rw [List.mem_singleton.mp hb]; exact Nat.lt_succ_of_lt hlt
theorem its_tuple {prog : Program} {w : World} {A : Around} {H : List Addr} {s : Shared} {a : Addr} {vs : List Value} {ds : List D} (hh : A.handled = none) {hid : Bool} (ha : a ∉ H ∨ hid = true) (hl : s.heap.IsTuple a vs.toArray) (hr : Reps H s.heap vs ds) : ItV prog w A H ds false hid (.ref a) s := by
  intro Q E k
  have hlt : a < s.heap.objs.size := by obtain ⟨o, ho, _⟩ := hl; exact Heap.lt_size ho
  have hlen : vs.toArray.size = ds.length := by rw [List.size_toArray, hr.length]
  refine wpAny_pyIter_tuple hl (k _ _ [s.heap.objs.size, a] (fun i v => vs.toArray[i]? = some v) (fun i h => h.IsTupleIter s.heap.objs.size a i ∧ h.IsTuple a vs.toArray) (Kp.push _ _) (Heap.size_push ..) ?_ ⟨⟨_, Heap.get?_push_size _ rfl, rfl, rfl⟩, hl.push _⟩ fun b hb => ?_)
  · refine ⟨?_, Nat.le_refl _, fun i h st => let ⟨o, e, _⟩ := st.1; ⟨o, e⟩, fun b hb => (List.mem_cons.mp hb).imp id fun hb => by rw [List.mem_singleton.mp hb]; exact ⟨ha, (let ⟨o, ho, _, n, hd⟩ := hl; ⟨o, ho, _, n, hd⟩)⟩, fun i v _ hv => hr.get' (by simpa using hv), fun h => nomatch h⟩
    rw [← hlen]
    exact Walks.tuple hh _ a (Nat.ne_of_lt hlt) _
  · rw [Heap.size_push]
    rcases List.mem_cons.mp hb with rfl | hb
    · exact Nat.lt_succ_self _
    · rw [List.mem_singleton.mp hb]; exact Nat.lt_succ_of_lt hlt
noncomputable def signs (x : Str) : List D := x.cps.toList.map fun ch => .str ⟨#[ch]⟩
theorem its_str {prog : Program} {w : World} {A : Around} {H : List Addr} {s : Shared} {x : Str} {t : Tok} (hh : A.handled = none) : ItV prog w A H (signs x) false false (.str x t) s := by
  intro Q E k
  have hl : (signs x).length = x.cps.size := by simp [signs]
  have go : ∀ (o : Obj) (St : Nat → Heap → Prop), Walks prog w A s.heap.objs.size [s.heap.objs.size] [s.heap.objs.size] x.cps.size (SignAt x) St → St 0 (s.heap.push o) → (∀ i h, St i h → ∃ o, h.get? s.heap.objs.size = some o) →
      Q (.ref s.heap.objs.size) { s with heap := s.heap.push o } := fun o St W st hl' => by
    refine k _ _ [s.heap.objs.size] (SignAt x) St (Kp.push _ _) (Heap.size_push ..) ⟨?_, Nat.le_refl _, hl', fun b hb => .inl (List.mem_singleton.mp hb), ?_, fun h => nomatch h⟩ st fun b hb => ?_
    · rw [hl]; exact W
    · rintro i v _ ⟨ch, u, e, rfl⟩
      exact ⟨.str ⟨#[ch]⟩, by simp [signs, List.getElem?_map, e], .str _ _⟩
    · rw [Heap.size_push, List.mem_singleton.mp hb]; exact Nat.lt_succ_self _
  cases ha : x.cps.all (· < 128)
  · exact wpAny_pyIter_wide ha (go _ _ (Walks.strWide hh _ x t) ⟨_, Heap.get?_push_size _ rfl, rfl, rfl⟩ fun i h st => let ⟨o, e, _⟩ := st; ⟨o, e⟩)
  · exact wpAny_pyIter_ascii ha (go _ _ (Walks.strAscii hh _ x t) ⟨_, Heap.get?_push_size _ rfl, rfl, rfl⟩ fun i h st => let ⟨o, e, _⟩ := st; ⟨o, e⟩)
theorem evIt_data {c : Cx} {e : Expr} {d : D} {ds : List D} {tp : Bool} (he : EvD c e d) (h : d = .lst ds ∨ (d = .tup ds ∧ tp = false) ∨ (∃ x, d = .str x ∧ ds = signs x ∧ tp = false)) : EvIt c e ds tp false := by
  intro s zs Q E hI k
  refine (he s hI).out Q E fun v h' tk kp r => k v h' tk kp ?_
  rcases h with rfl | ⟨rfl, rfl⟩ | ⟨x, rfl, rfl, rfl⟩
  · cases r with | lst h1 h2 h3 =>
    intro Q E k
    exact its_list (hid := false) c.hh (.inl h1) h2 h3 Q E fun I h' fp P St a b i st f => k I h' fp P St a b ⟨i.W, i.new, i.live, i.fps, i.item, fun _ => i.go rfl⟩ st f
  · cases r with | tup h1 h2 h3 => exact its_tuple c.hh (.inl h1) h2 h3
  · cases r with | str x t => exact its_str c.hh

/-- what a target has stored -/
inductive Bnd (H : List Addr) (h : Heap) (m : Str → Option Value) : Expr → D → Prop
  | name {x : Str} {pos : Pos} {v : Value} {d : D} : m x = some v → Rep H h v d → Bnd H h m (.Name x pos) d
  | pair {x y : Str} {px py pos : Pos} {k : Nat} {v u : Value} {a b : D} : m x = some v → Rep H h v a → m y = some u → Rep H h u b → Bnd H h m (.Tuple [.Name x px, .Name y py] k pos) (.tup [a, b])

structure Tgt (prog : Program) (w : World) (A : Around) (env : Env) (H : List Addr) (target : Expr) (tp : Bool) (d : D) : Prop where
  set : ∀ (s : Shared) v m (Q : Unit → Shared → Prop) E, s.heap.Ns env.locals m → Rep H s.heap v d →
    (∀ h' tk m', Heap.ExtBut env.locals s.heap h' → h'.Ns env.locals m' → Bnd H h' m' target d → Q () { s with heap := h', toks := tk }) → wpAny (model prog w) A (assign target env v) Q E s
  go : (∀ it v, letOwnedTupleGo target it v = pure ()) ∨ (tp = true ∧ ∃ elts k pos ds, target = .Tuple elts k pos ∧ d = .tup ds)

theorem rep_at {H : List Addr} {h h' : Heap} {L : Addr} {m : Str → Option Value} {v : Value} {d : D} (hn : h.Ns L m) (hs : Heap.ExtBut L h h') (r : Rep H h v d) : Rep H h' v d :=
  r.mono' (fun a o _ e hd => hs a o (fun q => by
    obtain ⟨o', es, ep, ho, hx, _⟩ := hn
    obtain ⟨vs, n, hd⟩ := hd
    rw [q, ho] at e; cases e; rw [hd] at hx; cases hx) e) fun _ _ ha _ _ => ha

theorem tgt_name {prog : Program} {w : World} {A : Around} {env : Env} {H : List Addr} {x : Str} {pos : Pos} {tp : Bool} {d : D} (hx : env.kindOf x = some .local) (hf : env.scope.kind = .function) : Tgt prog w A env H (.Name x pos) tp d where
  set := fun s v m Q E hn r k => wpAny_assign_Name (wpAny_storeName_local hx hn (fun h' hn' hs => k h' _ _ hs.extBut hn' (.name (by simp) (rep_at hn hs.extBut r))) (by simp [hf]))
  go := .inl fun _ _ => rfl
theorem tgt_pair {prog : Program} {w : World} {A : Around} {env : Env} {H : List Addr} {x y : Str} {px py pos : Pos} {k : Nat} {a b : D} (hh : A.handled = none) (hx : env.kindOf x = some .local) (hy : env.kindOf y = some .local) (hxy : x ≠ y) (hf : env.scope.kind = .function) :
    Tgt prog w A env H (.Tuple [.Name x px, .Name y py] k pos) true (.tup [a, b]) where
  set := fun s v m Q E hn r kk => by
    cases r with | @tup t vs _ h1 h2 h3 =>
    cases h3 with | @cons v1 _ _ _ r1 h3 =>
    cases h3 with | @cons v2 _ _ _ r2 h3 =>
    cases h3
    refine assign_Tuple_tuple hh h2 rfl rfl fun h₅ he => ?_
    have he' : Kp s.heap h₅ := fun b o e => he b o (Nat.ne_of_lt (Heap.lt_size e)) e
    have n5 := hn.keeps he'
    refine assignInOrder_cons (wpAny_assign_Name (wpAny_storeName_local hx n5 (fun h₆ hn₆ hs₆ => ?_) (by simp [hf])))
    refine assignInOrder_cons (wpAny_assign_Name (wpAny_storeName_local hy hn₆ (fun h₇ hn₇ hs₇ => ?_) (by simp [hf])))
    refine assignInOrder_nil (kk h₇ _ _ (fun b o hb e => hs₇.extBut b o hb (hs₆.extBut b o hb (he' b o e))) hn₇ (.pair ?_ (rep_at hn₆ hs₇.extBut (rep_at n5 hs₆.extBut (r1.mono he'))) ?_ (rep_at hn₆ hs₇.extBut (rep_at n5 hs₆.extBut (r2.mono he')))))
    · simp [hxy]
    · simp
  go := .inr ⟨rfl, _, _, _, _, rfl, rfl⟩

section
variable {prog : Program} {w : World} {A : Around} {E : Value → Shared → Prop}

theorem codeAny_compLoop_gen {elt target iter : Expr} {ifs : List Expr} {scope : Scope} {pos : Pos} {it acc : Value} {env : Env} {R : Result → Shared → Prop} {s : Shared} (I : Nat → Shared → Prop)
    (turn : ∀ n s, I n s → wpAny (model prog w) A (pyNext it) (fun r s₁ => match r with
      | none => R (.ok .next) s₁
      | some v => wpAny (model prog w) A (letOwnedTupleGo target it v) (fun _ s₁' => wpAny (model prog w) A (assign target env v) (fun _ s₂ =>
          wpAny (model prog w) A (forIn ifs true fun c r => if r = true then do let ok ← isTrue c env (eval c env); pure (ForInStep.yield ok) else pure (ForInStep.yield r)) (fun ok s₃ =>
            if ok = true then wpAny (model prog w) A (eval elt env) (fun x s₄ =>
              wpAny (model prog w) A (call (.builtin "list.append") [acc, x]) (fun _ s₅ => ∃ m, m < n ∧ I m s₅) (notedBy (model prog w) A env fun e s' => R (.error e) s') s₄) (notedBy (model prog w) A env fun e s' => R (.error e) s') s₃
            else ∃ m, m < n ∧ I m s₃) (notedBy (model prog w) A env fun e s' => R (.error e) s') s₂) (notedBy (model prog w) A env fun e s' => R (.error e) s') s₁') (notedBy (model prog w) A env fun e s' => R (.error e) s') s₁) (notedBy (model prog w) A env fun e s' => R (.error e) s') s)
    (n : Nat) (h : I n s) : codeAny (model prog w) A (.compLoop (.ListComp elt [⟨target, iter, ifs, 0⟩] scope pos) 0 it acc env) R s := by
  refine codeAny_loop rfl I (fun n s hI => ?_) n h
  show wpAny _ A ((compTurn (.ListComp elt [⟨target, iter, ifs, 0⟩] scope pos) 0 it acc env).onRaise (fun x => do noteFrame x env; theTreesLotGoes x)) _ _ s
  refine wpAny_noted ?_
  rw [compTurn_list]
  refine wpAny_bind (wpAny_standAt (wpAny_bind (wpAny_mono (turn n s hI) (fun r s₁ h₁ => ?_) fun _ _ h' => h')))
  cases r with
  | none => exact wpAny_pure h₁
  | some v =>
    refine wpAny_bind (wpAny_mono h₁ (fun _ s₁' h₁' => ?_) fun _ _ h' => h')
    refine wpAny_bind (wpAny_mono h₁' (fun _ s₂ h₂ => wpAny_bind (wpAny_mono h₂ (fun ok s₃ h₃ => ?_) fun _ _ h' => h')) fun _ _ h' => h')
    cases ok with
    | false => exact wpAny_pure ⟨rfl, h₃⟩
    | true =>
      exact wpAny_bind (wpAny_bind (wpAny_mono h₃ (fun x s₄ h₄ => wpAny_bind (wpAny_mono h₄ (fun _ s₅ h₅ => wpAny_pure (wpAny_pure ⟨rfl, h₅⟩)) fun _ _ h' => h')) fun _ _ h' => h'))
end

/-- a context inside a comprehension -/
noncomputable def Cx.inn (c : Cx) (env : Env) (H : List Addr) (h : Heap) (hk : HOK H h) (fn : env.scope.kind = .function) : Cx where
  prog := c.prog
  w := c.w
  A := c.A
  env := env
  H := H
  I := Kp h
  hh := c.hh
  mono := fun a b => a.trans b
  hu := c.hu
  hok := fun k => hk.mono k
  fn := fn

/-- the tests of a clause -/
noncomputable def EvIfs (c : Cx) (ifs : List Expr) (b : Bool) : Prop := (ifs = [] ∧ b = true) ∨ ∃ e, ifs = [e] ∧ EvT c e b

theorem relabel_kind {scope : Scope} {env : Env} : (relabel scope env).kind = scope.kind := rfl
end
section
open PySem PySem.W PyProof.Rows

theorem Reps.snoc {H : List Addr} {h : Heap} {vs : List Value} {ds : List D} {v : Value} {d : D} (x : Reps H h vs ds) (r : Rep H h v d) : Reps H h (vs ++ [v]) (ds ++ [d]) := x.append (.cons r .nil)
theorem Reps.but {H : List Addr} {h h' : Heap} {a : Addr} (ha : a ∈ H) (hs : Heap.ExtBut a h h') {vs : List Value} {ds : List D} (x : Reps H h vs ds) : Reps H h' vs ds :=
  x.mono' (fun b o hb e _ => hs b o (fun q => hb (q ▸ ha)) e) fun _ _ hb _ _ => hb
theorem Reps.buts {H : List Addr} {h h' : Heap} (hs : ∀ b o, b ∉ H → h.get? b = some o → h'.get? b = some o) {vs : List Value} {ds : List D} (x : Reps H h vs ds) : Reps H h' vs ds :=
  x.mono' (fun b o hb e _ => hs b o hb e) fun _ _ hb _ _ => hb
/-- what stood before the new addresses came is seen with these hidden too -/
theorem Rep.newH {H H' : List Addr} {h h' : Heap} (hk : Kp h h') (hH : ∀ b ∈ H', b ∈ H ∨ h.objs.size ≤ b) {v : Value} {d : D} (x : Rep H h v d) : Rep H' h' v d :=
  x.mono' (fun b o _ e _ => hk b o e) fun b o hb e _ hm => (hH b hm).elim hb fun hn => by rw [get_none_ge hn] at e; cases e
theorem Reps.newH {H H' : List Addr} {h h' : Heap} (hk : Kp h h') (hH : ∀ b ∈ H', b ∈ H ∨ h.objs.size ≤ b) {v : List Value} {d : List D} (x : Reps H h v d) : Reps H' h' v d :=
  x.mono' (fun b o _ e _ => hk b o e) fun b o hb e _ hm => (hH b hm).elim hb fun hn => by rw [get_none_ge hn] at e; cases e

theorem RV.newH {H H' : List Addr} {h h' : Heap} (hk : Kp h h') (hH : ∀ b ∈ H', b ∈ H ∨ h.objs.size ≤ b) {r : Value} {v : V} (x : RV H h r v) : RV H' h' r v :=
  x.mono' (fun b o e _ => hk b o e) fun b o hb e _ hm => (hH b hm).elim hb fun hn => by rw [get_none_ge hn] at e; cases e
theorem take_succ_fm {p : D → Bool} {f : D → D} {ds : List D} {i : Nat} {d : D} (h : ds[i]? = some d) : ((ds.take (i + 1)).filter p).map f = ((ds.take i).filter p).map f ++ (if p d then [f d] else []) := by
  rw [PySem.take_succ_filter p ds i d h, List.map_append]
  cases p d <;> simp

theorem Kp.ns {h h' : Heap} {L : Addr} {m} (k : Kp h h') (n : h.Ns L m) : h'.Ns L m := n.keeps k

/-- the list comprehension's turns, all -/
theorem comp_core {c : Cx} {elt target iter : Expr} {ifs : List Expr} {scope : Scope} {cl : List (Str × Addr)} {pos : Pos} {ds : List D} {tp hid : Bool} {s₁ s₂ : Shared} {I : Addr} {fp : List Addr} {P : Nat → Value → Prop} {St : Nat → Heap → Prop}
    (hI : c.I s₁.heap) (k12 : Kp s₁.heap s₂.heap) (hsI : s₂.heap.objs.size = I + 1)
    (W : Its c.prog c.w c.A c.H s₁.heap I ds tp hid fp P St) (st : St 0 s₂.heap) (zs : 0 < s₂.toks) (hfp : ∀ b ∈ fp, b < s₂.heap.objs.size) (hlen : ds.length ≤ seqMax) (p : D → Bool) (f : D → D)
    (hcell : ∀ y ∈ scope.names, y.2 ≠ .cell) (hkind : scope.kind = .function)
    (hT : ∀ C d, d ∈ ds → Tgt c.prog c.w c.A (compEnvC scope cl C c.env) (I :: C :: s₂.heap.objs.size :: c.H) target tp d)
    (hE : ∀ C h₃ m d, d ∈ ds → Kp s₁.heap h₃ → (∀ r v, RV c.H s₁.heap r v → RV (I :: C :: s₂.heap.objs.size :: c.H) h₃ r v) → ∀ hk : HOK (I :: C :: s₂.heap.objs.size :: c.H) h₃, h₃.Ns C m → Bnd (I :: C :: s₂.heap.objs.size :: c.H) h₃ m target d →
      EvIfs (c.inn (compEnvC scope cl C c.env) (I :: C :: s₂.heap.objs.size :: c.H) h₃ hk hkind) ifs (p d) ∧ (p d = true → EvD (c.inn (compEnvC scope cl C c.env) (I :: C :: s₂.heap.objs.size :: c.H) h₃ hk hkind) elt (f d)))
    {RR : Value → Addr → Result → Shared → Prop} {E : Value → Shared → Prop}
    (hRR : ∀ C h' (tk : Tk) m ys, C = s₂.heap.objs.size + 1 → Kp s₁.heap h' → h'.Ns C m → h'.PlainList s₂.heap.objs.size (List.toArray ys) → Reps (I :: C :: s₂.heap.objs.size :: c.H) h' ys ((ds.filter p).map f) →
      RR (.ref s₂.heap.objs.size) C (.ok .next) { s₂ with heap := h', toks := tk.1 }) :
    wpAny c.M c.A (newList []) (fun acc s₃ => wpAny c.M c.A (newFunctionEnv scope c.env.globals cl [] c.env.qual none .none (some c.env)) (fun cenv s₄ =>
      codeAny c.M c.A (.compStart (.ListComp elt [⟨target, iter, ifs, 0⟩] scope pos) 0 (.ref I) acc { cenv with scope := relabel scope c.env }) (RR acc cenv.locals) s₄) E s₃) E s₂ := by
  refine wpAny_newObj_type (wpAny_newFunctionEnv hcell (by intro y hy; simp at hy) (fun h₁ hns₁ hsb₁ => ?_) hkind)
  dsimp only at hns₁ hsb₁ ⊢
  generalize hH2 : s₂.heap.push { cls := .type "list", dict := none, data := .seq ([] : List Value).toArray } = H2 at hns₁ hsb₁ ⊢
  have hC : H2.objs.size = s₂.heap.objs.size + 1 := by rw [← hH2, Heap.size_push]
  generalize hDq : s₂.heap.objs.size = D0 at *
  generalize hCq : H2.objs.size = C at *
  have hIn : s₁.heap.objs.size ≤ I := W.new
  have lID : Nat.lt I D0 := by show (I : Nat) + 1 ≤ D0; exact Nat.le_of_eq hsI.symm
  have lDC : Nat.lt D0 C := by show (D0 : Nat) + 1 ≤ C; exact Nat.le_of_eq hC.symm
  have hID : I ≠ D0 := Nat.ne_of_lt lID
  have hIC : I ≠ C := Nat.ne_of_lt (Nat.lt_trans lID lDC)
  have hDC : D0 ≠ C := Nat.ne_of_lt lDC
  have hDf : D0 ∉ fp := fun hm => Nat.lt_irrefl _ (hfp _ hm)
  have hCf : C ∉ fp := fun hm => by exact Nat.lt_irrefl _ (Nat.lt_trans lDC (hfp _ hm))
  have old : Kp s₂.heap h₁ := fun b o e => hsb₁.extBut b o (Nat.ne_of_lt (Nat.lt_trans (hDq ▸ Heap.lt_size e) lDC)) (Heap.get?_push_of_some _ (by rw [← hH2]; exact Heap.get?_push_of_some _ e))
  have hacc : h₁.PlainList D0 #[] := ⟨_, hsb₁.extBut _ _ hDC (Heap.get?_push_of_some _ (by rw [← hH2, ← hDq]; exact Heap.get?_push_size _ rfl))⟩
  have hst₁ : St 0 h₁ := W.W.frame _ _ _ st fun b _ o e => old b o e
  have lt1 : ∀ {b o}, s₁.heap.get? b = some o → b < I := fun e => Nat.lt_of_lt_of_le (Heap.lt_size e) hIn
  have hwr : ∀ b o, s₁.heap.get? b = some o → b ∉ [I] ∧ b ≠ C ∧ b ≠ D0 := fun b o e => ⟨by simpa using Nat.ne_of_lt (lt1 e), Nat.ne_of_lt (Nat.lt_trans (lt1 e) (Nat.lt_trans lID lDC)), Nat.ne_of_lt (Nat.lt_trans (lt1 e) lID)⟩
  have newIn : ∀ b ∈ (I :: C :: D0 :: c.H), b ∈ c.H ∨ s₁.heap.objs.size ≤ b := fun b hb => by
    simp only [List.mem_cons] at hb
    rcases hb with rfl | rfl | rfl | hb
    · exact .inr hIn
    · exact .inr (Nat.le_trans hIn (Nat.le_of_lt (Nat.lt_trans lID lDC)))
    · exact .inr (Nat.le_trans hIn (Nat.le_of_lt lID))
    · exact .inl hb
  have loop : ∀ s₃ : Shared, s₃ = { s₂ with heap := h₁, toks := s₂.toks + ([] : List (Str × Value)).length } →
      codeAny c.M c.A (.compLoop (.ListComp elt [⟨target, iter, ifs, 0⟩] scope pos) 0 (.ref I) (.ref D0) (compEnvC scope cl C c.env)) (RR (.ref D0) C) s₃ := by
    rintro s₃ rfl
    refine codeAny_compLoop_gen
      (fun k s' => ∃ h' tk i ys m', s' = { s₂ with heap := h', toks := tk } ∧ 0 < tk ∧ i ≤ ds.length ∧ k = ds.length + 1 - i ∧ St i h' ∧ Kp s₁.heap h' ∧ h'.Ns C m' ∧ h'.PlainList D0 (List.toArray ys) ∧ (∃ o, h'.get? I = some o) ∧
        Reps (I :: C :: D0 :: c.H) h' ys (((ds.take i).filter p).map f)) ?_ (ds.length + 1)
      ⟨h₁, _, 0, [], _, rfl, Nat.lt_of_lt_of_le zs (Nat.le_add_right _ _), Nat.zero_le _, rfl, hst₁, k12.trans old, hns₁, hacc, ?_, .nil⟩
    · rintro k s' ⟨h', tk, i, ys, m', rfl, hz, hi, rfl, hst', hk', hn', ha', ⟨oI, hoI⟩, hr'⟩
      by_cases hlt : i < ds.length
      · refine wpAny_pos hz (W.W.item i _ _ _ hlt hst' fun v h₂ tk₂ hPv hst₂ hk₂ z₂ => ?_)
        obtain ⟨d, hd, rd⟩ := W.item i v hlt hPv
        have hmem : d ∈ ds := List.mem_of_getElem? hd
        have k2 : Kp s₁.heap h₂ := fun b o e => hk₂ b o (hwr b o e).1 (hk' b o e)
        have rd2 : Rep (I :: C :: D0 :: c.H) h₂ v d := rd.newH k2 newIn
        have hgo : ∀ (Q : Unit → Shared → Prop) E (s : Shared), St (i + 1) s.heap → Q () s → wpAny c.M c.A (letOwnedTupleGo target (.ref I) v) Q E s := by
          intro Q E s st hQ
          rcases (hT C d hmem).go with e | ⟨htp, elts, k, pos, ds', rfl, rfl⟩
          · exact wpAny_of_eq (e _ _) hQ
          · cases rd2; exact W.go htp _ _ _ _ _ _ _ _ st hQ
        refine hgo _ _ _ hst₂ ?_
        have n2 : h₂.Ns C m' := hn'.at' fun o e => hk₂ _ o (by simpa using Ne.symm hIC) e
        refine wpAny_pos z₂ ((hT C d hmem).set _ v m' _ _ n2 rd2 fun h₃ tk₃ m₃ hs₃ hn₃ hb₃ z₃ => ?_)
        have k23 : ∀ b o, b ∉ (I :: C :: D0 :: c.H) → h'.get? b = some o → h₃.get? b = some o := fun b o hb e => by
          simp only [List.mem_cons, not_or] at hb
          exact hs₃ b o hb.2.1 (hk₂ b o (by simpa using hb.1) e)
        have k3 : Kp s₁.heap h₃ := fun b o e => hs₃ b o (hwr b o e).2.1 (k2 b o e)
        have hst₃ : St (i + 1) h₃ := W.W.frame _ _ _ hst₂ fun b hb o e => hs₃ b o (fun q => hCf (by rw [show b = C from q] at hb; exact hb)) e
        have ha₃ : h₃.PlainList D0 (List.toArray ys) := ha'.at fun o e => hs₃ _ o hDC (hk₂ _ o (by simpa using Ne.symm hID) e)
        have hi3 : ∃ o, h₃.get? I = some o := W.live _ _ hst₃
        have hok : HOK (I :: C :: D0 :: c.H) h₃ := fun b hb => by
          simp only [List.mem_cons] at hb
          rcases hb with rfl | rfl | rfl | hb
          · exact hi3
          · obtain ⟨o, _, _, e, _⟩ := hn₃; exact ⟨o, e⟩
          · obtain ⟨n, e⟩ := ha₃; exact ⟨_, e⟩
          · obtain ⟨o, e⟩ := c.hok hI b hb; exact ⟨o, k3 _ _ e⟩
        have hr3 : Reps (I :: C :: D0 :: c.H) h₃ ys (((ds.take i).filter p).map f) := hr'.buts k23
        obtain ⟨e1, e2⟩ := hE C h₃ m₃ d hmem k3 (fun v d r => r.newH k3 newIn) hok hn₃ hb₃
        have test : ∀ (Q : Bool → Shared → Prop) (E : Value → Shared → Prop) tk, 0 < tk → (∀ h₄ (tk₄ : Tk), Kp h₃ h₄ → Q (p d) { s₂ with heap := h₄, toks := tk₄.1 }) →
            wpAny c.M c.A (forIn ifs true fun e r => if r = true then do let ok ← isTrue e (compEnvC scope cl C c.env) (eval e (compEnvC scope cl C c.env)); pure (ForInStep.yield ok) else pure (ForInStep.yield r)) Q E { s₂ with heap := h₃, toks := tk } := by
          intro Q E tk zt hQ
          rcases e1 with ⟨rfl, e⟩ | ⟨e, rfl, ht⟩
          · exact wpAny_tests_nil (by rw [← e]; exact hQ _ ⟨tk, zt⟩ (Kp.refl _))
          · exact wpAny_tests_one (ht _ zt Q E (Kp.refl _) fun h₄ tk₄ k₄ => hQ h₄ tk₄ k₄)
        refine test _ _ _ z₃ fun h₄ tk₄ k₄ => ?_
        have tk1 := take_succ_fm (p := p) (f := f) hd
        by_cases hp : p d = true
        · rw [hp] at tk1 ⊢
          simp only [if_true] at tk1 ⊢
          refine (e2 hp { s₂ with heap := h₄, toks := tk₄ } k₄).out _ _ fun y h₅ tk₅ k₅ ry => ?_
          have k45 : Kp h₃ h₅ := k₄.trans k₅
          have hys : ys.length ≤ ds.length := by
            rw [hr'.length, List.length_map]; exact Nat.le_trans (List.length_filter_le _ _) (by rw [List.length_take]; exact Nat.min_le_right _ _)
          refine wpAny_list_append_plain (hsz := by rw [List.size_toArray]; exact Nat.le_trans hys (seqMax_le hlen)) (ha₃.at fun o e => k45 _ o e) fun h₆ hl₆ hs₆ => ?_
          have s6 := hs₆.extBut
          refine ⟨ds.length + 1 - (i + 1), by omega, h₆, _, i + 1, ys ++ [y], m₃, rfl, tk₅.2, hlt, rfl, W.W.frame _ _ _ hst₃ (fun b hb o e => s6 b o (fun q => hDf (q ▸ hb)) (k45 b o e)), fun b o e => s6 b o (hwr b o e).2.2 (k45 _ _ (k3 b o e)), ?_, by simpa using hl₆, ?_, ?_⟩
          · exact (hn₃.keeps k45).sameBut hs₆ (Ne.symm hDC)
          · obtain ⟨o, e⟩ := hi3; exact ⟨o, s6 _ _ hID (k45 _ _ e)⟩
          · rw [tk1]
            exact ((hr3.mono k45).snoc ry).but (by simp) s6
        · have hp : p d = false := by simpa using hp
          rw [hp] at tk1 ⊢
          simp only [Bool.false_eq_true, if_false, List.append_nil] at tk1 ⊢
          refine ⟨ds.length + 1 - (i + 1), by omega, h₄, _, i + 1, ys, m₃, rfl, tk₄.2, hlt, rfl, W.W.frame _ _ _ hst₃ (fun b hb o e => k₄ b o e), k3.trans k₄, hn₃.keeps k₄, ha₃.at fun o e => k₄ _ o e, ?_, ?_⟩
          · obtain ⟨o, e⟩ := hi3; exact ⟨o, k₄ _ _ e⟩
          · rw [tk1]; exact hr3.mono k₄
      · obtain rfl : i = ds.length := Nat.le_antisymm hi (Nat.not_lt.mp hlt)
        refine wpAny_pos hz (W.W.done _ _ _ hst' fun h₂ tk₂ hk₂ z₂ => ?_)
        have k2 : Kp s₁.heap h₂ := fun b o e => hk₂ b o (hwr b o e).1 (hk' b o e)
        refine hRR C h₂ ⟨tk₂, z₂⟩ m' ys hC k2 (hn'.at' fun o e => hk₂ _ o (by simpa using Ne.symm hIC) e) (ha'.at fun o e => hk₂ _ o (by simpa using Ne.symm hID) e) ?_
        rw [List.take_length] at hr'
        exact hr'.buts fun b o hb e => hk₂ b o (by simp only [List.mem_cons, not_or] at hb; simpa using hb.1) e
    · obtain ⟨o, e⟩ : ∃ o, s₂.heap.get? I = some o := W.live _ _ st
      exact ⟨o, old _ _ e⟩
  exact codeAny_compStart_list (loop _ rfl) (W.W.self 0 _ _ _ hst₁ (loop _ rfl))
end
section
open PySem PySem.W PySem.Calls PyProof.Rows

section
variable {prog : Program} {w : World} {A : Around} {E : Value → Shared → Prop}
theorem draw_list {it t : Addr} {items : Array Value} (hne : t ≠ it) : ∀ (n i : Nat) (s : Shared) (Q : List Value → Shared → Prop), s.heap.IsListIter it t i → s.heap.IsList t items → i + n ≤ items.size →
    (∀ h', h'.IsListIter it t (i + n) → Heap.SameBut it s.heap h' → Q ((items.toList.drop i).take n) { s with heap := h' }) → wpAny (model prog w) A (draw (.ref it) n) Q E s
  | 0, i, s, Q, hit, _, _, hQ => by
    show wpAny _ _ (pure []) Q E s
    exact wpAny_pure (by simpa using hQ s.heap hit (Heap.SameBut.refl ..))
  | n + 1, i, s, Q, hit, ht, hle, hQ => by
    have hlt : i < items.size := by omega
    show wpAny _ _ (pyNext (.ref it) >>= _) Q E s
    refine wpAny_bind (wpAny_pyNext_list_item hit ht (x := items[i]) (by simp [hlt]) fun h₁ hit₁ hs₁ => ?_)
    refine wpAny_bind (wpAny_holding (draw_list hne n (i + 1) _ _ hit₁ (ht.extBut hs₁.extBut hne) (by omega) fun h₂ hit₂ hs₂ => wpAny_pure ?_))
    have hd : items.toList.drop i = items[i] :: items.toList.drop (i + 1) := by simp [List.drop_eq_getElem_cons, hlt]
    have := hQ h₂ (by rw [show i + (n + 1) = i + 1 + n by omega]; exact hit₂) (hs₁.trans hs₂)
    rw [hd, List.take_succ_cons] at this
    exact this

theorem unpackItems_list {s : Shared} {t : Addr} {items : Array Value} {Q : List Value → Shared → Prop} (hh : A.handled = none) (ht : s.heap.IsList t items)
    (hQ : ∀ h', Heap.ExtBut s.heap.objs.size s.heap h' → Q items.toList { s with heap := h' }) : wpAny (model prog w) A (unpackItems (.ref t) items.size none) Q E s := by
  have hlt : t ≠ s.heap.objs.size := by obtain ⟨o, ho, _⟩ := ht; exact Nat.ne_of_lt (Heap.lt_size ho)
  unfold unpackItems
  refine wpAny_bind ?_
  · unfold notIterableAtAll
    refine wpAny_bind (wpAny_specialOf ht.typeIs slot_list_iter.lookup ?_)
    refine wpAny_pure ?_
    simp only [Bool.false_eq_true, if_false]
    refine wpAny_bind (wpAny_holding (wpAny_pyIter_list ht ?_))
    refine wpAny_bind (wpAny_holding (draw_list hlt items.size 0 _ _ ⟨_, Heap.get?_push_size _ rfl, rfl, rfl⟩ (ht.push _) (by omega) fun h₁ hit₁ hs₁ => ?_))
    have hall : List.take items.size (List.drop 0 items.toList) = items.toList := by
      rw [List.drop_zero]; exact List.take_of_length_le (by simp)
    rw [hall]
    rw [if_neg (by simp)]
    have ht₁ : h₁.IsList t items := (ht.push _).extBut hs₁.extBut hlt
    refine wpAny_bind (wpAny_holding (wpAny_pyNext_list_end hh (by simpa using hit₁) ht₁ (by simp) fun h₂ he₂ => ?_))
    simp only [Option.isSome_none, Bool.false_eq_true, if_false]
    refine wpAny_pure (hQ h₂ fun b o hb e => he₂ b o hb (hs₁.extBut b o hb (Heap.get?_push_of_some _ e)))

/-- a list or a tuple of data, unpacked -/
noncomputable def D.items : D → Option (List D)
  | .tup xs => some xs
  | .lst xs => some xs
  | _ => Option.none
theorem unpack_ok {H : List Addr} {s : Shared} {env : Env} {elts : List Expr} {k : Nat} {pos : Pos} {v : Value} {d : D} {ds : List D} {Q : Unit → Shared → Prop} (hh : A.handled = none) (r : Rep H s.heap v d) (hd : d.items = some ds)
    (hn : (assignEach elts env).length = ds.length) (hstar : (assignEach elts env).findIdx? (·.1) = none)
    (h : ∀ h' vs, Kp s.heap h' → Reps H h' vs ds → wpAny (model prog w) A (assignInOrder ((assignEach elts env).map (·.2)) vs) Q E { s with heap := h' }) :
    wpAny (model prog w) A (assign (.Tuple elts k pos) env v) Q E s := by
  rw [assign_Tuple]
  refine wpAny_bind (wpAny_standAt ?_)
  unfold unpack
  rw [hn, hstar]
  refine wpAny_bind (wpAny_holding ?_)
  have kp : ∀ {h' : Heap}, Heap.ExtBut s.heap.objs.size s.heap h' → Kp s.heap h' := fun he b o e => he b o (Nat.ne_of_lt (Heap.lt_size e)) e
  cases r with
  | @tup a vs xs h1 h2 h3 =>
    cases hd
    have := unpackItems_tuple (prog := prog) (w := w) (A := A) (E := E) (Q := fun its s₁ => wpAny (model prog w) A (assignInOrder ((assignEach elts env).map (·.2)) its) Q E s₁) hh h2 (fun h' he => h h' _ (kp he) (by simpa using h3.mono (kp he)))
    rw [List.size_toArray, h3.length] at this
    exact this
  | @lst a vs xs h1 h2 h3 =>
    cases hd
    have := unpackItems_list (prog := prog) (w := w) (A := A) (E := E) (Q := fun its s₁ => wpAny (model prog w) A (assignInOrder ((assignEach elts env).map (·.2)) its) Q E s₁) hh h2 (fun h' he => h h' _ (kp he) (by simpa using h3.mono (kp he)))
    rw [List.size_toArray, h3.length] at this
    exact this
  | _ => cases hd
end

section
variable {c : Cx}
theorem ev_comp {elt target iter : Expr} {ifs : List Expr} {scope : Scope} {cl : List (Str × Addr)} {pos : Pos} {ds : List D} {tp hid : Bool} (p : D → Bool) (f : D → D)
    (hi : EvIt c iter ds tp hid) (hclos : closureFor scope c.env = pure cl) (hcell : ∀ y ∈ scope.names, y.2 ≠ .cell) (hkind : scope.kind = .function) (hnames : ∀ y ∈ scope.names, y.2 = .local → scope.names.lookup y.1 = some .local)
    (hs : ∀ x, foldedSetIterable iter c.env x = pure x) (hlen : ds.length ≤ seqMax)
    (hT : ∀ C H d, d ∈ ds → Tgt c.prog c.w c.A (compEnvC scope cl C c.env) H target tp d)
    (hE : ∀ C H hb h₃ m d, d ∈ ds → c.I hb → Kp hb h₃ → (∀ r v, RV c.H hb r v → RV H h₃ r v) → ∀ hk : HOK H h₃, h₃.Ns C m → Bnd H h₃ m target d →
      EvIfs (c.inn (compEnvC scope cl C c.env) H h₃ hk hkind) ifs (p d) ∧ (p d = true → EvD (c.inn (compEnvC scope cl C c.env) H h₃ hk hkind) elt (f d))) :
    EvD c (.ListComp elt [⟨target, iter, ifs, 0⟩] scope pos) (.lst ((ds.filter p).map f)) := by
  intro s hI
  refine Ylds.of (fun zs Q E k => ?_)
  rw [eval_ListComp]
  refine wpAny_comprehension_free (use := none) rfl hs hclos hkind hnames (hi s zs _ _ hI fun v h' tk kp it => it _ _ fun I h'' fp P St k2 hsz W st hfp => ?_)
  refine comp_core (c := c) (s₁ := { s with heap := h', toks := tk }) (s₂ := { s with heap := h'', toks := tk }) (RR := fun acc C => compPost c.M c.A E none Q acc C) (c.mono hI kp) k2 hsz W st tk.2 hfp hlen p f hcell hkind
    (fun C d hd => hT C _ d hd) (fun C h₃ m d hd k3 tr hk hn hb => hE C _ h' h₃ m d hd (c.mono hI kp) k3 tr hk hn hb) ?_
  intro C h₃ tk₃ m ys hC k3 hn hp hr
  refine ⟨m, hn, fun h₄ hs₄ => ?_⟩
  have hnone : ∀ b, h'.objs.size ≤ b → h'.get? b = none := fun b hb => get_none_ge hb
  have hIn : h'.objs.size ≤ I := W.new
  have hDge : h'.objs.size ≤ h''.objs.size := by rw [hsz]; exact Nat.le_succ_of_le hIn
  have hCge : h'.objs.size ≤ C := by rw [hC]; exact Nat.le_succ_of_le hDge
  have k4 : Kp h' h₄ := fun b o e => hs₄.extBut b o (fun q => by rw [q, hnone C hCge] at e; cases e) (k3 _ _ e)
  have hDC : h''.objs.size ≠ C := by rw [hC]; exact Nat.ne_of_lt (Nat.lt_succ_self _)
  have hD4 := hp.extBut hs₄.extBut hDC
  refine k _ _ _ (kp.trans k4) (.lst (fun hm => ?_) hD4.isList ?_)
  · obtain ⟨o, e⟩ := c.hok (c.mono hI kp) _ hm
    exact absurd (Heap.lt_size e) (Nat.not_lt.mpr hDge)
  · exact hr.mono' (fun b o hb e hd => hs₄.extBut b o (fun q => hb (by rw [q]; simp)) e) fun b o hb _ _ => fun hm => hb (by simp [hm])
end
end
section
open PySem PySem.W PySem.Calls PyProof.Rows

/-- the written part and the name spaces -/
structure Gd (K : Frag) (h : Heap) : Prop where
  kin : K.In h
  g : ∃ mg, h.Ns mainGlobals mg
  b : ∃ mb, h.Ns builtinsNs mb ∧ ∀ x : Str, x ≠ "__name__" → mb x = bootBuiltins x
  lim : h.NoLimit
  nb : ∃ mc, h.Ns cStatics mc ∧ mc sharingNotToldKey = none
theorem Gd.mono {K : Frag} {h h' : Heap} (x : Gd K h) (k : Kp h h') : Gd K h' :=
  ⟨x.kin.keeps k, let ⟨m, a⟩ := x.g; ⟨m, a.keeps k⟩, let ⟨m, a, b⟩ := x.b; ⟨m, a.keeps k, b⟩, x.lim.keeps k, let ⟨m, a, b⟩ := x.nb; ⟨m, a.keeps k, b⟩⟩

noncomputable abbrev Sig := List (Str × V)
noncomputable def Sees (env : Env) (H : List Addr) (h : Heap) (σ : Sig) : Prop := ∀ x v, σ.lookup x = some v → ∃ r, Loads env h x r ∧ RV H h r v
theorem Sees.mono {env : Env} {H : List Addr} {h h' : Heap} {σ : Sig} (x : Sees env H h σ) (k : Kp h h') : Sees env H h' σ := fun y v e => let ⟨r, l, q⟩ := x y v e; ⟨r, l.mono k, q.mono k⟩

/-- what a context knows -/
structure CK (K : Frag) (σ : Sig) (c : Cx) : Prop where
  glob : c.env.globals = mainGlobals
  bi : c.env.builtins = builtinsNs
  gd : ∀ h, c.I h → Gd K h
  sees : ∀ h, c.I h → Sees c.env c.H h σ

section
variable {K : Frag} {σ : Sig} {c : Cx}
theorem ev_nm {x : Str} {pos : Pos} {v : V} (k : CK K σ c) (hx : σ.lookup x = some v) (hd : (x == ("__debug__" : Str)) = false) (hc : (x == ("__classdict__" : Str)) = false) : EvV c (.Name x pos) v :=
  ev_name hd hc fun h hI => let ⟨r, l, q⟩ := k.sees h hI x v hx; ⟨r, l, q⟩
theorem ev_gl {x : Str} {pos : Pos} {v : Value} (k : CK K σ c) (e : nsIn K mainGlobals x = some (some v)) (hk : c.env.kindOf x = some .globalImplicit) (hd : (x == ("__debug__" : Str)) = false) : EvR c (.Name x pos) (fun _ r => r = v) :=
  ev_global hd hk fun h hI => by
    obtain ⟨mg, hg⟩ := (k.gd h hI).g
    exact ⟨mg, v, by rw [k.glob]; exact hg, mg_of (k.gd h hI).kin hg e, rfl⟩
theorem ev_bi {x : Str} {pos : Pos} {v : Value} (k : CK K σ c) (e : nsIn K mainGlobals x = some none) (hv : bootBuiltins x = some v) (hn : x ≠ "__name__") (hk : c.env.kindOf x = some .globalImplicit) (hd : (x == ("__debug__" : Str)) = false) : EvR c (.Name x pos) (fun _ r => r = v) :=
  ev_builtin hd hk fun h hI => by
    obtain ⟨mg, hg⟩ := (k.gd h hI).g
    obtain ⟨mb, hb, hb'⟩ := (k.gd h hI).b
    exact ⟨mg, mb, by rw [k.glob]; exact hg, mg_none_of (k.gd h hI).kin hg e, by rw [k.bi]; exact hb, (hb' x hn).trans hv⟩

noncomputable def FreeOk (env env' : Env) (σ : Sig) : Sig → Prop
  | [] => True
  | (x, v) :: r => (σ.lookup x = some v ∧ (env.kindOf x = some .cell ∨ env.kindOf x = some .free) ∧ (env'.kindOf x = some .cell ∨ env'.kindOf x = some .free) ∧ env'.cells.lookup x = env.cells.lookup x) ∧ FreeOk env env' σ r
theorem FreeOk.get {env env' : Env} {σ : Sig} : ∀ {σ₂ : Sig}, FreeOk env env' σ σ₂ → ∀ {x v}, σ₂.lookup x = some v →
    σ.lookup x = some v ∧ (env.kindOf x = some .cell ∨ env.kindOf x = some .free) ∧ (env'.kindOf x = some .cell ∨ env'.kindOf x = some .free) ∧ env'.cells.lookup x = env.cells.lookup x
  | [], _, _, _, e => by cases e
  | (y, u) :: r, ⟨h, t⟩, x, v, e => by
    rw [List.lookup_cons] at e
    split at e
    · rename_i q; cases e; rw [beq_iff_eq.mp q]; exact h
    · exact t.get e
/-- the names that a target binds -/
noncomputable def bound : Expr → D → Option Sig
  | .Name x _, d => some [(x, .d d)]
  | .Tuple [.Name x _, .Name y _] _ _, .tup [a, b] => some [(x, .d a), (y, .d b)]
  | _, _ => none
theorem kind_disj {env : Env} {x : Str} (h : env.kindOf x = some .local) (h' : env.kindOf x = some .cell ∨ env.kindOf x = some .free) : False := by rcases h' with e | e <;> rw [h] at e <;> cases e

noncomputable def LocOk (env : Env) : Sig → Prop
  | [] => True
  | (x, _) :: r => env.kindOf x = some .local ∧ LocOk env r
theorem LocOk.get {env : Env} : ∀ {σ : Sig}, LocOk env σ → ∀ {x v}, σ.lookup x = some v → env.kindOf x = some .local
  | [], _, _, _, e => by cases e
  | (y, u) :: r, ⟨h, t⟩, x, v, e => by
    rw [List.lookup_cons] at e
    split at e
    · rename_i q; rw [beq_iff_eq.mp q]; exact h
    · exact t.get e
theorem Bnd.vals {H : List Addr} {h : Heap} {m : Str → Option Value} {t : Expr} {d : D} (b : Bnd H h m t d) {σ : Sig} (e : bound t d = some σ) : ∀ x v, σ.lookup x = some v → ∃ r, m x = some r ∧ RV H h r v := by
  intro x v hx
  cases b with
  | @name y pos u d hm hr =>
    cases e
    rw [List.lookup_cons] at hx
    split at hx
    · rename_i q; cases hx; rw [beq_iff_eq.mp q]; exact ⟨_, hm, hr⟩
    · cases hx
  | @pair y z py pz pos k u1 u2 a b hm hr hm2 hr2 =>
    cases e
    rw [List.lookup_cons] at hx
    split at hx
    · rename_i q; cases hx; rw [beq_iff_eq.mp q]; exact ⟨_, hm, hr⟩
    · rw [List.lookup_cons] at hx
      split at hx
      · rename_i q; cases hx; rw [beq_iff_eq.mp q]; exact ⟨_, hm2, hr2⟩
      · cases hx
theorem CK.inner {scope : Scope} {cl : List (Str × Addr)} {C : Addr} {H : List Addr} {hb h₃ : Heap} {m : Str → Option Value} {target : Expr} {d : D} {σ₁ σ₂ : Sig} (k : CK K σ c) (hI : c.I hb) (kp : Kp hb h₃) (tr : ∀ r v, RV c.H hb r v → RV H h₃ r v)
    (hk : HOK H h₃) (hkind : scope.kind = .function) (hn : h₃.Ns C m) (b : Bnd H h₃ m target d) (e1 : bound target d = some σ₁) (l1 : LocOk (compEnvC scope cl C c.env) σ₁) (f2 : FreeOk c.env (compEnvC scope cl C c.env) σ σ₂)
    : CK K (σ₁ ++ σ₂) (c.inn (compEnvC scope cl C c.env) H h₃ hk hkind) where
  glob := k.glob
  bi := k.bi
  gd := fun h hh => (k.gd hb hI).mono (kp.trans hh)
  sees := fun h hh => by
    refine Sees.mono (h := h₃) (fun x v hx => ?_) hh
    rw [List.lookup_append] at hx
    cases q : σ₁.lookup x with
    | some u =>
      rw [q] at hx; cases hx
      obtain ⟨r, a, b⟩ := b.vals e1 x _ q
      exact ⟨r, .inl ⟨l1.get q, m, hn, a⟩, b⟩
    | none =>
      rw [q] at hx
      obtain ⟨a1, a2, a3, a4⟩ := f2.get (x := x) (v := v) hx
      obtain ⟨r, l, rv⟩ := k.sees hb hI x v a1
      rcases l with ⟨l, _⟩ | ⟨_, ca, l1, l2⟩
      · exact (kind_disj l a2).elim
      · exact ⟨r, .inr ⟨a3, ca, a4.trans l1, l2.keeps kp⟩, tr _ _ rv⟩
end

/-- a frame -/
structure Fm where
  prog : Program
  w : World
  A : Around
  env : Env
  hh : A.handled = none
  hu : A.units + 100 < cLine
  fn : env.scope.kind = .function
  glob : env.globals = mainGlobals
  bi : env.builtins = builtinsNs
noncomputable def Fm.cx (F : Fm) (H : List Addr) (h : Heap) (hk : HOK H h) : Cx where
  prog := F.prog
  w := F.w
  A := F.A
  env := F.env
  H := H
  I := Kp h
  hh := F.hh
  mono := fun a b => a.trans b
  hu := F.hu
  hok := fun k => hk.mono k
  fn := F.fn

noncomputable def offFrame (env : Env) (b : Addr) : Prop := b ≠ env.locals ∧ ∀ x a, env.cells.lookup x = some a → b ≠ a
noncomputable def Var (env : Env) (H : List Addr) (h : Heap) (m cm : Str → Option Value) (x : Str) (v : V) : Prop :=
  ((env.kindOf x = some .local ∧ ∃ r, m x = some r ∧ RV H h r v) ∨ (env.kindOf x = some .cell ∧ ∃ a r, env.cells.lookup x = some a ∧ cm x = some r ∧ RV H h r v)) ∧ ∀ b ∈ v.fp, offFrame env b

structure FI (F : Fm) (s₀ : Shared) (H : List Addr) (σ : Sig) (s : Shared) : Prop where
  out : ∃ m cm, InCallC s₀ F.env.locals m F.env.cells cm s ∧ ∀ x v, σ.lookup x = some v → Var F.env H s.heap m cm x v
  hok : HOK H s.heap
  tkp : 0 < s.toks
noncomputable def After (s₀ s' : Shared) : Prop := ∃ h' tk, s' = { s₀ with heap := h', toks := tk } ∧ Kp s₀.heap h'

theorem FI.sees {F : Fm} {s₀ s : Shared} {H : List Addr} {σ : Sig} (x : FI F s₀ H σ s) : Sees F.env H s.heap σ := by
  obtain ⟨⟨m, cm, ic, hv⟩, _, _⟩ := x
  intro y v e
  rcases (hv y v e).1 with ⟨k, r, hm, hr⟩ | ⟨k, a, r, hc, hm, hr⟩
  · exact ⟨r, .inl ⟨k, m, ic.toInCall.ns, hm⟩, hr⟩
  · exact ⟨r, .inr ⟨.inl k, a, hc, hm ▸ ic.cell y a hc⟩, hr⟩
theorem FI.kp {F : Fm} {s₀ s : Shared} {H : List Addr} {σ : Sig} (x : FI F s₀ H σ s) : Kp s₀.heap s.heap := let ⟨⟨_, _, ic, _⟩, _, _⟩ := x; ic.toInCall.keep
theorem FI.after {F : Fm} {s₀ s : Shared} {H : List Addr} {σ : Sig} (x : FI F s₀ H σ s) : After s₀ s := let ⟨⟨_, _, ic, _⟩, _, _⟩ := x; let ⟨h', tk, e, k⟩ := ic.done; ⟨h', tk, e, k⟩
theorem InCallC.grow {s₀ s : Shared} {L : Addr} {m cm : Str → Option Value} {cs : List (Str × Addr)} (x : InCallC s₀ L m cs cm s) {h' : Heap} {tk : Nat} (k : Kp s.heap h') : InCallC s₀ L m cs cm { s with heap := h', toks := tk } := by
  obtain ⟨⟨⟨h1, t1, rfl⟩, ns, kp, fr⟩, cell, ap, ab⟩ := x
  exact ⟨⟨⟨h', tk, rfl⟩, ns.keeps k, fun b o e => k b o (kp b o e), fr⟩, fun n c e => (cell n c e).keeps k, ap, ab⟩
theorem FI.grow {F : Fm} {s₀ s : Shared} {H : List Addr} {σ : Sig} (x : FI F s₀ H σ s) {h' : Heap} {tk : Nat} (k : Kp s.heap h') (zt : 0 < tk := by first | assumption | exact Subtype.property _ | exact Nat.succ_pos _) : FI F s₀ H σ { s with heap := h', toks := tk } := by
  obtain ⟨⟨m, cm, ic, hv⟩, hk, _⟩ := x
  refine ⟨⟨m, cm, InCallC.grow ic k, fun y v e => ?_⟩, hk.mono k, zt⟩
  obtain ⟨a, b⟩ := hv y v e
  refine ⟨?_, b⟩
  rcases a with ⟨kk, r, hm, hr⟩ | ⟨kk, a, r, hc, hm, hr⟩
  · exact .inl ⟨kk, r, hm, hr.mono k⟩
  · exact .inr ⟨kk, a, r, hc, hm, hr.mono k⟩
theorem FI.ck {K : Frag} {F : Fm} {s₀ s : Shared} {H : List Addr} {σ : Sig} (x : FI F s₀ H σ s) (g : Gd K s₀.heap) : CK K σ (F.cx H s.heap x.hok) where
  glob := F.glob
  bi := F.bi
  gd := fun h hk => g.mono (x.kp.trans hk)
  sees := fun h hk => x.sees.mono hk

noncomputable def Storable (env : Env) (x : Str) : Prop := env.kindOf x = some .local ∨ (env.kindOf x = some .cell ∧ ∃ a, env.cells.lookup x = some a)

theorem RV.store {env : Env} {H : List Addr} {h h' : Heap} {b : Addr} {r : Value} {v : V} (hb : ∀ o, h.get? b = some o → ¬ IsSeq o) (hs : Heap.ExtBut b h h') (hoff : b ∉ v.fp) (x : RV H h r v) : RV H h' r v :=
  x.mono' (fun a o e hh => hs a o (fun q => by
    rw [q] at e hh
    rcases hh with q2 | ⟨_, q2⟩
    · exact hoff q2
    · exact hb o e q2) e) fun _ _ ha _ _ => ha
theorem ns_not_seq {h : Heap} {L : Addr} {m : Str → Option Value} (n : h.Ns L m) : ∀ o, h.get? L = some o → ¬ IsSeq o := by
  obtain ⟨o, es, ep, e, hd, _⟩ := n
  intro o' e' ⟨vs, k, q⟩
  rw [e] at e'; cases e'; rw [hd] at q; cases q
theorem cell_not_seq {h : Heap} {L : Addr} {v} (n : h.IsCell L v) : ∀ o, h.get? L = some o → ¬ IsSeq o := by
  obtain ⟨o, e, hd⟩ := n
  intro o' e' ⟨vs, k, q⟩
  rw [e] at e'; cases e'; rw [hd] at q; cases q

theorem lookup_set {σ : Sig} {x y : Str} {v u : V} (e : List.lookup y ((x, v) :: σ) = some u) : (y = x ∧ u = v) ∨ (y ≠ x ∧ σ.lookup y = some u) := by
  rw [List.lookup_cons] at e
  split at e
  · rename_i q; cases e; exact .inl ⟨beq_iff_eq.mp q, rfl⟩
  · rename_i q; exact .inr ⟨fun h => (by rw [h, beq_self_eq_true] at q; cases q), e⟩

theorem store_ok {F : Fm} {s₀ s : Shared} {H : List Addr} {σ : Sig} {x : Str} {r : Value} {v : V} {Q : Unit → Shared → Prop} {E : Value → Shared → Prop} (f : FI F s₀ H σ s) (st : Storable F.env x) (rv : RV H s.heap r v) (off : ∀ b ∈ v.fp, offFrame F.env b)
    (k : ∀ s', FI F s₀ H ((x, v) :: σ) s' → (∀ b o, s.heap.get? b = some o → IsSeq o → s'.heap.get? b = some o) → (∀ b o, offFrame F.env b → s.heap.get? b = some o → s'.heap.get? b = some o) → Q () s') : wpAny (model F.prog F.w) F.A (storeName F.env x r) Q E s := by
  refine wpAny_pos f.tkp ?_
  obtain ⟨⟨m, cm, ic, hv⟩, hk, _⟩ := f
  have vars : ∀ (s' : Shared) (m' cm' : Str → Option Value) (b : Addr), Heap.ExtBut b s.heap s'.heap → (∀ o, s.heap.get? b = some o → ¬ IsSeq o) → (b = F.env.locals ∨ ∃ y, F.env.cells.lookup y = some b) →
      (∀ y, F.env.kindOf y = some .local → m' y = if y = x then some r else m y) → (∀ y, F.env.kindOf y = some .cell → cm' y = if y = x then some r else cm y) → ∀ y u, List.lookup y ((x, v) :: σ) = some u → Var F.env H s'.heap m' cm' y u := by
    intro s' m' cm' b hs hb hbf h1 h2 y u e
    have offb : ∀ u : V, (∀ b ∈ u.fp, offFrame F.env b) → b ∉ u.fp := fun u hu hm => by
      have := hu b hm
      rcases hbf with q | ⟨y, q⟩
      · exact this.1 q
      · exact this.2 _ _ q rfl
    rcases lookup_set e with ⟨rfl, rfl⟩ | ⟨hne, e⟩
    · refine ⟨?_, off⟩
      have rv' := rv.store (env := F.env) hb hs (offb _ off)
      rcases st with l | ⟨l, a, ha⟩
      · exact .inl ⟨l, r, by rw [h1 _ l, if_pos rfl], rv'⟩
      · exact .inr ⟨l, a, r, ha, by rw [h2 _ l, if_pos rfl], rv'⟩
    · obtain ⟨q, o⟩ := hv y u e
      refine ⟨?_, o⟩
      rcases q with ⟨kk, r', hm, hr⟩ | ⟨kk, a, r', hc, hm, hr⟩
      · exact .inl ⟨kk, r', by rw [h1 _ kk, if_neg hne]; exact hm, hr.store (env := F.env) hb hs (offb _ o)⟩
      · exact .inr ⟨kk, a, r', hc, by rw [h2 _ kk, if_neg hne]; exact hm, hr.store (env := F.env) hb hs (offb _ o)⟩
  have hok' : ∀ {b : Addr} {h' : Heap} {o' : Obj}, Heap.ExtBut b s.heap h' → h'.get? b = some o' → HOK H h' := fun {b h' o'} hs e c hc => by
    obtain ⟨o, ho⟩ := hk c hc
    by_cases q : c = b
    · exact ⟨o', by rw [q]; exact e⟩
    · exact ⟨o, hs c o q ho⟩
  rcases st with l | ⟨l, a, ha⟩
  · refine wpAny_storeName_local l ic.toInCall.ns (fun h' hn' hs' z => ?_) (by simp [F.fn])
    refine k _ ⟨⟨_, cm, ⟨⟨?_, hn', fun b o e => ?_, ic.toInCall.fresh⟩, fun n c hc => ?_, ic.apart, ic.above⟩, vars _ _ _ F.env.locals hs'.extBut (ns_not_seq ic.toInCall.ns) (.inl rfl) (fun y _ => rfl) fun y hy => ?_⟩, ?_, z⟩ (fun b o e q => hs'.extBut b o (fun z => ns_not_seq ic.toInCall.ns o (z ▸ e) q) e) fun b o ho e => hs'.extBut b o ho.1 e
    · obtain ⟨h₁, tk, rfl⟩ := ic.toInCall.same
      exact ⟨h', _, rfl⟩
    · exact hs'.extBut b o (Nat.ne_of_lt (Nat.lt_of_lt_of_le (Heap.lt_size e) ic.toInCall.fresh)) (ic.toInCall.keep b o e)
    · exact (ic.cell n c hc).sameBut hs' (Nat.ne_of_gt (ic.above n c (mem_of_lookup hc)))
    · rw [if_neg]; rintro rfl; rw [l] at hy; cases hy
    · obtain ⟨o, _, _, e, _⟩ := hn'; exact hok' hs'.extBut e
  · have hLc := ic.above x a (mem_of_lookup ha)
    refine wpAny_storeName_cell F.fn l ha (ic.cell x a ha) fun h' hc' hs' z => ?_
    refine k _ ⟨⟨m, fun y => if y = x then some r else cm y, ⟨⟨?_, ic.toInCall.ns.sameBut hs' (Nat.ne_of_lt hLc), fun b o e => ?_, ic.toInCall.fresh⟩, fun n c hc => ?_, ic.apart, ic.above⟩, vars _ _ _ a hs'.extBut (cell_not_seq (ic.cell x a ha)) (.inr ⟨x, ha⟩) (fun y hy => ?_) fun y _ => rfl⟩, ?_, z⟩ (fun b o e q => hs'.extBut b o (fun z => cell_not_seq (ic.cell x a ha) o (z ▸ e) q) e) fun b o ho e => hs'.extBut b o (ho.2 x a ha) e
    · obtain ⟨h₁, tk, rfl⟩ := ic.toInCall.same
      exact ⟨h', _, rfl⟩
    · exact hs'.extBut b o (Nat.ne_of_lt (Nat.lt_trans (Nat.lt_of_lt_of_le (Heap.lt_size e) ic.toInCall.fresh) hLc)) (ic.toInCall.keep b o e)
    · by_cases hkn : n = x
      · subst hkn
        rw [ha] at hc; cases hc
        simpa using hc'
      · simp only [if_neg hkn]
        exact (ic.cell n c hc).sameBut hs' fun e => hkn (name_of_addr ic.apart (mem_of_lookup hc) (e ▸ mem_of_lookup ha))
    · rw [if_neg]; rintro rfl; rw [l] at hy; cases hy
    · obtain ⟨o, e, _⟩ := hc'; exact hok' hs'.extBut e
end
section
open PySem PySem.W PySem.Calls PyProof.Rows

/-- all stands but the frame's own and the listed -/
noncomputable def Tr (env : Env) (Wr : List Addr) (h h' : Heap) : Prop := ∀ b o, b ∉ Wr → offFrame env b → h.get? b = some o → h'.get? b = some o
theorem Tr.of_kp {env : Env} {Wr : List Addr} {h h' : Heap} (k : Kp h h') : Tr env Wr h h' := fun b o _ _ e => k b o e
theorem Tr.trans {env : Env} {Wr : List Addr} {h h' h'' : Heap} (x : Tr env Wr h h') (y : Tr env Wr h' h'') : Tr env Wr h h'' := fun b o a c e => y b o a c (x b o a c e)

noncomputable abbrev NPost := Sig → Prop
noncomputable def Exs (K : Frag) (F : Fm) (s₀ : Shared) (H Wr : List Addr) (σ : Sig) (body : List Stmt) (N : NPost) (R : Heap → Value → Prop) : Prop :=
  ∀ (s : Shared) (Q : Flow → Shared → Prop) (E : Value → Shared → Prop), Gd K s₀.heap → (∀ b ∈ Wr, b ∈ H ∧ s₀.heap.get? b = none) → FI F s₀ H σ s → (∀ σ' s', N σ' → FI F s₀ H σ' s' → Tr F.env Wr s.heap s'.heap → Q .next s') →
    (∀ r s', After s₀ s' → R s'.heap r → Q (.ret r) s') → wpAny (model F.prog F.w) F.A (execs body F.env) Q E s
noncomputable def EvF (K : Frag) (F : Fm) (H : List Addr) (σ : Sig) (e : Expr) (R : Heap → Value → Prop) : Prop := ∀ h (hk : HOK H h), CK K σ (F.cx H h hk) → EvR (F.cx H h hk) e R
noncomputable def EvFT (K : Frag) (F : Fm) (H : List Addr) (σ : Sig) (e : Expr) (b : Bool) : Prop := ∀ h (hk : HOK H h), CK K σ (F.cx H h hk) → EvT (F.cx H h hk) e b
noncomputable def EvFIt (K : Frag) (F : Fm) (H : List Addr) (σ : Sig) (e : Expr) (ds : List D) (tp hid : Bool) : Prop := ∀ h (hk : HOK H h), CK K σ (F.cx H h hk) → EvIt (F.cx H h hk) e ds tp hid

theorem After.step {s₀ s : Shared} {h' : Heap} {tk : Nat} (x : After s₀ s) (k : Kp s.heap h') : After s₀ { s with heap := h', toks := tk } := by
  obtain ⟨h1, t1, rfl, k1⟩ := x
  exact ⟨h', tk, rfl, k1.trans k⟩
noncomputable def Le (σ σ' : Sig) : Prop := ∀ x v, σ.lookup x = some v → σ'.lookup x = some v
theorem Le.refl (σ : Sig) : Le σ σ := fun _ _ e => e
theorem FI.le {F : Fm} {s₀ s : Shared} {H : List Addr} {σ σ' : Sig} (x : FI F s₀ H σ' s) (l : Le σ σ') : FI F s₀ H σ s :=
  let ⟨⟨m, cm, ic, hv⟩, hk, z⟩ := x; ⟨⟨m, cm, ic, fun y v e => hv y v (l y v e)⟩, hk, z⟩
theorem FI.seq_off {F : Fm} {s₀ s : Shared} {H : List Addr} {σ : Sig} (x : FI F s₀ H σ s) {b : Addr} {o : Obj} (e : s.heap.get? b = some o) (q : IsSeq o) : offFrame F.env b := by
  obtain ⟨⟨m, cm, ic, hv⟩, hk, _⟩ := x
  exact ⟨fun z => ns_not_seq ic.toInCall.ns o (z ▸ e) q, fun y a hy z => cell_not_seq (ic.cell y a hy) o (z ▸ e) q⟩
theorem FI.rep {F : Fm} {s₀ s : Shared} {H Wr : List Addr} {σ : Sig} (x : FI F s₀ H σ s) (sub : ∀ b ∈ Wr, b ∈ H) {h' : Heap} (t : Tr F.env Wr s.heap h') {v : Value} {d : D} (r : Rep H s.heap v d) : Rep H h' v d :=
  r.mono' (fun b o hb e q => t b o (fun hm => hb (sub b hm)) (x.seq_off e q) e) fun _ _ ha _ _ => ha
theorem FI.reps {F : Fm} {s₀ s : Shared} {H Wr : List Addr} {σ : Sig} (x : FI F s₀ H σ s) (sub : ∀ b ∈ Wr, b ∈ H) {h' : Heap} (t : Tr F.env Wr s.heap h') {v : List Value} {d : List D} (r : Reps H s.heap v d) : Reps H h' v d :=
  r.mono' (fun b o hb e q => t b o (fun hm => hb (sub b hm)) (x.seq_off e q) e) fun _ _ ha _ _ => ha

section
variable {K : Frag} {F : Fm} {s₀ : Shared} {H Wr : List Addr} {σ : Sig} {rest : List Stmt} {N : NPost} {R : Heap → Value → Prop}

theorem xs_nil (n : N σ) : Exs K F s₀ H Wr σ [] N R := fun s Q E g sub f kn _ => wpAny_execs_nil (kn σ s n f (Tr.of_kp (Kp.refl _)))
theorem xs_ret {e : Expr} {pos : Pos} (he : EvF K F H σ e R) : Exs K F s₀ H Wr σ (.Return (some e) pos :: rest) N R := fun s Q E g sub f _ kr => have zs := f.tkp;
  wpAny_execs_cons (wpAny_Return_some ((he s.heap f.hok (f.ck g) s (Kp.refl _)).out _ E fun v h' tk k r => kr v _ (f.after.step k) r))
theorem xs_retd {e : Expr} {pos : Pos} {d : D} {H₀ : List Addr} (he : EvF K F H σ e (fun h r => Rep H h r d)) (sub : ∀ b ∈ H₀, b ∈ H) : Exs K F s₀ H Wr σ (.Return (some e) pos :: rest) N (fun h r => Rep H₀ h r d) :=
  xs_ret fun h hk k s hI => (he h hk k s hI).weak fun h' v _ r => r.mono' (fun _ _ _ e _ => e) fun _ _ ha _ _ hm => ha (sub _ hm)
theorem xs_assign {e : Expr} {x : Str} {px pos : Pos} {v : V} (he : EvF K F H σ e (fun h r => RV H h r v)) (hsw : swapsWith e (some (.Name x px)) pos.line F.env = pure false) (st : Storable F.env x) (off : ∀ b ∈ v.fp, offFrame F.env b)
    (hr : Exs K F s₀ H Wr ((x, v) :: σ) rest N R) : Exs K F s₀ H Wr σ (.Assign [.Name x px] e pos :: rest) N R := fun s Q E g sub f kn kr => have zs := f.tkp;
  wpAny_execs_cons (wpAny_Assign_Name (hs := hsw) ((he s.heap f.hok (f.ck g) s (Kp.refl _)).out _ E fun r h' tk k rv => store_ok (f.grow k) st rv off fun s' f' _ t => hr s' Q E g sub f'
    (fun σ' s'' n f'' t' => kn σ' s'' n f'' fun b o hb ho e => t' b o hb ho (t b o ho (k b o e))) kr))
theorem xs_if {test : Expr} {body orelse : List Stmt} {pos : Pos} {b : Bool} {N' : NPost} (ht : EvFT K F H σ test b) (hb : Exs K F s₀ H Wr σ (bif b then body else orelse) N' R) (hr : ∀ σ', N' σ' → Exs K F s₀ H Wr σ' rest N R) :
    Exs K F s₀ H Wr σ (.If test body orelse pos :: rest) N R := fun s Q E g sub f kn kr => have zs := f.tkp;
  wpAny_execs_cons (wpAny_If (ht s.heap f.hok (f.ck g) s zs _ E (Kp.refl _) fun h' tk k => by
    have := hb { s with heap := h', toks := tk } (fun f s' => match f with | .next => wpAny (model F.prog F.w) F.A (execs rest F.env) Q E s' | f => Q f s') E g sub (f.grow k)
      (fun σ' s' n f' t => hr σ' n s' Q E g sub f' (fun σ'' s'' n' f'' t' => kn σ'' s'' n' f'' ((Tr.of_kp k).trans (t.trans t'))) kr) (fun r s' a rr => kr r s' a rr)
    cases b <;> exact this))

inductive NamesOf : List Expr → List Str → Prop
  | nil : NamesOf [] []
  | cons {x : Str} {p : Pos} {es : List Expr} {xs : List Str} : NamesOf es xs → NamesOf (.Name x p :: es) (x :: xs)
noncomputable def setAll : List Str → List D → Sig → Sig
  | x :: xs, d :: ds, σ => setAll xs ds ((x, .d d) :: σ)
  | _, _, σ => σ
theorem storeAll_ok {E : Value → Shared → Prop} {es : List Expr} {xs : List Str} (n : NamesOf es xs) : ∀ (ds : List D) (vs : List Value) (σ : Sig) (s : Shared) (Q : Unit → Shared → Prop), (∀ x ∈ xs, Storable F.env x) → Reps H s.heap vs ds → es.length = ds.length → FI F s₀ H σ s →
    (∀ s', FI F s₀ H (setAll xs ds σ) s' → Tr F.env [] s.heap s'.heap → Q () s') → wpAny (model F.prog F.w) F.A (assignInOrder (es.map fun e => assign e F.env) vs) Q E s := by
  induction n with
  | nil =>
    intro ds vs σ s Q _ r hl f k
    cases r with
    | nil => exact assignInOrder_nil (k s f (Tr.of_kp (Kp.refl _)))
    | cons _ _ => cases hl
  | @cons x p es xs n ih =>
    intro ds vs σ s Q st r hl f k
    cases r with
    | nil => cases hl
    | @cons v d vs ds r rs =>
      show wpAny (model F.prog F.w) F.A (assignInOrder (assign (.Name x p) F.env :: es.map fun e => assign e F.env) (v :: vs)) Q E s
      refine assignInOrder_cons (wpAny_assign_Name (store_ok (v := .d d) f (st x (List.mem_cons_self)) r (fun b hb => by cases hb) fun s' f' tr t => ?_))
      exact ih ds vs _ s' Q (fun y hy => st y (List.mem_cons_of_mem _ hy)) (rs.mono' (fun b o _ e q => tr b o e q) fun _ _ ha _ _ => ha) (by simpa using hl) f' fun s'' f'' t' => k s'' f'' (Tr.trans (fun b o _ ho e => t b o ho e) t')
theorem xs_unpack {elts : List Expr} {xs : List Str} {k : Nat} {tpos pos : Pos} {e : Expr} {d : D} {ds : List D} (he : EvF K F H σ e (fun h r => Rep H h r d)) (hd : d.items = some ds) (n : NamesOf elts xs) (hl : elts.length = ds.length) (st : ∀ x ∈ xs, Storable F.env x)
    (hm : (assignEach elts F.env).map (·.2) = elts.map fun e => assign e F.env) (hn : (assignEach elts F.env).length = elts.length) (hstar : (assignEach elts F.env).findIdx? (·.1) = none)
    (hs : swapsWithSole [.Tuple elts k tpos] e pos.line F.env = pure false) (hw : swappedStores [.Tuple elts k tpos] e F.env = pure none)
    (hr : Exs K F s₀ H Wr (setAll xs ds σ) rest N R) : Exs K F s₀ H Wr σ (.Assign [.Tuple elts k tpos] e pos :: rest) N R := fun s Q E g sub f kn kr => have zs := f.tkp;
  wpAny_execs_cons (Assign_Tuple (hs := hs) (hw := hw) ((he s.heap f.hok (f.ck g) s (Kp.refl _)).out _ E fun r h' tk kp rv =>
    unpack_ok F.hh rv hd (hn.trans hl) hstar fun h'' vs k' rs => by
      rw [hm]
      exact storeAll_ok n ds vs σ _ _ st rs hl ((f.grow (tk := tk) kp).grow (tk := tk) k') fun s' f' t => hr s' Q E g sub f'
        (fun σ' s'' n' f'' t' => kn σ' s'' n' f'' fun b o hb ho e => t' b o hb ho (t b o (by simp) ho (k' b o (kp b o e)))) kr))

theorem FI.hide (f : FI F s₀ H σ s₁) {I : Addr} {h' : Heap} {tk : Nat} (kp : Kp s₁.heap h') (hI : s₁.heap.objs.size ≤ I) (hl : ∃ o, h'.get? I = some o) (zt : 0 < tk := by first | assumption | exact Subtype.property _ | exact Nat.succ_pos _) : FI F s₀ (I :: H) σ { s₁ with heap := h', toks := tk } := by
  obtain ⟨⟨m, cm, ic, hv⟩, hk, hz⟩ := f
  have new : ∀ b ∈ I :: H, b ∈ H ∨ s₁.heap.objs.size ≤ b := fun b hb => by
    rcases List.mem_cons.mp hb with rfl | hb
    · exact .inr hI
    · exact .inl hb
  refine ⟨⟨m, cm, InCallC.grow ic kp, fun y v e => ?_⟩, fun b hb => ?_, zt⟩
  · obtain ⟨a, c⟩ := hv y v e
    refine ⟨?_, c⟩
    rcases a with ⟨kk, r, hm, hr⟩ | ⟨kk, a, r, hc, hm, hr⟩
    · exact .inl ⟨kk, r, hm, hr.newH kp new⟩
    · exact .inr ⟨kk, a, r, hc, hm, hr.newH kp new⟩
  · rcases List.mem_cons.mp hb with rfl | hb
    · exact hl
    · obtain ⟨o, e⟩ := hk b hb; exact ⟨o, kp b o e⟩
theorem FI.bare {s : Shared} {I : Addr} (f : FI F s₀ (I :: H) σ s) : FI F s₀ H σ s := by
  obtain ⟨⟨m, cm, ic, hv⟩, hk, hz⟩ := f
  refine ⟨⟨m, cm, ic, fun y v e => ?_⟩, fun b hb => hk b (List.mem_cons_of_mem _ hb), hz⟩
  obtain ⟨a, c⟩ := hv y v e
  have up : ∀ {r}, RV (I :: H) s.heap r v → RV H s.heap r v := fun x => x.mono' (fun _ _ e _ => e) fun b o hb _ _ hm => hb (List.mem_cons_of_mem _ hm)
  refine ⟨?_, c⟩
  rcases a with ⟨kk, r, hm, hr⟩ | ⟨kk, a, r, hc, hm, hr⟩
  · exact .inl ⟨kk, r, hm, up hr⟩
  · exact .inr ⟨kk, a, r, hc, hm, up hr⟩
/-- one hidden thing changes -/
theorem FI.but {s : Shared} {I : Addr} {h' : Heap} {tk : Nat} (f : FI F s₀ H σ s) (hs : ∀ b o, b ≠ I → s.heap.get? b = some o → h'.get? b = some o) (hI : I ∈ H) (off : offFrame F.env I) (new : s₀.heap.objs.size ≤ I) (hfp : ∀ x v, σ.lookup x = some v → I ∉ v.fp)
    (hl : ∃ o, h'.get? I = some o) (zt : 0 < tk := by first | assumption | exact Subtype.property _ | exact Nat.succ_pos _) : FI F s₀ H σ { s with heap := h', toks := tk } := by
  obtain ⟨⟨m, cm, ic, hv⟩, hk, hz⟩ := f
  obtain ⟨⟨⟨h1, t1, rfl⟩, ns, kp, fr⟩, cell, ap, ab⟩ := ic
  have ns' : h'.Ns F.env.locals m := ns.at' fun o e => hs _ o (Ne.symm off.1) e
  refine ⟨⟨m, cm, ⟨⟨⟨h', tk, rfl⟩, ns', fun b o e => hs b o (fun q => ?_) (kp b o e), fr⟩, fun n c e => ?_, ap, ab⟩, fun y v e => ?_⟩, fun b hb => ?_, zt⟩
  · rw [q, get_none_ge new] at e; cases e
  · obtain ⟨o, e1, e2⟩ := cell n c e
    exact ⟨o, hs _ o (Ne.symm (off.2 n c e)) e1, e2⟩
  · obtain ⟨a, c⟩ := hv y v e
    have up : ∀ {r}, RV H h1 r v → RV H h' r v := fun x => x.mono' (fun b o e' q => hs b o (fun z => by
      rcases q with q | q
      · exact hfp y v e (z ▸ q)
      · exact q.1 (z ▸ hI)) e') fun _ _ hb _ _ => hb
    refine ⟨?_, c⟩
    rcases a with ⟨kk, r, hm, hr⟩ | ⟨kk, a, r, hc, hm, hr⟩
    · exact .inl ⟨kk, r, hm, up hr⟩
    · exact .inr ⟨kk, a, r, hc, hm, up hr⟩
  · by_cases q : b = I
    · rw [q]; exact hl
    · obtain ⟨o, e⟩ := hk b hb; exact ⟨o, hs b o q e⟩
theorem FI.drop {s : Shared} {I : Addr} {h' : Heap} {tk : Nat} (f : FI F s₀ (I :: H) σ s) (hs : ∀ b o, b ≠ I → s.heap.get? b = some o → h'.get? b = some o) (hI : I ∉ H) (off : offFrame F.env I) (new : s₀.heap.objs.size ≤ I) (hfp : ∀ x v, σ.lookup x = some v → I ∉ v.fp) (zt : 0 < tk := by first | assumption | exact Subtype.property _ | exact Nat.succ_pos _) :
    FI F s₀ H σ { s with heap := h', toks := tk } := by
  obtain ⟨⟨m, cm, ic, hv⟩, hk, hz⟩ := f
  obtain ⟨⟨⟨h1, t1, rfl⟩, ns, kp, fr⟩, cell, ap, ab⟩ := ic
  have ns' : h'.Ns F.env.locals m := ns.at' fun o e => hs _ o (Ne.symm off.1) e
  refine ⟨⟨m, cm, ⟨⟨⟨h', tk, rfl⟩, ns', fun b o e => hs b o (fun q => ?_) (kp b o e), fr⟩, fun n c e => ?_, ap, ab⟩, fun y v e => ?_⟩, fun b hb => ?_, zt⟩
  · rw [q, get_none_ge new] at e; cases e
  · obtain ⟨o, e1, e2⟩ := cell n c e
    exact ⟨o, hs _ o (Ne.symm (off.2 n c e)) e1, e2⟩
  · obtain ⟨a, c⟩ := hv y v e
    have up : ∀ {r}, RV (I :: H) h1 r v → RV H h' r v := fun x => x.mono' (fun b o e' q => hs b o (fun z => by
      rcases q with q | q
      · exact hfp y v e (z ▸ q)
      · exact q.1 (by rw [z]; simp)) e') fun b _ hb _ _ hm => hb (List.mem_cons_of_mem _ hm)
    refine ⟨?_, c⟩
    rcases a with ⟨kk, r, hm, hr⟩ | ⟨kk, a, r, hc, hm, hr⟩
    · exact .inl ⟨kk, r, hm, up hr⟩
    · exact .inr ⟨kk, a, r, hc, hm, up hr⟩
  · obtain ⟨o, e⟩ := hk b (List.mem_cons_of_mem _ hb); exact ⟨o, hs b o (fun q => hI (q ▸ hb)) e⟩
theorem FI.fp_live {s : Shared} (f : FI F s₀ H σ s) {x : Str} {v : V} (e : σ.lookup x = some v) : ∀ b ∈ v.fp, ∃ o, s.heap.get? b = some o := by
  obtain ⟨⟨m, cm, ic, hv⟩, hk, hz⟩ := f
  intro b hb
  obtain ⟨a, c⟩ := hv x v e
  have go : ∀ r, RV H s.heap r v → ∃ o, s.heap.get? b = some o := fun r hr => by
    cases v with
    | d _ => cases hb
    | ob a P => exact P.live _ _ hr.2 b hb
  rcases a with ⟨_, r, _, hr⟩ | ⟨_, a, r, _, _, hr⟩ <;> exact go r hr
theorem FI.new_off {s : Shared} (f : FI F s₀ H σ s) {I : Addr} (hI : s.heap.objs.size ≤ I) : offFrame F.env I ∧ s₀.heap.objs.size ≤ I := by
  obtain ⟨⟨m, cm, ic, hv⟩, hk, hz⟩ := f
  have lt : ∀ {b o}, s.heap.get? b = some o → I ≠ b := fun e => Ne.symm (Nat.ne_of_lt (Nat.lt_of_lt_of_le (Heap.lt_size e) hI))
  have hL := ic.toInCall.ns
  refine ⟨⟨?_, fun x a e => ?_⟩, ?_⟩
  · obtain ⟨o, _, _, e, _⟩ := hL; exact lt e
  · obtain ⟨o, e1, _⟩ := ic.cell x a e; exact lt e1
  · obtain ⟨o, _, _, e, _⟩ := hL
    exact Nat.le_trans (Nat.le_trans ic.toInCall.fresh (Nat.le_of_lt (Heap.lt_size e))) hI

/-- a target of a loop of the frame -/
structure TgF (F : Fm) (target : Expr) (tp : Bool) (d : D) (σb : Sig) : Prop where
  set : ∀ (s₀ s : Shared) (H : List Addr) (σ : Sig) (v : Value) (Q : Unit → Shared → Prop) (E : Value → Shared → Prop), FI F s₀ H σ s → Rep H s.heap v d → (∀ s', FI F s₀ H (σb ++ σ) s' → Tr F.env [] s.heap s'.heap → Q () s') →
    wpAny (model F.prog F.w) F.A (assign target F.env v) Q E s
  go : (∀ it v, letOwnedTupleGo target it v = pure ()) ∨ (tp = true ∧ ∃ elts k pos ds, target = .Tuple elts k pos ∧ d = .tup ds)
theorem tgf_name {x : Str} {pos : Pos} {tp : Bool} {d : D} (st : Storable F.env x) : TgF F (.Name x pos) tp d [(x, .d d)] where
  set := fun s₀ s H σ v Q E f r k => wpAny_assign_Name (store_ok (v := .d d) f st r (fun b hb => by cases hb) fun s' f' _ t => k s' f' fun b o _ ho e => t b o ho e)
  go := .inl fun _ _ => rfl
theorem tgf_pair {x y : Str} {px py pos : Pos} {k : Nat} {a b : D} (st : Storable F.env x) (st' : Storable F.env y) : TgF F (.Tuple [.Name x px, .Name y py] k pos) true (.tup [a, b]) [(y, .d b), (x, .d a)] where
  set := fun s₀ s H σ v Q E f r kk => by
    have zs := f.tkp
    refine unpack_ok F.hh r rfl rfl rfl fun h' vs k' rs => ?_
    refine storeAll_ok (F := F) (es := [.Name x px, .Name y py]) (.cons (.cons .nil)) [a, b] vs σ _ _ (fun z hz => ?_) rs rfl (f.grow k') fun s' f' t => kk s' f' fun b o hb ho e => t b o hb ho (k' b o e)
    rcases List.mem_cons.mp hz with rfl | hz
    · exact st
    · rw [List.mem_singleton.mp hz]; exact st'
  go := .inr ⟨rfl, _, _, _, _, rfl, rfl⟩

theorem xs_for {target iter : Expr} {body : List Stmt} {pos : Pos} {ds : List D} {tp hid : Bool} (σs : Nat → Sig) (Inv : Nat → Prop) (bd : D → Sig) (hi : EvFIt K F H σ iter ds tp hid) (hs : ∀ x, foldedSetIterable iter F.env x = pure x)
    (h0 : Le (σs 0) σ) (i0 : Inv 0) (hfp : ∀ i x v, (σs i).lookup x = some v → ∀ b ∈ v.fp, ∃ y u, σ.lookup y = some u ∧ b ∈ u.fp) (hT : ∀ d, d ∈ ds → TgF F target tp d (bd d)) (hWr : hid = true → Wr = [])
    (hB : ∀ I i d, ds[i]? = some d → Inv i → Exs K F s₀ (I :: H) Wr (bd d ++ σs i) body (fun σ' => Le (σs (i + 1)) σ' ∧ Inv (i + 1)) R)
    (hr : Inv ds.length → Exs K F s₀ H Wr (σs ds.length) rest N R) :
    Exs K F s₀ H Wr σ (.For target iter body [] pos :: rest) N R := by
  intro s Q E g sub f kn kr
  have zs := f.tkp
  refine wpAny_execs_cons (wpAny_For (hi s.heap f.hok (f.ck g) s zs _ E (Kp.refl _) fun v h₁ tk k1 it => ?_) hs)
  have f1 : FI F s₀ H σ { s with heap := h₁, toks := tk } := f.grow k1
  refine it _ _ fun I h₂ fp P St k2 hsz W st hfp2 => ?_
  have hIn : h₁.objs.size ≤ I := W.new
  have f2 : FI F s₀ (I :: H) σ { s with heap := h₂, toks := tk } := f1.hide (h' := h₂) (tk := tk) k2 hIn (W.live _ _ st)
  obtain ⟨offI, newI⟩ := f1.new_off (I := I) hIn
  have live1 : ∀ b, (∃ o, h₁.get? b = some o) → b ≠ I := fun b ⟨o, e⟩ => Nat.ne_of_lt (Nat.lt_of_lt_of_le (Heap.lt_size e) hIn)
  have IWr : I ∉ Wr := fun hm => live1 I (f1.hok I (sub I hm).1) rfl
  have fpI : ∀ i x v, (σs i).lookup x = some v → I ∉ v.fp := fun i x v e hm => by
    obtain ⟨y, u, e', hb⟩ := hfp i x v e I hm
    exact live1 I (f1.fp_live e' I hb) rfl
  have fpOk : ∀ b ∈ fp, b ∉ Wr ∧ offFrame F.env b := fun b hb => by
    rcases W.fps b hb with rfl | ⟨hh, o, e, q⟩
    · exact ⟨IWr, offI⟩
    · refine ⟨fun hm => ?_, f1.seq_off e q⟩
      rcases hh with hh | hh
      · exact hh (sub b hm).1
      · rw [hWr hh] at hm; cases hm
  have newIn : ∀ b ∈ I :: H, b ∈ H ∨ h₁.objs.size ≤ b := fun b hb => by
    rcases List.mem_cons.mp hb with rfl | hb
    · exact .inr hIn
    · exact .inl hb
  refine codeAny_forLoop_any (fun n s' => ∃ i, i ≤ ds.length ∧ n = ds.length + 1 - i ∧ Inv i ∧ St i s'.heap ∧ FI F s₀ (I :: H) (σs i) s' ∧ Tr F.env Wr s.heap s'.heap ∧ Tr F.env Wr h₁ s'.heap) ?_ (ds.length + 1)
    ⟨0, Nat.zero_le _, rfl, i0, st, f2.le h0, Tr.of_kp (k1.trans k2), Tr.of_kp k2⟩
  rintro n s' ⟨i, hi', rfl, inv, st', f', t', t1⟩
  by_cases hlt : i < ds.length
  · refine wpAny_pos f'.tkp (W.W.item i _ _ _ hlt st' fun v h₃ tk₃ hPv st₃ hk₃ z₃ => ?_)
    obtain ⟨d, hd, rd⟩ := W.item i v hlt hPv
    have hmem : d ∈ ds := List.mem_of_getElem? hd
    have hk₃' : ∀ b o, b ≠ I → s'.heap.get? b = some o → h₃.get? b = some o := fun b o hb e => hk₃ b o (by simpa using hb) e
    have f3 : FI F s₀ (I :: H) (σs i) { s' with heap := h₃, toks := tk₃ } := f'.but (h' := h₃) (tk := tk₃) hk₃' (by simp) offI newI (fpI i) (W.live _ _ st₃)
    have r1 : Rep (I :: H) h₃ v d := by
      refine rd.mono' (fun b o hb e q => ?_) (fun b o hb e q hm => ?_)
      · have hbI : b ≠ I := live1 b ⟨o, e⟩
        exact hk₃' b o hbI (t1 b o (fun hm => hb (sub b hm).1) (f1.seq_off e q) e)
      · rcases List.mem_cons.mp hm with rfl | hm
        · exact live1 b ⟨o, e⟩ rfl
        · exact hb hm
    have hgo : ∀ (Q : Unit → Shared → Prop) E (s : Shared), St (i + 1) s.heap → Q () s → wpAny (model F.prog F.w) F.A (letOwnedTupleGo target (.ref I) v) Q E s := by
      intro Q E s st hQ
      rcases (hT d hmem).go with e | ⟨htp, elts, k, pos, ds', rfl, rfl⟩
      · exact wpAny_of_eq (e _ _) hQ
      · cases r1; exact W.go htp _ _ _ _ _ _ _ _ st hQ
    refine hgo _ _ _ st₃ ((hT d hmem).set s₀ _ (I :: H) _ v _ _ f3 r1 fun s₄ f4 t4 => ?_)
    have t3 : ∀ b o, b ≠ I → offFrame F.env b → s'.heap.get? b = some o → s₄.heap.get? b = some o := fun b o hb ho e => t4 b o (by simp) ho (hk₃' b o hb e)
    have st4 : St (i + 1) s₄.heap := W.W.frame _ _ _ st₃ fun b hb o e => t4 b o (by simp) (fpOk b hb).2 e
    refine hB I i d hd inv s₄ _ _ g (fun b hb => ⟨List.mem_cons_of_mem _ (sub b hb).1, (sub b hb).2⟩) f4 (fun σ' s₅ ⟨l, inv'⟩ f5 t5 => ?_) fun r s' a rr => kr r s' a rr
    have chain : ∀ (h : Heap), (∀ b o, h.get? b = some o → b ≠ I) → Tr F.env Wr h s'.heap → Tr F.env Wr h s₅.heap := fun h hh t b o hb ho e => t5 b o hb ho (t3 b o (hh b o e) ho (t b o hb ho e))
    refine ⟨ds.length + 1 - (i + 1), by omega, i + 1, hlt, rfl, inv', W.W.frame _ _ _ st4 fun b hb o e => t5 b o (fpOk b hb).1 (fpOk b hb).2 e, f5.le l, chain _ (fun b o e => live1 b ⟨o, k1 b o e⟩) t', chain _ (fun b o e => live1 b ⟨o, e⟩) t1⟩
  · obtain rfl : i = ds.length := Nat.le_antisymm hi' (Nat.not_lt.mp hlt)
    refine wpAny_pos f'.tkp (W.W.done _ _ _ st' fun h₃ tk₃ hk₃ z₃ => ?_)
    refine wpAny_execs_nil ?_
    have hk₃' : ∀ b o, b ≠ I → s'.heap.get? b = some o → h₃.get? b = some o := fun b o hb e => hk₃ b o (by simpa using hb) e
    have f3 : FI F s₀ H (σs ds.length) { s' with heap := h₃, toks := tk₃ } := f'.drop (h' := h₃) (tk := tk₃) hk₃' (fun hm => live1 I (f1.hok I hm) rfl) offI newI (fpI _)
    exact hr inv _ Q E g sub f3 (fun σ' s₅ n f5 t5 => kn σ' s₅ n f5 fun b o hb ho e => t5 b o hb ho (hk₃' b o (live1 b ⟨o, k1 b o e⟩) (t' b o hb ho e))) kr
end
end
section
open PySem PySem.W PySem.Calls PyProof.Rows

/-- a list of the frame's own -/
noncomputable def ownP (a : Addr) (ds : List D) : HP where
  fp := [a]
  p := fun H h => ∃ vs, h.PlainList a (List.toArray vs) ∧ Reps H h vs ds
  mono := fun H H' h h' ⟨vs, ⟨n, e⟩, r⟩ hk hH => ⟨vs, ⟨n, hk _ _ e (.inl (by simp))⟩, r.mono' (fun b o hb e q => hk b o e (.inr ⟨hb, q⟩)) hH⟩
  live := fun H h ⟨vs, ⟨n, e⟩, _⟩ b hb => by rw [List.mem_singleton.mp hb]; exact ⟨_, e⟩
noncomputable abbrev V.own (a : Addr) (ds : List D) : V := .ob a (ownP a ds)

section
variable {K : Frag} {F : Fm} {s₀ : Shared} {H Wr : List Addr} {σ : Sig} {rest : List Stmt} {N : NPost} {R : Heap → Value → Prop}

theorem FI.setOwn {s : Shared} {a : Addr} {ds ds' : List D} {x : Str} {σ' : Sig} {vs' : List Value} {h' : Heap} {tk : Nat} (f : FI F s₀ H σ s) (hx : σ.lookup x = some (.own a ds)) (hσ : Le σ' σ) (hfp : ∀ y v, σ'.lookup y = some v → a ∉ v.fp)
    (hs : ∀ b o, b ≠ a → s.heap.get? b = some o → h'.get? b = some o) (hI : a ∈ H) (new : s₀.heap.get? a = none) (hl : h'.PlainList a vs'.toArray) (hr : Reps H s.heap vs' ds') (zt : 0 < tk := by first | assumption | exact Subtype.property _ | exact Nat.succ_pos _) : FI F s₀ H ((x, .own a ds') :: σ') { s with heap := h', toks := tk } := by
  obtain ⟨⟨m, cm, ic, hv⟩, hk, hz⟩ := f
  obtain ⟨⟨⟨h1, t1, rfl⟩, ns, kp, fr⟩, cell, ap, ab⟩ := ic
  have off : offFrame F.env a := (hv x _ hx).2 a (by simp [V.fp, ownP])
  have ns' : h'.Ns F.env.locals m := ns.at' fun o e => hs _ o (Ne.symm off.1) e
  have hr' : Reps H h' vs' ds' := hr.mono' (fun b o hb e q => hs b o (fun z => hb (z ▸ hI)) e) fun _ _ hb _ _ => hb
  refine ⟨⟨m, cm, ⟨⟨⟨h', tk, rfl⟩, ns', fun b o e => hs b o (fun q => ?_) (kp b o e), fr⟩, fun n c e => ?_, ap, ab⟩, fun y v e => ?_⟩, fun b hb => ?_, zt⟩
  · rw [q, new] at e; cases e
  · obtain ⟨o, e1, e2⟩ := cell n c e
    exact ⟨o, hs _ o (Ne.symm (off.2 n c e)) e1, e2⟩
  · rcases lookup_set e with ⟨rfl, rfl⟩ | ⟨_, e⟩
    · obtain ⟨q, c⟩ := hv y _ hx
      refine ⟨?_, c⟩
      rcases q with ⟨kk, r, hm, hr, _⟩ | ⟨kk, a', r, hc, hm, hr, _⟩
      · exact .inl ⟨kk, r, hm, hr, vs', hl, hr'⟩
      · exact .inr ⟨kk, a', r, hc, hm, hr, vs', hl, hr'⟩
    · have e' := hσ y v e
      obtain ⟨q, c⟩ := hv y v e'
      have up : ∀ {r}, RV H h1 r v → RV H h' r v := fun x => x.mono' (fun b o e' q => hs b o (fun z => by
        rcases q with q | q
        · exact hfp y v e (z ▸ q)
        · exact q.1 (z ▸ hI)) e') fun _ _ hb _ _ => hb
      refine ⟨?_, c⟩
      rcases q with ⟨kk, r, hm, hr⟩ | ⟨kk, a, r, hc, hm, hr⟩
      · exact .inl ⟨kk, r, hm, up hr⟩
      · exact .inr ⟨kk, a, r, hc, hm, up hr⟩
  · by_cases q : b = a
    · rw [q]; obtain ⟨n, e⟩ := hl; exact ⟨_, e⟩
    · obtain ⟨o, e⟩ := hk b hb; exact ⟨o, hs b o q e⟩

theorem xs_newlist {x : Str} {px lp pos : Pos} (st : Storable F.env x) (hr : ∀ a, Exs K F s₀ (a :: H) (a :: Wr) ((x, .own a []) :: σ) rest N R) (hsw : swapsWith (.List [] lp) (some (.Name x px)) pos.line F.env = pure false) :
    Exs K F s₀ H Wr σ (.Assign [.Name x px] (.List [] lp) pos :: rest) N R := fun s Q E g sub f kn kr => have zs := f.tkp; by
  refine wpAny_execs_cons (wpAny_Assign_Name (hs := hsw) (List_ (args_nil (wpAny_newObj_type ?_))))
  obtain ⟨off, new⟩ := f.new_off (Nat.le_refl _)
  have f1 := f.hide (h' := s.heap.push { cls := .type "list", data := .seq (List.toArray []) }) (tk := s.toks) (Kp.push _ _) (Nat.le_refl _) ⟨_, Heap.get?_push_size _ rfl⟩
  refine store_ok (v := .own s.heap.objs.size []) f1 st ⟨rfl, [], ⟨_, Heap.get?_push_size _ rfl⟩, .nil⟩ (fun b hb => by rw [List.mem_singleton.mp hb]; exact off) fun s' f' _ t => ?_
  refine hr _ s' Q E g (fun b hb => ?_) f' (fun σ' s'' n f'' t' => kn σ' s'' n f''.bare fun b o hb ho e => t' b o (fun hm => ?_) ho (t b o ho (Heap.get?_push_of_some _ e))) kr
  · rcases List.mem_cons.mp hb with rfl | hb
    · exact ⟨List.mem_cons_self, get_none_ge new⟩
    · exact ⟨List.mem_cons_of_mem _ (sub b hb).1, (sub b hb).2⟩
  · rcases List.mem_cons.mp hm with rfl | hm
    · exact Nat.lt_irrefl _ (Heap.lt_size e)
    · exact hb hm

/-- a call of a method of a list of the frame's own -/
theorem own_call {s : Shared} {x : Str} {name : Str} {id : String} {px ap pos : Pos} {args : List Expr} {a : Addr} {ds : List D} {Q : Value → Shared → Prop} {E : Value → Shared → Prop} (g : Gd K s₀.heap) (f : FI F s₀ H σ s) (hx : σ.lookup x = some (.own a ds)) (hd : (x == ("__debug__" : Str)) = false) (hc : (x == ("__classdict__" : Str)) = false)
    (hbase : attributeBase (.Name x px) name F.env (eval (.Name x px) F.env) = eval (.Name x px) F.env) (hline : (ap.endLine == pos.line) = true) (hfew : ((backTo pos (starEach args F.env)).all (fun x => !x.1) && (backToKw pos (keywordEach [] F.env)).all (fun x => x.1.isSome)
      && decide (args.length + ([] : List Keyword).length + (if ([] : List Keyword).isEmpty then 0 else 1) < 30)) = true)
    (slot : Slot "list" name id) (ty : typeOf (.builtin id) = pure (.type "method_descriptor"))
    (h : ∀ (tk : Tk) vs, s.heap.PlainList a (List.toArray vs) → Reps H s.heap vs ds → wpAny (model F.prog F.w) F.A (callWith pos (.builtin id) [.ref a] (backTo pos (starEach args F.env)) []) Q E { s with toks := tk.1 }) :
    wpAny (model F.prog F.w) F.A (eval (.Call (.Attribute (.Name x px) name ap) args [] pos) F.env) Q E s := by
  refine wpAny_Call_method_lateS hbase hfew hline ?_
  obtain ⟨r, l, hr, vs, hp, hR⟩ := f.sees x _ hx
  subst hr
  have lo : ∀ (Q : Value → Shared → Prop), Q (.ref a) s → wpAny (model F.prog F.w) F.A (eval (.Name x px) F.env) Q E s := fun Q hQ => by
    rcases l with ⟨hk, m, hn, e⟩ | ⟨hk, c, hc', hv⟩
    · exact wpAny_Name (wpAny_loadName_local F.fn hk hn e hQ) hd
    · rcases hk with hk | hk
      · exact wpAny_Name (wpAny_loadName_cell F.fn hk hc' hv hQ) hd
      · exact wpAny_Name (wpAny_loadName_free F.fn hk hc' hv hQ hc) hd
  exact lo _ ⟨"list", id, PySem.F.plainAttrs_list, slot, ty, hp.isList.typeIs, fun b e => by cases e; obtain ⟨n, e⟩ := hp; exact ⟨_, e, rfl⟩, h ⟨s.toks, f.tkp⟩ vs hp hR⟩

theorem own_call1 {s : Shared} {x : Str} {name : Str} {id : String} {px ap pos : Pos} {e : Expr} {a : Addr} {ds : List D} {Q : Value → Shared → Prop} {E : Value → Shared → Prop} (g : Gd K s₀.heap) (f : FI F s₀ H σ s) (hx : σ.lookup x = some (.own a ds)) (hd : (x == ("__debug__" : Str)) = false) (hc : (x == ("__classdict__" : Str)) = false)
    (hbase : attributeBase (.Name x px) name F.env (eval (.Name x px) F.env) = eval (.Name x px) F.env) (hline : (ap.endLine == pos.line) = true) (hs : starEach [e] F.env = [(false, eval e F.env)])
    (slot : Slot "list" name id) (ty : typeOf (.builtin id) = pure (.type "method_descriptor"))
    (h : ∀ (tk : Tk) vs, s.heap.PlainList a (List.toArray vs) → Reps H s.heap vs ds → wpAny (model F.prog F.w) F.A (eval e F.env) (fun v s₁ => wpAny (model F.prog F.w) F.A (call (.builtin id) [.ref a, v]) Q E s₁) E { s with toks := tk.1 }) :
    wpAny (model F.prog F.w) F.A (eval (.Call (.Attribute (.Name x px) name ap) [e] [] pos) F.env) Q E s := by
  refine own_call g f hx hd hc hbase hline (by rw [hs]; rfl) slot ty fun tk vs hp hR => ?_
  have hpl : (backTo pos (starEach [e] F.env)).any (·.1) = false := by rw [hs]; rfl
  have hout : wpAny (model F.prog F.w) F.A (spliced (backTo pos (starEach [e] F.env))) (fun rs s₂ => wpAny (model F.prog F.w) F.A (call (.builtin id) ([.ref a] ++ rs)) Q E s₂) E { s with toks := tk.1 } :=
    args_cons (wpAny_mono (h tk vs hp hR) (fun v s₁ h₁ => args_nil h₁) fun _ _ y => y) hs
  rw [hs] at hpl hout ⊢
  exact Calls.callWith_builtin hpl (Calls.evalArgs_plain hout)
theorem own_call0 {s : Shared} {x : Str} {name : Str} {id : String} {px ap pos : Pos} {a : Addr} {ds : List D} {Q : Value → Shared → Prop} {E : Value → Shared → Prop} (g : Gd K s₀.heap) (f : FI F s₀ H σ s) (hx : σ.lookup x = some (.own a ds)) (hd : (x == ("__debug__" : Str)) = false) (hc : (x == ("__classdict__" : Str)) = false)
    (hbase : attributeBase (.Name x px) name F.env (eval (.Name x px) F.env) = eval (.Name x px) F.env) (hline : (ap.endLine == pos.line) = true)
    (slot : Slot "list" name id) (ty : typeOf (.builtin id) = pure (.type "method_descriptor"))
    (h : ∀ (tk : Tk) vs, s.heap.PlainList a (List.toArray vs) → Reps H s.heap vs ds → wpAny (model F.prog F.w) F.A (call (.builtin id) [.ref a]) Q E { s with toks := tk.1 }) :
    wpAny (model F.prog F.w) F.A (eval (.Call (.Attribute (.Name x px) name ap) [] [] pos) F.env) Q E s := by
  refine own_call g f hx hd hc hbase hline rfl slot ty fun tk vs hp hR => ?_
  exact Calls.callWith_builtin (args := []) rfl (PyProof.Rows.evalArgs_none (h tk vs hp hR))

theorem pop_own {prog : Program} {w : World} {A : Around} {E : Value → Shared → Prop} {s : Shared} {a : Addr} {vs : List Value} {y : Value} {Q : Value → Shared → Prop} (hp : s.heap.PlainList a (List.toArray (vs ++ [y]))) (hz : vs.length < seqMax)
    (h : ∀ h', h'.PlainList a (List.toArray vs) → Heap.SameBut a s.heap h' → Q y { s with heap := h' }) : wpAny (model prog w) A (call (.builtin "list.pop") [.ref a]) Q E s := by
  obtain ⟨n, e⟩ := hp
  have hz' : (vs ++ [y]).toArray.size ≤ sizeLine := by rw [List.size_toArray, List.length_append]; exact seqMax_le hz
  have hk : (vs ++ [y]).toArray.size - 1 = vs.length := by rw [List.size_toArray, List.length_append]; rfl
  have hy : (vs ++ [y]).toArray[(vs ++ [y]).toArray.size - 1]? = some y := by rw [hk]; simp
  refine call_meets PySem.F.slot_list_pop ⟨_, e, rfl⟩ PySem.F.entry_list_pop (PySem.F.args_list_pop_1 _) (PySem.MeetsSeq.list_pop_last a _ n y hy hz') ⟨e, h _ ?_ (Heap.SameBut.update ..)⟩
  have he : (vs ++ [y]).toArray.eraseIdxIfInBounds ((vs ++ [y]).toArray.size - 1) = vs.toArray := by rw [hk, kl_erase, List.append_nil]
  have q := PySem.IsL.update e (fun xs => xs.eraseIdxIfInBounds ((vs ++ [y]).toArray.size - 1))
  rw [he, if_neg (by simp)] at q
  exact ⟨_, q⟩

theorem Reps.snoc_inv {H : List Addr} {h : Heap} {d : D} : ∀ {ds : List D} {vs : List Value}, Reps H h vs (ds ++ [d]) → ∃ ws y, vs = ws ++ [y] ∧ Reps H h ws ds ∧ Rep H h y d
  | [], _, .cons r .nil => ⟨[], _, rfl, .nil, r⟩
  | _ :: _, _, .cons r rs => let ⟨ws, y, e, h1, h2⟩ := Reps.snoc_inv rs; ⟨_ :: ws, y, by rw [e]; rfl, .cons r h1, h2⟩
theorem le_own {x : Str} {a : Addr} {ds ds' : List D} {σ σ' : Sig} (hx : σ.lookup x = some (.own a ds)) (hσ : Le σ' σ) (hfp : ∀ y v, σ'.lookup y = some v → a ∉ v.fp) : Le σ' ((x, .own a ds') :: σ') := fun z u e => by
  by_cases q : z = x
  · have h1 := hσ z u e
    rw [q, hx] at h1; cases h1
    exact absurd (by simp [V.fp, ownP]) (hfp z _ e)
  · rw [List.lookup_cons, beq_eq_false_iff_ne.mpr q]; exact e
/-- the end of an append -/
theorem append_end {s s₁ : Shared} {x : Str} {a : Addr} {ds : List D} {d : D} {v : Value} {vs : List Value} {σ' : Sig} {Q : Flow → Shared → Prop} {E : Value → Shared → Prop} (sub : ∀ b ∈ Wr, b ∈ H ∧ s₀.heap.get? b = none) (f : FI F s₀ H σ s₁) {ds' : List D} (hx : σ.lookup x = some (.own a ds')) (ha : a ∈ Wr)
    (hp : s₁.heap.PlainList a (List.toArray vs)) (hR : Reps H s₁.heap vs ds) (r : Rep H s₁.heap v d) (hσ : Le σ' σ) (hfp : ∀ y v, σ'.lookup y = some v → a ∉ v.fp) (hz : ds.length < seqMax)
    (t : Tr F.env Wr s.heap s₁.heap) (k : ∀ s', FI F s₀ H ((x, .own a (ds ++ [d])) :: σ') s' → Tr F.env Wr s.heap s'.heap → Q .next s') :
    wpAny (model F.prog F.w) F.A (call (.builtin "list.append") [.ref a, v]) (fun v s' => match v with | .ref _ => False | _ => Q .next s') E s₁ := by
  have zs := f.tkp
  refine wpAny_list_append_plain (hsz := by rw [List.size_toArray, hR.length]; exact seqMax_le (Nat.le_of_lt hz)) hp fun h₂ hp₂ hs₂ => ?_
  have off := (sub a ha)
  have := f.setOwn (h' := h₂) (tk := s₁.toks) (vs' := vs ++ [v]) hx hσ hfp (fun b o hb e => hs₂.extBut b o hb e) off.1 off.2 (by simpa using hp₂) (hR.snoc r)
  exact k _ this (t.trans fun b o hb ho e => hs₂.extBut b o (fun q => hb (q ▸ ha)) e)

/-- word.append(e) -/
theorem xs_append {x : Str} {px ap pos epos : Pos} {e : Expr} {a : Addr} {ds : List D} {d : D} {σ' : Sig} (hx : σ.lookup x = some (.own a ds)) (ha : a ∈ Wr) (he : EvF K F H σ e (fun h r => Rep H h r d)) (hσ : Le σ' σ) (hfp : ∀ y v, σ'.lookup y = some v → a ∉ v.fp)
    (hz : ds.length < seqMax) (hd : (x == ("__debug__" : Str)) = false) (hc : (x == ("__classdict__" : Str)) = false)
    (hbase : attributeBase (.Name x px) "append" F.env (eval (.Name x px) F.env) = eval (.Name x px) F.env) (hline : (ap.endLine == pos.line) = true) (hs : starEach [e] F.env = [(false, eval e F.env)])
    (hi : interactive F.env = false) (hsw : swapsWith (.Call (.Attribute (.Name x px) "append" ap) [e] [] pos) none epos.line F.env = pure false)
    (hr : Exs K F s₀ H Wr ((x, .own a (ds ++ [d])) :: σ') rest N R) : Exs K F s₀ H Wr σ (.Expr (.Call (.Attribute (.Name x px) "append" ap) [e] [] pos) epos :: rest) N R := fun s Q E g sub f kn kr => have zs := f.tkp; by
  refine wpAny_execs_cons (wpAny_Expr (hi := hi) (hs := hsw) (own_call1 (id := "list.append") g f hx hd hc hbase hline hs slot_list_append PySem.F.type_list_append fun tk vs hp hR => ?_))
  refine (he s.heap f.hok (f.ck g) { s with toks := tk.1 } (Kp.refl _)).out _ E fun v h₁ t₁ k₁ r => ?_
  exact append_end (s := s) (Q := fun fl s' => match fl with | .next => wpAny (model F.prog F.w) F.A (execs rest F.env) Q E s' | fl => Q fl s') sub (f.grow k₁) hx ha (hp.at fun o e => k₁ _ o e) (hR.mono k₁) r hσ hfp hz (Tr.of_kp k₁) fun s' f' t =>
    hr s' Q E g sub f' (fun σ'' s'' n f'' t' => kn σ'' s'' n f'' (t.trans t')) kr

/-- word.append(word.pop() ^ k) -/
theorem xs_turn {x : Str} {px px2 ap ap2 pos pos2 bpos epos : Pos} {e2 : Expr} {op : Operator} {a : Addr} {ds : List D} {d d1 d2 : D} {σ' : Sig} (hx : σ.lookup x = some (.own a (ds ++ [d1]))) (ha : a ∈ Wr) (he2 : ∀ σ h (hk : HOK H h), CK K σ (F.cx H h hk) → EvD (F.cx H h hk) e2 d2) (hop : binD op d1 d2 = some d)
    (hσ : Le σ' σ) (hfp : ∀ y v, σ'.lookup y = some v → a ∉ v.fp)
    (hz : ds.length < seqMax) (hd : (x == ("__debug__" : Str)) = false) (hc : (x == ("__classdict__" : Str)) = false)
    (hbase : attributeBase (.Name x px) "append" F.env (eval (.Name x px) F.env) = eval (.Name x px) F.env) (hbase2 : attributeBase (.Name x px2) "pop" F.env (eval (.Name x px2) F.env) = eval (.Name x px2) F.env) (hline : (ap.endLine == pos.line) = true) (hline2 : (ap2.endLine == pos2.line) = true)
    (hs : starEach [.BinOp (.Call (.Attribute (.Name x px2) "pop" ap2) [] [] pos2) op e2 bpos] F.env = [(false, eval (.BinOp (.Call (.Attribute (.Name x px2) "pop" ap2) [] [] pos2) op e2 bpos) F.env)])
    (hi : interactive F.env = false) (hsw : swapsWith (.Call (.Attribute (.Name x px) "append" ap) [.BinOp (.Call (.Attribute (.Name x px2) "pop" ap2) [] [] pos2) op e2 bpos] [] pos) none epos.line F.env = pure false)
    (hr : Exs K F s₀ H Wr ((x, .own a (ds ++ [d])) :: σ') rest N R) : Exs K F s₀ H Wr σ (.Expr (.Call (.Attribute (.Name x px) "append" ap) [.BinOp (.Call (.Attribute (.Name x px2) "pop" ap2) [] [] pos2) op e2 bpos] [] pos) epos :: rest) N R := fun s Q E g sub f kn kr => have zs := f.tkp; by
  refine wpAny_execs_cons (wpAny_Expr (hi := hi) (hs := hsw) (own_call1 (id := "list.append") g f hx hd hc hbase hline hs slot_list_append PySem.F.type_list_append fun tk vs hp hR => ?_))
  refine wpAny_BinOp ?_
  refine own_call0 (id := "list.pop") g (s := { s with toks := tk.1 }) (f.grow (h' := s.heap) (tk := tk) (Kp.refl _)) hx hd hc hbase2 hline2 PySem.F.slot_list_pop PySem.F.type_list_pop fun tk2 vs2 hp2 hR2 => ?_
  obtain ⟨ws, y, rfl, hws, hy⟩ := hR2.snoc_inv
  refine pop_own hp2 (by rw [hws.length]; exact hz) fun h₁ hp₁ hs₁ => ?_
  have off := (sub a ha)
  have f1 := f.setOwn (ds' := ds) (h' := h₁) (tk := tk2) (vs' := ws) hx hσ hfp (fun b o hb e => hs₁.extBut b o hb e) off.1 off.2 hp₁ hws
  have hs1 : ∀ b o, b ∉ H → s.heap.get? b = some o → IsSeq o → h₁.get? b = some o := fun b o hb e _ => hs₁.extBut b o (fun q => hb (q ▸ off.1)) e
  refine (he2 _ h₁ f1.hok (f1.ck g) { s with heap := h₁, toks := tk2 } (Kp.refl _)).out _ E fun v2 h₂ t₂ k₂ r2 => ?_
  have r2 : Rep H h₂ v2 d2 := r2
  have r1 : Rep H h₂ y d1 := Rep.mono k₂ (hy.mono' (fun b o hb e q => hs1 b o hb e q) fun _ _ hb _ _ => hb)
  refine (bin_ok (H := H) (s := { s with heap := h₂, toks := t₂ }) F.hh (f1.hok.mono k₂) hop r1 r2).out _ E fun v h₃ t₃ k₃ r => ?_
  exact append_end (s := s) (Q := fun fl s' => match fl with | .next => wpAny (model F.prog F.w) F.A (execs rest F.env) Q E s' | fl => Q fl s') sub ((f1.grow (tk := t₂) k₂).grow (tk := t₃) k₃) (ds' := ds) (x := x) (σ' := σ') (ds := ds) (by simp) ha ((hp₁.at fun o e => k₂ _ o e).at fun o e => k₃ _ o e)
    (((hws.mono' (fun b o hb e q => hs1 b o hb e q) fun _ _ hb _ _ => hb).mono k₂).mono k₃) r (le_own hx hσ hfp) hfp hz (fun b o hb ho e => k₃ b o (k₂ b o (hs₁.extBut b o (fun q => hb (q ▸ ha)) e))) fun s' f' t =>
    hr s' Q E g sub f' (fun σ'' s'' n f'' t' => kn σ'' s'' n f'' (t.trans t')) kr
end
end
section
open PySem PySem.W PySem.Calls PyProof.Rows

section
variable {K : Frag} {F : Fm} {s₀ : Shared} {H Wr : List Addr} {σ : Sig} {rest : List Stmt} {N : NPost} {R : Heap → Value → Prop}

/-- something new that is no list and no tuple changes -/
theorem FI.butNs {s : Shared} {C : Addr} {h' : Heap} {tk : Nat} (f : FI F s₀ H σ s) (hs : ∀ b o, b ≠ C → s.heap.get? b = some o → h'.get? b = some o) (hq : ∀ o, s.heap.get? C = some o → ¬ IsSeq o) (off : offFrame F.env C) (new : s₀.heap.objs.size ≤ C) (hfp : ∀ x v, σ.lookup x = some v → C ∉ v.fp) (hH : C ∉ H) (zt : 0 < tk := by first | assumption | exact Subtype.property _ | exact Nat.succ_pos _) :
    FI F s₀ H σ { s with heap := h', toks := tk } := by
  obtain ⟨⟨m, cm, ic, hv⟩, hk, hz⟩ := f
  obtain ⟨⟨⟨h1, t1, rfl⟩, ns, kp, fr⟩, cell, ap, ab⟩ := ic
  have ns' : h'.Ns F.env.locals m := ns.at' fun o e => hs _ o (Ne.symm off.1) e
  refine ⟨⟨m, cm, ⟨⟨⟨h', tk, rfl⟩, ns', fun b o e => hs b o (fun q => ?_) (kp b o e), fr⟩, fun n c e => ?_, ap, ab⟩, fun y v e => ?_⟩, fun b hb => ?_, zt⟩
  · rw [q, get_none_ge new] at e; cases e
  · obtain ⟨o, e1, e2⟩ := cell n c e
    exact ⟨o, hs _ o (Ne.symm (off.2 n c e)) e1, e2⟩
  · obtain ⟨a, c⟩ := hv y v e
    have up : ∀ {r}, RV H h1 r v → RV H h' r v := fun x => x.store (env := F.env) hq (fun b o hb e => hs b o hb e) (hfp y v e)
    refine ⟨?_, c⟩
    rcases a with ⟨kk, r, hm, hr⟩ | ⟨kk, a, r, hc, hm, hr⟩
    · exact .inl ⟨kk, r, hm, up hr⟩
    · exact .inr ⟨kk, a, r, hc, hm, up hr⟩
  · obtain ⟨o, e⟩ := hk b hb; exact ⟨o, hs b o (fun q => hH (q ▸ hb)) e⟩

theorem xs_comp {x : Str} {px spos : Pos} {elt target iter : Expr} {ifs : List Expr} {scope : Scope} {cl : List (Str × Addr)} {pos : Pos} {ds : List D} {tp hid : Bool} (p : D → Bool) (f : D → D)
    (hsw : swapsWith (.ListComp elt [⟨target, iter, ifs, 0⟩] scope pos) (some (.Name x px)) spos.line F.env = pure true)
    (hi : EvFIt K F H σ iter ds tp hid) (hclos : closureFor scope F.env = pure cl) (hcell : ∀ y ∈ scope.names, y.2 ≠ .cell) (hkind : scope.kind = .function) (hnames : ∀ y ∈ scope.names, y.2 = .local → scope.names.lookup y.1 = some .local)
    (hs : ∀ x, foldedSetIterable iter F.env x = pure x) (hlen : ds.length ≤ seqMax)
    (hT : ∀ C H d, d ∈ ds → Tgt F.prog F.w F.A (compEnvC scope cl C F.env) H target tp d) (st : Storable F.env x)
    (hE : ∀ h (hk : HOK H h), CK K σ (F.cx H h hk) → ∀ C H' hb h₃ m d, d ∈ ds → (F.cx H h hk).I hb → Kp hb h₃ → (∀ r v, RV (F.cx H h hk).H hb r v → RV H' h₃ r v) → ∀ hk' : HOK H' h₃, h₃.Ns C m → Bnd H' h₃ m target d →
      EvIfs ((F.cx H h hk).inn (compEnvC scope cl C F.env) H' h₃ hk' hkind) ifs (p d) ∧ (p d = true → EvD ((F.cx H h hk).inn (compEnvC scope cl C F.env) H' h₃ hk' hkind) elt (f d)))
    (hr : Exs K F s₀ H Wr ((x, .d (.lst ((ds.filter p).map f))) :: σ) rest N R) :
    Exs K F s₀ H Wr σ (.Assign [.Name x px] (.ListComp elt [⟨target, iter, ifs, 0⟩] scope pos) spos :: rest) N R := by
  intro s Q E g sub fi kn kr
  have zs := fi.tkp
  refine wpAny_execs_cons ?_
  rw [exec_Assign_Name_used _ _ _ _ hsw]
  refine wpAny_bind (wpAny_standAt (wpAny_bind ?_))
  generalize hQ : (fun (f : Flow) (s' : Shared) => match f with | .next => wpAny (model F.prog F.w) F.A (execs rest F.env) Q E s' | f => Q f s') = Q'
  show wpAny _ F.A (do let _ ← comprehension (.ListComp elt [⟨target, iter, ifs, 0⟩] scope pos) scope F.env _ (newList []) false (eval iter F.env) (some (assign (.Name x px) F.env))) _ _ s
  refine wpAny_bind (wpAny_mono (wpAny_comprehension_free (use := some (assign (.Name x px) F.env)) (Q := fun _ s' => Q' .next s') rfl hs hclos hkind hnames
    (hi s.heap fi.hok (fi.ck g) s zs _ E (Kp.refl _) fun v h₁ tk k1 it => it _ _ fun I h₂ fp P St k2 hsz W st₀ hfp => ?_)) (fun _ s' hq => wpAny_pure (wpAny_pure hq)) fun _ _ e => e)
  subst hQ
  refine comp_core (c := F.cx H s.heap fi.hok) (s₁ := { s with heap := h₁, toks := tk }) (s₂ := { s with heap := h₂, toks := tk })
    (RR := fun acc C => compPost (model F.prog F.w) F.A E (some (assign (.Name x px) F.env)) (fun _ s' => (fun (f : Flow) (s' : Shared) => match f with | .next => wpAny (model F.prog F.w) F.A (execs rest F.env) Q E s' | f => Q f s') .next s') acc C)
    k1 k2 hsz W st₀ tk.2 hfp hlen p f hcell hkind (fun C d hd => hT C _ d hd) (fun C h₃ m d hd k3 tr hk hn hb => hE s.heap fi.hok (fi.ck g) C _ h₁ h₃ m d hd k1 k3 tr hk hn hb) ?_
  intro C h₃ tk₃ m ys hC k3 hn hp hR
  have hIn : h₁.objs.size ≤ I := W.new
  have hDge : h₁.objs.size ≤ h₂.objs.size := by rw [hsz]; exact Nat.le_succ_of_le hIn
  have hCge : h₁.objs.size ≤ C := by rw [hC]; exact Nat.le_succ_of_le hDge
  have hDC : h₂.objs.size ≠ C := by rw [hC]; exact Nat.ne_of_lt (Nat.lt_succ_self _)
  have f1 : FI F s₀ H σ { s with heap := h₁, toks := tk } := fi.grow k1
  have f3 : FI F s₀ H σ { s with heap := h₃, toks := tk₃ } := fi.grow (k1.trans k3)
  have nD : h₂.objs.size ∉ H := fun hm => by obtain ⟨o, e⟩ := f1.hok _ hm; exact absurd (Heap.lt_size e) (Nat.not_lt.mpr hDge)
  have nC : C ∉ H := fun hm => by obtain ⟨o, e⟩ := f1.hok _ hm; exact absurd (Heap.lt_size e) (Nat.not_lt.mpr hCge)
  have hD3 : Rep H h₃ (.ref h₂.objs.size) (.lst ((ds.filter p).map f)) := .lst nD hp.isList (hR.mono' (fun _ _ _ e _ => e) fun b o hb _ _ hm => hb (List.mem_cons_of_mem _ (List.mem_cons_of_mem _ (List.mem_cons_of_mem _ hm))))
  obtain ⟨offC, newC⟩ := f1.new_off hCge
  show wpAny _ F.A (assign (.Name x px) F.env (.ref h₂.objs.size)) _ _ _
  refine wpAny_assign_Name (store_ok (v := .d (.lst ((ds.filter p).map f))) f3 st hD3 (fun b hb => by cases hb) fun s' f' _ t => ?_)
  have hn' : s'.heap.Ns C m := hn.at' fun o e => t C o offC e
  refine ⟨m, hn', fun h₄ hs₄ => ?_⟩
  have zs' := f'.tkp
  have f4 := f'.butNs (C := C) (h' := h₄) (tk := s'.toks) (fun b o hb e => hs₄.extBut b o hb e) (ns_not_seq hn') offC newC (fun z u e hm => ?_) nC
  · exact hr _ Q E g sub f4 (fun σ' s'' n f'' t' => kn σ' s'' n f'' fun b o hb ho e => t' b o hb ho (hs₄.extBut b o (fun q => (by rw [q] at e; have e1 := k1 _ _ e; rw [get_none_ge hCge] at e1; cases e1)) (t b o ho (k3 b o (k1 b o e))))) kr
  · rcases lookup_set e with ⟨_, rfl⟩ | ⟨_, e⟩
    · cases hm
    · obtain ⟨o, e'⟩ := f1.fp_live e C hm
      rw [get_none_ge hCge] at e'; cases e'
end
end
section
open PySem PySem.W PySem.Calls PyProof.Rows

theorem bindL_skip {ko : Str → Option NameKind} {x : Str} : ∀ (binds : List (Str × Value)) (m : Str → Option Value), x ∉ binds.map (·.1) → bindL ko binds m x = m x
  | [], m, _ => rfl
  | (n, v) :: r, m, h => by
    simp only [List.map_cons, List.mem_cons, not_or] at h
    unfold bindL
    rw [bindL_skip r _ h.2]
    split
    · exact if_neg h.1
    · rfl
theorem bindC_skip {ko : Str → Option NameKind} {x : Str} : ∀ (binds : List (Str × Value)) (m : Str → Option Value), x ∉ binds.map (·.1) → bindC ko binds m x = m x
  | [], m, _ => rfl
  | (n, v) :: r, m, h => by
    simp only [List.map_cons, List.mem_cons, not_or] at h
    unfold bindC
    rw [bindC_skip r _ h.2]
    split
    · rfl
    · exact if_neg h.1
theorem bindL_get {ko : Str → Option NameKind} {x : Str} {v : Value} (hk : ko x = some .local) : ∀ (binds : List (Str × Value)) (m : Str → Option Value), (binds.map (·.1)).Nodup → binds.lookup x = some v → bindL ko binds m x = some v
  | [], m, _, e => by cases e
  | (n, u) :: r, m, h, e => by
    simp only [List.map_cons, List.nodup_cons] at h
    unfold bindL
    rw [List.lookup_cons] at e
    split at e
    · rename_i q; cases e
      have q := beq_iff_eq.mp q; subst q
      rw [bindL_skip r _ h.1, if_pos hk, if_pos rfl]
    · exact bindL_get hk r _ h.2 e
theorem bindC_get {ko : Str → Option NameKind} {x : Str} {v : Value} (hk : ko x = some .cell) : ∀ (binds : List (Str × Value)) (m : Str → Option Value), (binds.map (·.1)).Nodup → binds.lookup x = some v → bindC ko binds m x = some v
  | [], m, _, e => by cases e
  | (n, u) :: r, m, h, e => by
    simp only [List.map_cons, List.nodup_cons] at h
    unfold bindC
    rw [List.lookup_cons] at e
    split at e
    · rename_i q; cases e
      have q := beq_iff_eq.mp q; subst q
      rw [bindC_skip r _ h.1, if_neg (by rw [hk]; decide), if_pos rfl]
    · exact bindC_get hk r _ h.2 e

inductive BindV (H : List Addr) (h : Heap) : List (Str × Value) → Sig → Prop
  | nil : BindV H h [] []
  | cons {x : Str} {r : Value} {v : V} {bs : List (Str × Value)} {σ : Sig} : RV H h r v → BindV H h bs σ → BindV H h ((x, r) :: bs) ((x, v) :: σ)
theorem BindV.get {H : List Addr} {h : Heap} : ∀ {bs : List (Str × Value)} {σ : Sig}, BindV H h bs σ → ∀ {x v}, σ.lookup x = some v → ∃ r, bs.lookup x = some r ∧ RV H h r v
  | _, _, .nil, _, _, e => by cases e
  | _, _, .cons (x := y) rv b, x, v, e => by
    rw [List.lookup_cons] at e ⊢
    split at e
    · cases e; exact ⟨_, rfl, rv⟩
    · exact b.get e

/-- the frame of a call -/
noncomputable def frm (prog : Program) (w : World) (A : Around) (fd : FuncData) (L f : Addr) (hh : A.handled = none) (hu : A.units + 3 + 100 < cLine) (hk : fd.scope.kind = .function) (hg : fd.globals = mainGlobals) (hb : fd.builtins = builtinsNs) : Fm where
  prog := prog
  w := w
  A := A.deeper (callEnvC fd L f)
  env := callEnvC fd L f
  hh := hh
  hu := hu
  fn := hk
  glob := hg
  bi := hb

section
variable {K : Frag} {prog : Program} {w : World} {A : Around} {s : Shared} {H : List Addr}
theorem fn_enter {f : Addr} {o : Obj} {fd : FuncData} {body : List Stmt} {rs : List Value} {kw : List (Str × Value)} {binds : List (Str × Value)} {σ : Sig} {N : NPost} {R : Heap → Value → Prop}
    (hh : A.handled = none) (hroom : A.depth + 1 ≤ 900) (hu : A.units + 3 + 100 < cLine) (G : Gd K s.heap) (hk : HOK H s.heap)
    (ho : K.lookup f = some o) (hd : o.data = .func fd) (hcd : codeIn K fd.code fd.qualname = true) (hbody : fd.body = .stmts body) (hclo : fd.closure = []) (hglob : fd.globals = mainGlobals) (hbi : fd.builtins = builtinsNs)
    (hco : fd.scope.isCoroutine = false) (hgen : fd.scope.isGenerator = false) (hkind : fd.scope.kind = .function)
    (hbind : ∀ (Q : List (Str × Value) → Shared → Prop) (E : Value → Shared → Prop), Q binds s → wpAny (model prog w) A.in1 (bindArgs fd ⟨rs, kw⟩) Q E s)
    (hkinds : (binds.all fun y => fd.scope.names.lookup y.1 == some .local || fd.scope.names.lookup y.1 == some .cell) = true) (hnd : (binds.map (·.1)).Nodup) (hv : BindV H s.heap binds σ)
    (hx : Exs K (frm prog w A fd s.heap.objs.size f hh hu hkind hglob hbi) s H [] σ body N R) (hN : ∀ h, (∃ σ, N σ) → R h .none) :
    Ylds (model prog w) A (call (.ref f) rs kw) R s := by
  refine Ylds.of (fun zs Q E k => wpAny_call ?_)
  refine codeAny_call_function (Nat.lt_of_le_of_lt (Nat.le_of_succ_le hroom) (by decide)) (G.kin _ _ ho) hd hco hgen hbody (codeRec_of G.kin hcd) (hbind _ _ ?_)
  rw [hclo]
  refine wpAny_pos zs (wpAny_newFunctionEnv_cells hkind (kindsX hkinds _) fun env he s' x z => ?_)
  subst he
  refine ⟨G.lim.keeps x.toInCall.keep, codeAny_func ?_⟩
  have f0 : FI (frm prog w A fd s.heap.objs.size f hh hu hkind hglob hbi) s H σ s' := by
    refine ⟨⟨_, _, x, fun y v e => ?_⟩, hk.mono x.toInCall.keep, z⟩
    obtain ⟨r, hb, rv⟩ := hv.get e
    have hlive : ∀ b ∈ v.fp, ∃ o, s.heap.get? b = some o := fun b hb => by
      cases v with
      | d _ => cases hb
      | ob a P => exact P.live _ _ rv.2 b hb
    refine ⟨?_, fun b hb => ?_⟩
    · have hmem : (y, r) ∈ binds := mem_of_lookup hb
      rcases kindsX hkinds (s.heap.objs.size + 1) _ hmem with hl | ⟨hc, hs⟩
      · exact .inl ⟨hl, r, bindL_get hl _ _ hnd hb, rv.mono x.toInCall.keep⟩
      · obtain ⟨c, hc'⟩ := Option.isSome_iff_exists.mp hs
        exact .inr ⟨hc, c, r, hc', bindC_get hc _ _ hnd hb, rv.mono x.toInCall.keep⟩
    · obtain ⟨o', e'⟩ := hlive b hb
      have hlt := Heap.lt_size e'
      exact ⟨Nat.ne_of_lt hlt, fun z c hz => Nat.ne_of_lt (Nat.lt_trans hlt (x.above z c (mem_of_lookup hz)))⟩
  refine hx s' _ _ G (fun b hb => by cases hb) f0 (fun σ' s'' n f'' _ => ?_) (fun r s'' a rr => ?_)
  · obtain ⟨h', tk, rfl, kk⟩ := f''.after
    exact k _ _ _ kk (hN _ ⟨_, n⟩)
  · obtain ⟨h', tk, rfl, kk⟩ := a
    exact k _ _ _ kk rr

theorem binds_zip {H : List Addr} {h : Heap} : ∀ {xs : List Str} {rs : List Value} {vs : List V}, RVs H h rs vs → xs.length = vs.length → BindV H h (xs.zip rs) (xs.zip vs)
  | [], _, _, .nil, _ => .nil
  | _ :: _, _, _, .cons r q, e => .cons r (binds_zip q (by simpa using e))
  | [], _, _, .cons _ _, e => by cases e
  | _ :: _, _, _, .nil, e => by cases e
theorem zip_fst : ∀ {xs : List Str} {rs : List Value}, xs.length = rs.length → (xs.zip rs).map (·.1) = xs
  | [], [], _ => rfl
  | _ :: _, _ :: _, e => by rw [List.zip_cons_cons, List.map_cons, zip_fst (by simpa using e)]
  | [], _ :: _, e => by cases e
  | _ :: _, [], e => by cases e
theorem RVs.length {H : List Addr} {h : Heap} : ∀ {rs : List Value} {vs : List V}, RVs H h rs vs → rs.length = vs.length
  | _, _, .nil => rfl
  | _, _, .cons _ q => by rw [List.length_cons, List.length_cons, q.length]
theorem zip_mem {xs : List Str} {rs : List Value} {p : Str × Value} (h : p ∈ xs.zip rs) : p.1 ∈ xs := (List.of_mem_zip h).1

theorem fn_enterZ {f : Addr} {o : Obj} {fd : FuncData} {body : List Stmt} {rs : List Value} {xs : List Str} {vs : List V} {N : NPost} {R : Heap → Value → Prop} (hr : RVs H s.heap rs vs) (hlen : xs.length = vs.length)
    (hh : A.handled = none) (hroom : A.depth + 1 ≤ 900) (hu : A.units + 3 + 100 < cLine) (G : Gd K s.heap) (hk : HOK H s.heap)
    (ho : K.lookup f = some o) (hd : o.data = .func fd) (hcd : codeIn K fd.code fd.qualname = true) (hbody : fd.body = .stmts body) (hclo : fd.closure = []) (hglob : fd.globals = mainGlobals) (hbi : fd.builtins = builtinsNs)
    (hco : fd.scope.isCoroutine = false) (hgen : fd.scope.isGenerator = false) (hkind : fd.scope.kind = .function)
    (hbind : bindArgs fd ⟨rs, []⟩ = pure (xs.zip rs))
    (hkinds : (xs.all fun y => fd.scope.names.lookup y == some .local || fd.scope.names.lookup y == some .cell) = true) (hnd : xs.Nodup)
    (hx : Exs K (frm prog w A fd s.heap.objs.size f hh hu hkind hglob hbi) s H [] (xs.zip vs) body N R) (hN : ∀ h, (∃ σ, N σ) → R h .none) :
    Ylds (model prog w) A (call (.ref f) rs) R s :=
  fn_enter hh hroom hu G hk ho hd hcd hbody hclo hglob hbi hco hgen hkind (fun Q E q => wpAny_of_eq hbind q)
    (List.all_eq_true.mpr fun p hp => List.all_eq_true.mp hkinds p.1 (zip_mem hp)) (by rw [zip_fst (by rw [hlen, hr.length])]; exact hnd) (binds_zip hr hlen) hx hN

/-- a contract of a def that only reads -/
noncomputable def Fun (K : Frag) (prog : Program) (w : World) (f : Addr) (n : Nat) (vs : List V) (d : D) : Prop :=
  ∀ (A : Around) (H : List Addr) (s : Shared) (rs : List Value), A.handled = none → A.depth + n ≤ 900 → A.units + 3 * n + 100 < cLine → Gd K s.heap → HOK H s.heap → RVs H s.heap rs vs → Ylds (model prog w) A (call (.ref f) rs) (fun h v => Rep H h v d) s

theorem ev_fn {c : Cx} {σ : Sig} {x : Str} {np pos : Pos} {e : Expr} {es : List Expr} {v : V} {vs : List V} {f : Addr} {d : D} {n : Nat} {o : Obj} {fd : FuncData} (k : CK K σ c) (hx : nsIn K mainGlobals x = some (some (.ref f))) (hkx : c.env.kindOf x = some .globalImplicit) (hdx : (x == ("__debug__" : Str)) = false)
    (ho : K.lookup f = some o) (hd : o.data = .func fd) (C : Fun K c.prog c.w f n (v :: vs) d) (hn : c.A.depth + n ≤ 900) (hu : c.A.units + 3 * n + 100 < cLine) (ha : EvVs c (e :: es) (v :: vs)) : EvD c (.Call (.Name x np) (e :: es) [] pos) d :=
  ev_call (ev_gl k hx hkx hdx) (fun h hI => ⟨o, fd, (k.gd h hI).kin _ _ ho, hd⟩) ha fun s rs hI q => C c.A c.H s rs c.hh hn hu (k.gd _ hI) (c.hok hI) q
end
end
section
open PySem PySem.W PySem.Calls PyProof.Rows
section
variable {K : Frag} {σ : Sig} {c : Cx}
theorem ev_nmD {x : Str} {pos : Pos} {d : D} (k : CK K σ c) (hx : σ.lookup x = some (.d d)) (hd : (x == ("__debug__" : Str)) = false) (hc : (x == ("__classdict__" : Str)) = false) : EvD c (.Name x pos) d := ev_nm k hx hd hc
theorem ev_gint {x : Str} {pos : Pos} {i : Int} {t : Tok} (k : CK K σ c) (e : nsIn K mainGlobals x = some (some (.int i t))) (hk : c.env.kindOf x = some .globalImplicit) (hd : (x == ("__debug__" : Str)) = false) : EvD c (.Name x pos) (.int i) :=
  fun s hI => (ev_gl k e hk hd s hI).weak fun _ v _ r => by subst r; exact .int _ _
theorem ev_gstr {x : Str} {pos : Pos} {i : Str} {t : Tok} (k : CK K σ c) (e : nsIn K mainGlobals x = some (some (.str i t))) (hk : c.env.kindOf x = some .globalImplicit) (hd : (x == ("__debug__" : Str)) = false) : EvD c (.Name x pos) (.str i) :=
  fun s hI => (ev_gl k e hk hd s hI).weak fun _ v _ r => by subst r; exact .str _ _
theorem ev_toV {e : Expr} {d : D} (h : EvD c e d) : EvV c e (.d d) := h
theorem ev_cast {e : Expr} {d d' : D} (h : EvD c e d') (q : d' = d) : EvD c e d := q ▸ h
theorem et_cast {e : Expr} {d d' : Bool} (h : EvT c e d') (q : d' = d) : EvT c e d := q ▸ h
theorem mul_side {a b : Int} (ha : SmallM a) (hb : SmallM b) : binD .Mult (.int a) (.int b) = some (.int (a * b)) := if_pos ⟨ha, hb⟩

theorem mix_side {op : Operator} {n : Int} {x : UInt64} {r : UInt64} (h : small n = true) (e : (mixBin op n fun y => fltBin op x y) = some r) : binD op (.flt x) (.int n) = some (.flt r) := by
  show (mixBin op n fun y => fltBin op x y).map D.flt = _
  rw [e]; rfl
theorem mix_add {n : Int} {x : UInt64} (h : small n = true) : binD .Add (.flt x) (.int n) = some (.flt (Float64.add x (Float64.ofInt n))) := by
  show (mixBin .Add n fun y => fltBin .Add x y).map D.flt = _
  simp [mixBin, h, fltBin]
theorem mix_sub {n : Int} {x : UInt64} (h : small n = true) : binD .Sub (.flt x) (.int n) = some (.flt (Float64.sub x (Float64.ofInt n))) := by
  show (mixBin .Sub n fun y => fltBin .Sub x y).map D.flt = _
  simp [mixBin, h, fltBin]
theorem mix_mul {n : Int} {x : UInt64} (h : small n = true) : binD .Mult (.int n) (.flt x) = some (.flt (Float64.mul (Float64.ofInt n) x)) := by
  show (mixBin .Mult n fun y => fltBin .Mult y x).map D.flt = _
  simp [mixBin, h, fltBin]
theorem flt_div {x y : UInt64} (h : Float64.isZero y = false) : binD .Div (.flt x) (.flt y) = some (.flt (Float64.div x y)) := by
  show (fltBin .Div x y).map D.flt = _
  simp [fltBin, h]
theorem flt_mod {x y : UInt64} (h : Float64.isZero y = false) : binD .Mod (.flt x) (.flt y) = some (.flt (Float64.divmod x y).2) := by
  show (fltBin .Mod x y).map D.flt = _
  simp [fltBin, h]
theorem flt_div6 {x : UInt64} : binD .Div (.flt x) (.flt 4618441417868443648) = some (.flt (Float64.div x 4618441417868443648)) := flt_div (by kernel_rfl)
theorem flt_mod1 {x : UInt64} : binD .Mod (.flt x) (.flt 4607182418800017408) = some (.flt (Float64.divmod x 4607182418800017408).2) := flt_mod (by kernel_rfl)
/-- room for a call -/
structure Rm (c : Cx) (n : Nat) : Prop where
  d : c.A.depth + n ≤ 900
  u : c.A.units + 3 * n + 100 < cLine
theorem rm_of {prog : Program} {w : World} {A : Around} {fd : FuncData} {L f : Addr} {h1 : A.handled = none} {h2 : A.units + 3 + 100 < cLine} {h3 : fd.scope.kind = .function} {h4 : fd.globals = mainGlobals} {h5 : fd.builtins = builtinsNs} {H : List Addr} {h : Heap} {hk : HOK H h} {n N : Nat}
    (hd : A.depth + N ≤ 900) (hu : A.units + 3 * N + 100 < cLine) (hn : n + 1 ≤ N) : Rm ((frm prog w A fd L f h1 h2 h3 h4 h5).cx H h hk) n :=
  ⟨by show A.depth + 1 + n ≤ 900; omega, by show A.units + 3 + 3 * n + 100 < cLine; omega⟩
theorem rm_inn {c : Cx} {env : Env} {H : List Addr} {h : Heap} {hk : HOK H h} {fn : env.scope.kind = .function} {n : Nat} (r : Rm c n) : Rm (c.inn env H h hk fn) n := ⟨r.d, r.u⟩
theorem ev_with {e : Expr} {d : D} (k : CK K σ c) (h : CK K σ c → EvD c e d) : EvD c e d := h k
theorem eifs_with {l : List Expr} {b : Bool} (k : CK K σ c) (h : CK K σ c → EvIfs c l b) : EvIfs c l b := h k
theorem eifs_one {e : Expr} {b : Bool} (h : EvT c e b) : EvIfs c [e] b := .inr ⟨e, rfl, h⟩
/-- what stands behind a name of the builtins -/
structure Bi (K : Frag) (c : Cx) (x : Str) (v : Value) : Prop where
  e : nsIn K mainGlobals x = some none
  hv : bootBuiltins x = some v
  hn : x ≠ "__name__"
  hk : c.env.kindOf x = some .globalImplicit
  hd : (x == ("__debug__" : Str)) = false
theorem Bi.ev {x : Str} {v : Value} {pos : Pos} (b : Bi K c x v) (k : CK K σ c) : EvR c (.Name x pos) (fun _ r => r = v) := ev_bi k b.e b.hv b.hn b.hk b.hd

theorem ev_intof {x : Str} {np pos : Pos} {e : Expr} {b : UInt64} (k : CK K σ c) (h : Bi K c x (.type "int")) (hs : starEach [e] c.env = [(false, eval e c.env)]) (he : EvD c e (.flt b)) (hf : Float64.isFinite b = true) :
    EvD c (.Call (.Name x np) [e] [] pos) (.int (PySem.Flt.toInt Float64.truncOf b)) :=
  ev_callT (h.ev k) (v := .d (.flt b)) (vs := []) (.cons hs he .nil) fun s rs hI q => by
    cases q with | cons q qs =>
    cases qs
    have q : Rep c.H s.heap _ (.flt b) := q
    cases q
    exact int_flt_ok c.hh hf
theorem ev_lenof {x : Str} {np pos : Pos} {e : Expr} {d : D} {n : Int} (k : CK K σ c) (h : Bi K c x (.builtin "len")) (hs : starEach [e] c.env = [(false, eval e c.env)]) (he : EvD c e d) (hf : lenD d = some n) :
    EvD c (.Call (.Name x np) [e] [] pos) (.int n) :=
  ev_callB (h.ev k) (v := .d d) (vs := []) (.cons hs he .nil) fun s rs hI q => by
    cases q with | cons q qs =>
    cases qs
    exact len_ok hf q
theorem ev_max3 {x : Str} {np pos : Pos} {e1 e2 e3 : Expr} {a b d : UInt64} (k : CK K σ c) (h : Bi K c x (.builtin "max")) (ha : EvVs c [e1, e2, e3] [.d (.flt a), .d (.flt b), .d (.flt d)]) :
    EvD c (.Call (.Name x np) [e1, e2, e3] [] pos) (.flt (maxF a b d)) :=
  ev_callB (h.ev k) ha fun s rs hI q => by
    cases q with | cons q1 q => cases q with | cons q2 q => cases q with | cons q3 q =>
    cases q
    have q1 : Rep c.H s.heap _ (.flt a) := q1
    have q2 : Rep c.H s.heap _ (.flt b) := q2
    have q3 : Rep c.H s.heap _ (.flt d) := q3
    cases q1; cases q2; cases q3
    exact max_ok c.hh a b d _ _ _ (by assumption) (by assumption) (by assumption)
theorem ev_min3 {x : Str} {np pos : Pos} {e1 e2 e3 : Expr} {a b d : UInt64} (k : CK K σ c) (h : Bi K c x (.builtin "min")) (ha : EvVs c [e1, e2, e3] [.d (.flt a), .d (.flt b), .d (.flt d)]) :
    EvD c (.Call (.Name x np) [e1, e2, e3] [] pos) (.flt (minF a b d)) :=
  ev_callB (h.ev k) ha fun s rs hI q => by
    cases q with | cons q1 q => cases q with | cons q2 q => cases q with | cons q3 q =>
    cases q
    have q1 : Rep c.H s.heap _ (.flt a) := q1
    have q2 : Rep c.H s.heap _ (.flt b) := q2
    have q3 : Rep c.H s.heap _ (.flt d) := q3
    cases q1; cases q2; cases q3
    exact min_ok c.hh a b d _ _ _ (by assumption) (by assumption) (by assumption)

theorem ev_fnX {x : Str} {np pos : Pos} {e : Expr} {es : List Expr} {v : V} {vs : List V} {f : Addr} {d : D} {n : Nat} {o : Obj} {fd : FuncData} (k : CK K σ c) (C : Fun K c.prog c.w f n (v :: vs) d) (hx : nsIn K mainGlobals x = some (some (.ref f))) (hkx : c.env.kindOf x = some .globalImplicit) (hdx : (x == ("__debug__" : Str)) = false)
    (ho : K.lookup f = some o) (hd : o.data = .func fd) (hn : Rm c n) (ha : EvVs c (e :: es) (v :: vs)) : EvD c (.Call (.Name x np) (e :: es) [] pos) d :=
  ev_fn k hx hkx hdx ho hd C hn.d hn.u ha
end

theorem Le.nil {σ : Sig} : Le [] σ := fun _ _ e => by cases e
theorem Le.cons {x : Str} {v : V} {σ σ' : Sig} (h : σ'.lookup x = some v) (t : Le σ σ') : Le ((x, v) :: σ) σ' := fun y u e => by
  rcases lookup_set e with ⟨rfl, rfl⟩ | ⟨_, e⟩
  · exact h
  · exact t y u e
/-- every object behind a name is behind a name of σ -/
noncomputable def FpLe (σ : Sig) : Sig → Prop
  | [] => True
  | (_, v) :: r => (v.fp = [] ∨ ∃ y u, σ.lookup y = some u ∧ u.fp = v.fp) ∧ FpLe σ r
theorem FpLe.get {σ : Sig} : ∀ {τ : Sig}, FpLe σ τ → ∀ {x : Str} {v : V}, τ.lookup x = some v → ∀ b ∈ v.fp, ∃ y u, σ.lookup y = some u ∧ b ∈ u.fp
  | [], _, _, _, e => by cases e
  | (x, v) :: r, ⟨h, t⟩, y, u, e => by
    rcases lookup_set e with ⟨rfl, rfl⟩ | ⟨_, e⟩
    · intro b hb
      rcases h with h | ⟨z, u, h, q⟩
      · rw [h] at hb; cases hb
      · exact ⟨z, u, h, q ▸ hb⟩
    · exact t.get e
section
variable {K : Frag} {F : Fm} {s₀ : Shared} {H Wr : List Addr} {σ : Sig} {rest : List Stmt} {N : NPost} {R : Heap → Value → Prop}
theorem xs_if_ret {test : Expr} {body orelse : List Stmt} {pos : Pos} (ht : EvFT K F H σ test true) (hb : Exs K F s₀ H Wr σ body (fun _ => False) R) : Exs K F s₀ H Wr σ (.If test body orelse pos :: rest) N R :=
  xs_if ht hb fun _ h => h.elim
theorem xs_else_ret {test : Expr} {body orelse : List Stmt} {pos : Pos} (ht : EvFT K F H σ test false) (hb : Exs K F s₀ H Wr σ orelse (fun _ => False) R) : Exs K F s₀ H Wr σ (.If test body orelse pos :: rest) N R :=
  xs_if ht hb fun _ h => h.elim
theorem xs_if_skip {test : Expr} {body : List Stmt} {pos : Pos} (ht : EvFT K F H σ test false) (hr : Exs K F s₀ H Wr σ rest N R) : Exs K F s₀ H Wr σ (.If test body [] pos :: rest) N R :=
  xs_if (N' := (· = σ)) ht (xs_nil rfl) fun _ h => h ▸ hr
theorem xs_if_t {test : Expr} {body orelse : List Stmt} {pos : Pos} {σ' : Sig} (ht : EvFT K F H σ test true) (hb : Exs K F s₀ H Wr σ body (· = σ') R) (hr : Exs K F s₀ H Wr σ' rest N R) : Exs K F s₀ H Wr σ (.If test body orelse pos :: rest) N R :=
  xs_if ht hb fun _ h => h ▸ hr
theorem xs_if_f {test : Expr} {body orelse : List Stmt} {pos : Pos} {σ' : Sig} (ht : EvFT K F H σ test false) (hb : Exs K F s₀ H Wr σ orelse (· = σ') R) (hr : Exs K F s₀ H Wr σ' rest N R) : Exs K F s₀ H Wr σ (.If test body orelse pos :: rest) N R :=
  xs_if ht hb fun _ h => h ▸ hr
/-- data, in a frame -/
noncomputable def EvFD (K : Frag) (F : Fm) (H : List Addr) (σ : Sig) (e : Expr) (d : D) : Prop := ∀ h (hk : HOK H h), CK K σ (F.cx H h hk) → EvD (F.cx H h hk) e d
theorem xs_assignD {e : Expr} {x : Str} {px pos : Pos} {d : D} (hsw : swapsWith e (some (.Name x px)) pos.line F.env = pure false) (st : Storable F.env x) (he : EvFD K F H σ e d)
    (hr : Exs K F s₀ H Wr ((x, .d d) :: σ) rest N R) : Exs K F s₀ H Wr σ (.Assign [.Name x px] e pos :: rest) N R :=
  xs_assign (v := .d d) he hsw st (fun b hb => by cases hb) hr
theorem xs_retD {e : Expr} {pos : Pos} {d d' : D} {H₀ : List Addr} (sub : ∀ b ∈ H₀, b ∈ H) (he : EvFD K F H σ e d) (q : d = d') : Exs K F s₀ H Wr σ (.Return (some e) pos :: rest) N (fun h r => Rep H₀ h r d') :=
  q ▸ xs_retd he sub
theorem xs_unpackD {elts : List Expr} {xs : List Str} {k : Nat} {tpos pos : Pos} {e : Expr} {d : D} {ds : List D} (n : NamesOf elts xs) (he : EvFD K F H σ e d) (hd : d.items = some ds) (hl : elts.length = ds.length) (st : ∀ x ∈ xs, Storable F.env x)
    (hm : (assignEach elts F.env).map (·.2) = elts.map fun e => assign e F.env) (hn : (assignEach elts F.env).length = elts.length) (hstar : (assignEach elts F.env).findIdx? (·.1) = none)
    (hs : swapsWithSole [.Tuple elts k tpos] e pos.line F.env = pure false) (hw : swappedStores [.Tuple elts k tpos] e F.env = pure none)
    (hr : Exs K F s₀ H Wr (setAll xs ds σ) rest N R) : Exs K F s₀ H Wr σ (.Assign [.Tuple elts k tpos] e pos :: rest) N R :=
  xs_unpack he hd n hl st hm hn hstar hs hw hr
end
end
section
open PySem PySem.W PySem.Calls PyProof.Rows

noncomputable def DctIs (prog : Program) (w : World) (a : Addr) (kds : List (Str × D)) (H : List Addr) (h : Heap) : Prop :=
  ∃ kvs : List (Str × Value), h.DictOf (strKind prog w) a kvs ∧ kvs.map (fun x => x.1) = kds.map (fun x => x.1) ∧ Reps H h (kvs.map fun x => x.2) (kds.map fun x => x.2)
/-- a dict of the frame's own, its keys texts -/
noncomputable def dctP (prog : Program) (w : World) (a : Addr) (kds : List (Str × D)) : HP where
  fp := [a]
  p := DctIs prog w a kds
  mono := fun H H' h h' ⟨kvs, ⟨o, es, ep, e, r⟩, q, rs⟩ hk hH => ⟨kvs, ⟨o, es, ep, hk _ _ e (.inl (by simp)), r⟩, q, Reps.mono' (h := h) (fun b o hb e z => hk b o e (.inr ⟨hb, z⟩)) hH rs⟩
  live := fun H h ⟨kvs, ⟨o, es, ep, e, r⟩, q, rs⟩ b hb => by rw [List.mem_singleton.mp hb]; exact ⟨_, e⟩
noncomputable abbrev V.dct (prog : Program) (w : World) (a : Addr) (kds : List (Str × D)) : V := .ob a (dctP prog w a kds)

theorem val_at {H : List Addr} {h : Heap} {k : Str} {d : D} : ∀ {kvs : List (Str × Value)} {kds : List (Str × D)}, kvs.map (·.1) = kds.map (·.1) → Reps H h (kvs.map (·.2)) (kds.map (·.2)) → kds.lookup k = some d → ∃ v, valueAt kvs k = some v ∧ Rep H h v d
  | [], [], _, _, e => by cases e
  | [], _ :: _, q, _, _ => by cases q
  | _ :: _, [], q, _, _ => by cases q
  | (x, v) :: kvs, (y, d') :: kds, q, r, e => by
    obtain ⟨he, hq⟩ := List.cons.inj q
    have he : x = y := he
    subst he
    cases r with | cons r rs =>
    rw [List.lookup_cons] at e
    unfold valueAt
    simp only [List.find?_cons]
    split at e
    · rename_i z
      cases e
      have z : k = x := beq_iff_eq.mp z
      rw [z, decide_eq_true (rfl : x = x)]
      exact ⟨v, rfl, r⟩
    · rename_i z
      have z : ¬ x = k := fun h => by rw [h, beq_self_eq_true] at z; cases z
      rw [decide_eq_false z]
      exact val_at (kvs := kvs) hq rs e
noncomputable def putD (kds : List (Str × D)) (k : Str) (d : D) : List (Str × D) := if kds.any (fun kd => kd.1 = k) then kds.map (fun kd => if kd.1 = k then (kd.1, d) else kd) else kds ++ [(k, d)]
theorem any_fst {α : Type} {k : Str} : ∀ {kvs : List (Str × Value)} {kds : List (Str × α)}, kvs.map (·.1) = kds.map (·.1) → kvs.any (fun kv => decide (kv.1 = k)) = kds.any (fun kd => decide (kd.1 = k))
  | [], [], _ => rfl
  | [], _ :: _, q => by cases q
  | _ :: _, [], q => by cases q
  | (x, v) :: kvs, (y, d') :: kds, q => by
    obtain ⟨he, hq⟩ := List.cons.inj q
    have he : x = y := he
    subst he
    rw [List.any_cons, List.any_cons, any_fst hq]
theorem put_map {H : List Addr} {h : Heap} {k : Str} {v : Value} {d : D} (rv : Rep H h v d) : ∀ {kvs : List (Str × Value)} {kds : List (Str × D)}, kvs.map (·.1) = kds.map (·.1) → Reps H h (kvs.map (·.2)) (kds.map (·.2)) →
    (kvs.map fun kv => if kv.1 = k then (kv.1, v) else kv).map (·.1) = (kds.map fun kd => if kd.1 = k then (kd.1, d) else kd).map (·.1) ∧ Reps H h ((kvs.map fun kv => if kv.1 = k then (kv.1, v) else kv).map (·.2)) ((kds.map fun kd => if kd.1 = k then (kd.1, d) else kd).map (·.2))
  | [], [], _, _ => ⟨rfl, .nil⟩
  | [], _ :: _, q, _ => by cases q
  | _ :: _, [], q, _ => by cases q
  | (x, u) :: kvs, (y, d') :: kds, q, r => by
    obtain ⟨he, hq⟩ := List.cons.inj q
    have he : x = y := he
    subst he
    cases r with | cons r rs =>
    obtain ⟨a, b⟩ := put_map (k := k) rv hq rs
    simp only [List.map_cons]
    by_cases hk : x = k
    · subst hk
      simp only [if_true]
      exact ⟨congrArg _ a, .cons rv b⟩
    · have hk' : ¬ ((x, u) : Str × Value).1 = k := hk
      have hk2 : ¬ ((x, d') : Str × D).1 = k := hk
      simp only [if_neg hk]
      exact ⟨congrArg _ a, .cons r b⟩
theorem put_ok {H : List Addr} {h : Heap} {k : Str} {v : Value} {d : D} {kvs : List (Str × Value)} {kds : List (Str × D)} (rv : Rep H h v d) (q : kvs.map (·.1) = kds.map (·.1)) (r : Reps H h (kvs.map (·.2)) (kds.map (·.2))) :
    (stored kvs k v).map (·.1) = (putD kds k d).map (·.1) ∧ Reps H h ((stored kvs k v).map (·.2)) ((putD kds k d).map (·.2)) := by
  unfold stored putD
  rw [any_fst q]
  split
  · exact put_map rv q r
  · rw [List.map_append, List.map_append, List.map_append, List.map_append, q]
    exact ⟨rfl, r.snoc rv⟩

section
variable {K : Frag} {σ : Sig} {c : Cx}
theorem ev_dctitem {value slice : Expr} {pos : Pos} {a : Addr} {kds : List (Str × D)} {x : Str} {d : D} (hns : isSl slice = false) (hv : EvV c value (.dct c.prog c.w a kds)) (hs : EvD c slice (.str x)) (e : kds.lookup x = some d) : EvD c (.Subscript value slice pos) d := by
  intro s hI
  refine Ylds.of (fun zs Q E k => Subscript_ ((hv s hI).out _ E fun va h₁ t₁ k₁ ra => (hs _ (c.mono hI k₁)).out _ E fun vi h₂ t₂ k₂ ri => ?_))
  obtain ⟨rfl, kvs, hd, q, rs⟩ := RV.mono ra k₂
  cases ri with | str x t =>
  obtain ⟨v, hv, rv⟩ := val_at q rs e
  exact tail_any hd.mapOf.typeIs slot_dict_getitem.lookup (wpAny_getItem_of (strKind_is c.prog c.w x t) hd.mapOf hv (k v _ _ (k₁.trans k₂) rv)) (subscripted_plain hns _ _)

/-- a table of the module's, by text -/
theorem ev_tabin {l : Expr} {x : Str} {px pos : Pos} {a : Addr} {es : Array DictEntry} {n : Nat} {y : Str} {r : Option Value} (k : CK K σ c) (hm : behindInMarks .In (.Name x px) = false) (hl : EvD c l (.str y)) (e : nsIn K mainGlobals x = some (some (.ref a))) (hk : c.env.kindOf x = some .globalImplicit) (hd : (x == ("__debug__" : Str)) = false)
    (ho : K.lookup a = some ⟨.type "dict", none, .dict es n, #[]⟩) (hq : KeysLit c.w.params es.toList) (hr : nsIn K a y = some r) (lo : (a == sysModules) = false) : EvT c (.Compare l [.In] [.Name x px] pos) r.isSome :=
  fun s zs Q E hI kk => wpAny_isTrue_Compare1 ((hl s hI).out _ E fun va h₁ t₁ k₁ ra => (ev_gl k e hk hd _ (c.mono hI k₁)).out _ E fun vb h₂ t₂ k₂ rb => by
    subst rb
    cases ra with | str y t =>
    have G := (k.gd _ (c.mono (c.mono hI k₁) k₂)).kin
    exact wpAny_in_of (strKind_is c.prog c.w y t) lo (mapOf_K (prog := c.prog) G ho hq) (by rw [find_K ho hr]; exact wpAny_truthy_bool (kk h₂ ⟨_, Nat.succ_pos _⟩ (k₁.trans k₂)))) hm
theorem ev_tabitem {slice : Expr} {x : Str} {px pos : Pos} {a : Addr} {es : Array DictEntry} {n : Nat} {y : Str} {i : Int} {t : Tok} (k : CK K σ c) (hns : isSl slice = false) (hl : EvD c slice (.str y)) (e : nsIn K mainGlobals x = some (some (.ref a))) (hk : c.env.kindOf x = some .globalImplicit) (hd : (x == ("__debug__" : Str)) = false)
    (ho : K.lookup a = some ⟨.type "dict", none, .dict es n, #[]⟩) (hq : KeysLit c.w.params es.toList) (hr : nsIn K a y = some (some (.int i t))) : EvD c (.Subscript (.Name x px) slice pos) (.int i) := by
  intro s hI
  refine Ylds.of (fun zs Q E kk => Subscript_ ((ev_gl k e hk hd s hI).out _ E fun va h₁ t₁ k₁ ra => (hl _ (c.mono hI k₁)).out _ E fun vi h₂ t₂ k₂ ri => ?_))
  subst ra
  cases ri with | str y u =>
  have G := (k.gd _ (c.mono (c.mono hI k₁) k₂)).kin
  have hm := mapOf_K (prog := c.prog) G ho hq
  exact tail_any hm.typeIs slot_dict_getitem.lookup (wpAny_getItem_of (strKind_is c.prog c.w y u) hm (find_K ho hr) (kk _ _ _ (k₁.trans k₂) (.int _ _))) (subscripted_plain hns _ _)
end
end
section
open PySem PySem.W PySem.Calls PyProof.Rows
noncomputable def upto : Nat → List D
  | 0 => []
  | n + 1 => upto n ++ [.int n]
theorem upto_len : ∀ n, (upto n).length = n
  | 0 => rfl
  | n + 1 => by rw [upto, List.length_append, upto_len n]; rfl
theorem upto_get : ∀ (n i : Nat), i < n → (upto n)[i]? = some (.int (i : Int))
  | 0, _, h => absurd h (Nat.not_lt_zero _)
  | n + 1, i, h => by
    rw [upto]
    rcases Nat.lt_or_eq_of_le (Nat.le_of_lt_succ h) with h | rfl
    · rw [List.getElem?_append_left (by rw [upto_len]; exact h), upto_get n i h]
    · rw [List.getElem?_append_right (by rw [upto_len]; exact Nat.le_refl _), upto_len]; simp
section
variable {K : Frag} {σ : Sig} {c : Cx}
theorem evIt_range {x : Str} {np pos : Pos} {e : Expr} {n : Nat} (k : CK K σ c) (h : Bi K c x (.type "range")) (hs : starEach [e] c.env = [(false, eval e c.env)]) (he : EvD c e (.int n)) (hn : Builtin.Range.small 0 n 1 = true) (hz : Builtin.Range.rangeSize 0 n 1 = n) :
    EvIt c (.Call (.Name x np) [e] [] pos) (upto n) false false := by
  intro s zs Q E hI kk
  have key : EvR c (.Call (.Name x np) [e] [] pos) (fun h v => ∃ r t u z, v = .ref r ∧ IsRange h r 0 n 1 t u z) := ev_callT (h.ev k) (v := .d (.int n)) (vs := []) (.cons hs he .nil) fun s rs hI q => by
    cases q with | cons q qs =>
    cases qs
    have q : Rep c.H s.heap _ (.int n) := q
    cases q with | int n t =>
    exact Ylds.of (fun zs Q E kk => call_range_1 (kk _ _ _ (Kp.push _ _) ⟨_, _, _, _, rfl, IsRange.new ..⟩))
  refine (key s hI).out Q E fun v h' tk kp ⟨r, t, u, z, hv, hr⟩ => kk v h' tk kp ?_
  subst hv
  intro Q E k2
  have hh := c.hh
  refine wpAny_pyIter_range hr hn (k2 _ _ [h'.objs.size] (fun i v => ∃ t, v = .int (0 + (i : Nat) * (1 : Int)) t) (fun i h => IsRangeIter h h'.objs.size (0 + (i : Nat) * (1 : Int)) ((n : Int) - (i : Nat)) 1) (Kp.push _ _) (Heap.size_push ..) ?_ ?_ fun b hb => ?_)
  · refine ⟨?_, Nat.le_refl _, fun i h st => ⟨_, st⟩, fun b hb => .inl (List.mem_singleton.mp hb), ?_, fun h => nomatch h⟩
    · rw [upto_len]; exact Walks.range hh _ 0 1 n
    · rintro i v hi ⟨t, rfl⟩
      rw [upto_len] at hi
      refine ⟨_, upto_get n i hi, ?_⟩
      have e1 : (0 : Int) + (i : Int) * 1 = i := by omega
      rw [e1]; exact .int _ _
  · show (h'.push _).get? _ = _
    rw [hz]
    have e1 : (0 : Int) + ((0 : Nat) : Int) * 1 = 0 := by decide
    have e2 : (n : Int) - ((0 : Nat) : Int) = n := by omega
    rw [e1, e2]
    exact Heap.get?_push_size _ rfl
  · rw [Heap.size_push, List.mem_singleton.mp hb]; exact Nat.lt_succ_self _
end
end
section
open PySem PySem.W PySem.Calls PyProof.Rows
theorem lst_add {xs ys : List D} (h : xs.length + ys.length ≤ seqMax) : binD .Add (.lst xs) (.lst ys) = some (.lst (xs ++ ys)) := if_pos h
theorem cmp_none2 (f m : Str) (hf : PyData.canLay0 (.str f) = true) (hm : PyData.canLay0 (.str m) = true) : cmpD .Eq (.tup [.str f, .str m]) (.tup [.none, .none]) = some false := by
  show seqCmp .Eq (.tup [.str f, .str m]) (.tup [.none, .none]) = _
  have e1 : D.toP (.tup [.str f, .str m]) = some (.tuple [.str f, .str m]) := by simp [D.toP, D.toPs]
  have e2 : D.toP (.tup [.none, .none]) = some (.tuple [.none, .none]) := by simp [D.toP, D.toPs]
  unfold seqCmp
  rw [e1, e2]
  have s1 : SeqAt.shaped (.tuple [.str f, .str m]) = true := by
    show (PyData.canLay0 (.tuple [.str f, .str m]) && decide _) = true
    have : PyData.canLay0 (.tuple [.str f, .str m]) = true := by
      rw [PyData.canLay0, PyData.canLayAll0, PyData.canLayAll0, PyData.canLayAll0, hf, hm]; rfl
    rw [this]; rfl
  have s2 : SeqAt.shaped (.tuple [.none, .none]) = true := by rfl
  simp only [s1, s2, Bool.and_self, if_true]
  simp [PyData.eqv, PyData.eqvAll]
section
variable {K : Frag} {F : Fm} {s₀ : Shared} {H Wr : List Addr} {σ : Sig} {rest : List Stmt} {N : NPost} {R : Heap → Value → Prop}
theorem xs_retown {x : Str} {px pos : Pos} {a : Addr} {ds : List D} {d : D} {H₀ : List Addr} (hx : σ.lookup x = some (.own a ds)) (ha : a ∈ Wr) (hk : HOK H₀ s₀.heap) (sub' : ∀ b ∈ H₀, b ∈ H) (hd : (x == ("__debug__" : Str)) = false) (hc : (x == ("__classdict__" : Str)) = false) (q : .lst ds = d) :
    Exs K F s₀ H Wr σ (.Return (some (.Name x px)) pos :: rest) N (fun h r => Rep H₀ h r d) := fun s Q E g sub f kn kr => by
  have zs := f.tkp
  subst q
  have hr := ev_nm (f.ck g) hx hd hc (pos := px)
  refine wpAny_execs_cons (wpAny_Return_some ((hr s (Kp.refl _)).out _ E fun v h' tk k r => kr v _ (f.after.step k) ?_))
  obtain ⟨rfl, vs, hp, rs⟩ := r
  refine .lst (fun hm => ?_) hp.isList (rs.mono' (fun _ _ _ e _ => e) fun b o hb _ _ hm => hb (sub' b hm))
  obtain ⟨o, e⟩ := hk a hm
  rw [(sub a ha).2] at e; cases e
end
end
section
open PySem PySem.W PySem.Calls PyProof.Rows PySem.Builtin PySem.Builtin.Re
theorem runFor_done (n : Nat) (m : Sre.M) (h : m.outcome.isSome = true) : Sre.M.runFor n m = m := by
  cases n with
  | zero => rfl
  | succ n => unfold Sre.M.runFor; rw [if_pos h]
theorem runFor_succ (n : Nat) (m : Sre.M) : Sre.M.runFor (n + 1) m = if m.outcome.isSome = true then m else Sre.M.runFor n m.step := rfl
theorem runFor_add (a b : Nat) : ∀ m : Sre.M, Sre.M.runFor (a + b) m = Sre.M.runFor b (Sre.M.runFor a m) := by
  induction a with
  | zero => intro m; rw [Nat.zero_add]; rfl
  | succ a ih =>
    intro m
    rw [Nat.succ_add, runFor_succ, runFor_succ a m]
    by_cases h : m.outcome.isSome = true
    · rw [if_pos h, if_pos h]
      exact (runFor_done b m h).symm
    · rw [if_neg h, if_neg h]; exact ih _
section
variable {M : Model} {A : Around} {E : Value → Shared → Prop} {s : Shared}
theorem drive_ok : ∀ (k n : Nat) (m : Sre.M) (Q : Sre.M → Shared → Prop), (Sre.M.runFor (4 * (k + 1)) m).outcome.isSome = true → k < n → Q (Sre.M.runFor (4 * (k + 1)) m) s → wpAny M A (reDrive n m) Q E s
  | k, 0, _, _, _, hn, _ => absurd hn (Nat.not_lt_zero _)
  | k, n + 1, m, Q, h, hn, q => by
    unfold reDrive
    have e : Sre.M.runFor (4 * (k + 1)) m = Sre.M.runFor (4 * k) (Sre.M.runFor 4 m) := by rw [← runFor_add]; congr 1; omega
    show wpAny M A (if (Sre.M.runFor 4 m).outcome.isSome = true then pure (Sre.M.runFor 4 m) else do rule "sre.turn"; reDrive n (Sre.M.runFor 4 m)) Q E s
    by_cases h4 : (Sre.M.runFor 4 m).outcome.isSome = true
    · rw [if_pos h4]
      rw [e, runFor_done _ _ h4] at q
      exact wpAny_pure q
    · rw [if_neg h4]
      cases k with
      | zero => exact absurd h h4
      | succ k =>
        rw [e] at h q
        exact wpAny_bind (wpAny_rule (drive_ok k n _ Q h (Nat.lt_of_succ_lt_succ hn) q))
theorem forIn_rules {α : Type} (f : α → Bool) (g : α → String) : ∀ (l : List α) (Q : PUnit → Shared → Prop), Q ⟨⟩ s → wpAny M A (forIn l PUnit.unit fun i _ => if f i = true then do rule (g i); pure (ForInStep.yield PUnit.unit) else pure (ForInStep.yield PUnit.unit)) Q E s
  | [], Q, q => by rw [List.forIn_nil]; exact wpAny_pure q
  | a :: l, Q, q => by
    rw [List.forIn_cons]
    by_cases h : f a = true
    · rw [if_pos h]
      exact wpAny_bind (wpAny_bind (wpAny_rule (wpAny_pure (forIn_rules f g l Q q))))
    · rw [if_neg h]
      exact wpAny_bind (wpAny_pure (forIn_rules f g l Q q))
theorem run_none {m : Sre.M} {k : Nat} {Q : Option Sre.M → Shared → Prop} (h : (Sre.M.runFor (4 * (k + 1)) m).outcome = some .failed) (hk : k < 2 ^ 64) (q : Q none s) : wpAny M A (reRunToEnd m) Q E s := by
  unfold reRunToEnd
  refine wpAny_bind (drive_ok k _ m _ (by rw [h]; rfl) hk ?_)
  refine wpAny_bind (forIn_rules _ _ _ _ ?_)
  rw [h]
  exact wpAny_pure q
end
end
section
open PySem PySem.W PySem.Calls PyProof.Rows PySem.Builtin PySem.Builtin.Re
theorem slot_rp_search : Slot "re.Pattern" "search" "re.Pattern.search" :=
  .of (owner := "re.Pattern") (n := "search") (by rw [typeLookup_type, builtinLookup_eq_fast]; kernel_rfl) (by decide +kernel) (by decide +kernel) (by decide +kernel)
    (by first | exact .inl (by decide +kernel) | exact .inr (by decide +kernel)) (by rw [isSubtype_type]; kernel_rfl)
theorem type_rp_search : typeOf (.builtin "re.Pattern.search") = pure (.type "method_descriptor") := by show builtinType _ = _; rw [builtinType_eq_fast]; kernel_rfl
theorem entry_rp_search : entryFor table "re.Pattern.search" = some Builtin.«re.Pattern.search» := entryFor_of_tree (by kernel_rfl)
theorem plainAttrs_rp : PlainAttrs "re.Pattern" :=
  ⟨⟨"object.__getattribute__", by rw [typeLookup_type, builtinLookup_eq_fast]; kernel_rfl, by decide +kernel⟩, by rw [typeLookup_type, builtinLookup_eq_fast]; kernel_rfl⟩
theorem owner_rp : Manifest.owners.lookup (String.ofList ['n', 'r', 'e', 't', 't', 'a', 'P', '.', 'e', 'r'].reverse) = some Manifest.sig_re_Pattern := by kernel_rfl
theorem args_rp_search (a b : Value) : argsOk "re.Pattern.search" ⟨[a, b], []⟩ := by
  unfold argsOk; rw [signature?_of (id := "re.Pattern.search") (n := ['h', 'c', 'r', 'a', 'e', 's']) (o := ['n', 'r', 'e', 't', 't', 'a', 'P', '.', 'e', 'r']) (by kernel_rfl) owner_rp]; kernel_rfl
theorem named_one (v : Value) : reNamed "re.Pattern.search" "search" ["string", "pos", "endpos"] 1 [v] [] = pure [some v, none, none] := by rfl
section
variable {prog : Program} {w : World} {A : Around} {E : Value → Shared → Prop} {s : Shared}
theorem search_none {p cd : Addr} {fs items : Array Value} {x : Str} {t : Tok} {Q : Value → Shared → Prop} {k : Nat} (hp : s.heap.get? p = some { cls := .type "re.Pattern", data := .fields fs }) (h5 : fs.getD 5 .none = .ref cd) (h6 : fs.getD 6 .none = .int 0 0) (h2 : fs.getD 2 .none = .int 0 0)
    (hc : IsTup s.heap cd items) (hm : (Sre.M.runFor (4 * (k + 1)) (Sre.forSearch ((items.map reRawOf).map (·.toNat)) x.cps 0 0 x.cps.size false)).outcome = some .failed) (hk : k < 2 ^ 64) (hx : x.cps.size < 2 ^ 63) (q : Q .none s) :
    wpAny (model prog w) A (call (.builtin "re.Pattern.search") [.ref p, .str x t]) Q E s := by
  refine wpAny_call_entry slot_rp_search ⟨_, hp, rfl⟩ entry_rp_search ?_ (args_rp_search _ _)
  show wpAny _ _ (do let t ← reTarget "re.Pattern.search" "search" ⟨[.ref p, .str x t], []⟩; reAnswer t (Sre.forSearch t.code t.text t.groups t.pos t.lim false)) _ _ s
  refine wpAny_bind ?_
  unfold reTarget
  dsimp only
  rw [named_one]
  refine wpAny_bind (wpAny_pure ?_)
  dsimp only
  refine wpAny_bind (wpAny_pure (wpAny_bind (wpAny_pure ?_)))
  refine wpAny_bind (wpAny_fieldsOf hp rfl ?_)
  have e1 : reTextOf (.str x t) = pure (x.cps, 0) := rfl
  rw [e1]
  refine wpAny_bind (wpAny_pure ?_)
  rw [h6, h5, h2]
  rw [if_neg (by simp), if_neg (by simp [reRawNat])]
  have e2 : reNoCollectionInside (.str x t) 0 = pure () := rfl
  refine wpAny_bind (wpAny_of_eq e2 ?_)
  obtain ⟨oc, ho, hcl, nn, hd⟩ := hc
  unfold reRawItems
  refine wpAny_bind (wpAny_bind (wpAny_seqItems ho hd (wpAny_pure (wpAny_pure ?_))))
  have e3 : Min.min (Int.toNat 0) x.cps.size = 0 := by simp
  have e4 : Min.min (2 ^ 63 - 1 : Int).toNat x.cps.size = x.cps.size := by
    have : ((2 : Int) ^ 63 - 1).toNat = 2 ^ 63 - 1 := by decide
    rw [this]; omega
  dsimp only [Option.getD_some]
  rw [e3, e4]
  unfold reAnswer
  exact wpAny_bind (run_none hm hk (wpAny_pure ⟨_, rfl, q⟩))
end
end
section
open PySem PySem.W PySem.Calls PyProof.Rows PySem.Builtin PySem.Builtin.Re
/-- an object of the module's, of which nothing is to be remembered -/
noncomputable def anyP : HP where
  fp := []
  p := fun _ _ => True
  mono := fun _ _ _ _ _ _ _ => trivial
  live := fun _ _ _ b hb => by cases hb
section
variable {K : Frag} {σ : Sig} {c : Cx}
theorem ev_gobj {x : Str} {pos : Pos} {a : Addr} (k : CK K σ c) (e : nsIn K mainGlobals x = some (some (.ref a))) (hk : c.env.kindOf x = some .globalImplicit) (hd : (x == ("__debug__" : Str)) = false) : EvV c (.Name x pos) (.ob a anyP) :=
  fun s hI => (ev_gl k e hk hd s hI).weak fun _ v _ r => ⟨r, trivial⟩
theorem ev_search {o e : Expr} {apos pos : Pos} {p cd : Addr} {fs : Array Value} {items : List Value} {dd : Option Addr} {n kk : Nat} {sl : Array (Option Value)} {x : Str} (k : CK K σ c) (ho : EvV c o (.ob p anyP)) (he : EvD c e (.str x))
    (hbase : attributeBase o "search" c.env (eval o c.env) = eval o c.env) (hline : (apos.endLine == pos.line) = true) (hs : starEach [e] c.env = [(false, eval e c.env)])
    (hp : K.lookup p = some { cls := .type "re.Pattern", data := .fields fs }) (h5 : fs.getD 5 .none = .ref cd) (h6 : fs.getD 6 .none = .int 0 0) (h2 : fs.getD 2 .none = .int 0 0)
    (hc : K.lookup cd = some ⟨.type "tuple", dd, .seq items.toArray n, sl⟩) (hm : (Sre.M.runFor (4 * (kk + 1)) (Sre.forSearch ((items.toArray.map reRawOf).map (·.toNat)) x.cps 0 0 x.cps.size false)).outcome = some .failed) (hk : kk < 2 ^ 64) (hx : x.cps.size < 2 ^ 63) :
    EvD c (.Call (.Attribute o "search" apos) [e] [] pos) .none := by
  intro s hI
  refine Ylds.of (fun zs Q E q => Call_method1 hbase hs hline ((ho s hI).out _ E fun v h₁ t₁ k₁ r => ?_))
  obtain ⟨rfl, -⟩ := r
  have G := (k.gd _ (c.mono hI k₁)).kin
  refine ⟨"re.Pattern", "re.Pattern.search", plainAttrs_rp, slot_rp_search, type_rp_search, ⟨_, G _ _ hp, rfl⟩, fun b e => by cases e; exact ⟨_, G _ _ hp, rfl⟩, ?_⟩
  refine Calls.callWith_builtin rfl (Calls.evalArgs_plain (spliced_cons ((he _ (c.mono hI k₁)).out _ E fun u h₂ t₂ k₂ ru => spliced_nil ?_)))
  cases ru with | str x t =>
  have G2 := (k.gd _ (c.mono (c.mono hI k₁) k₂)).kin
  exact search_none (G2 _ _ hp) h5 h6 h2 (tupK G2 hc) hm hk hx (q _ _ _ (k₁.trans k₂) .none)
theorem et_none {e : Expr} (hp : isTrue e c.env (eval e c.env) = (do let v ← eval e c.env; standAt e.pos; holding [v] (truthy v))) (h : EvD c e .none) : EvT c e false :=
  fun s zs Q E hI k => wpAny_isTrue_value ((h s hI).out _ E fun v h₃ t₃ k₃ r₃ => by cases r₃; exact truthy_none (k h₃ t₃ k₃)) hp

/-- type(v) is T, for data -/
theorem et_typeis {x y : Str} {nx ny cp pos : Pos} {e : Expr} {z : Str} (k : CK K σ c) (h1 : Bi K c x (.type "type")) (h2 : Bi K c y (.type "str")) (hs : starEach [e] c.env = [(false, eval e c.env)]) (he : EvD c e (.str z)) (hm : behindInMarks .Is (.Name y ny) = false) :
    EvT c (.Compare (.Call (.Name x nx) [e] [] cp) [.Is] [.Name y ny] pos) true := by
  have key : EvR c (.Call (.Name x nx) [e] [] cp) (fun _ v => v = .type "str") := ev_callT (h1.ev k) (v := .d (.str z)) (vs := []) (.cons hs he .nil) fun s rs hI q => by
    cases q with | cons q qs =>
    cases qs
    have q : Rep c.H s.heap _ (.str z) := q
    cases q with | str z t =>
    exact Ylds.of (fun zs Q E kk => call_type_of (typeIs_str s z t) (by decide) (kk _ _ s.toks (Kp.refl _) rfl))
  intro s zs Q E hI kk
  refine wpAny_isTrue_Compare1 ((key s hI).out _ E fun va h₁ t₁ k₁ ra => ((h2.ev k) _ (c.mono hI k₁)).out _ E fun vb h₂ t₂ k₂ rb => ?_) hm
  subst ra rb
  exact wpAny_pure (a := Value.bool true) (wpAny_truthy_bool (kk h₂ t₂ (k₁.trans k₂)))
end
end
section
open PySem PySem.W PySem.Calls PyProof.Rows
noncomputable def hdr : Str := "_headers"
/-- an own object whose one attribute is a list -/
structure BookIs (C x dx l : Addr) (ds : List D) (H : List Addr) (h : Heap) : Prop where
  at_ : h.get? x = some (instObj C dx)
  dct : ∃ hs tk n, h.get? dx = some (dictOf [⟨hs, .str hdr tk, .ref l⟩] n)
  lst : ∃ vs, h.PlainList l (List.toArray vs) ∧ Reps H h vs ds
noncomputable def bookP (C x dx l : Addr) (ds : List D) : HP where
  fp := [x, dx, l]
  p := BookIs C x dx l ds
  mono := fun H H' h h' ⟨a, ⟨hs, tk, n, b⟩, vs, ⟨n2, e⟩, r⟩ hk hH => ⟨hk _ _ a (.inl (by simp)), ⟨hs, tk, n, hk _ _ b (.inl (by simp))⟩, vs, ⟨n2, hk _ _ e (.inl (by simp))⟩, r.mono' (fun b o hb e z => hk b o e (.inr ⟨hb, z⟩)) hH⟩
  live := fun H h ⟨a, ⟨hs, tk, n, b⟩, vs, ⟨n2, e⟩, r⟩ b' hb => by
    simp only [List.mem_cons, List.not_mem_nil, or_false] at hb
    rcases hb with rfl | rfl | rfl
    · exact ⟨_, a⟩
    · exact ⟨_, b⟩
    · exact ⟨_, e⟩
noncomputable abbrev V.book (C x dx l : Addr) (ds : List D) : V := .ob x (bookP C x dx l ds)
theorem BookIs.inst {C x dx l : Addr} {ds : List D} {H : List Addr} {h : Heap} (b : BookIs C x dx l ds H h) : ∃ es n, InstAt h x (instObj C dx) C (some (dictOf es n)) ∧ getL hdr es = some (some (.ref l)) ∧ ∀ name, (Value.str hdr 0).isStr name = false → getL name es = some none := by
  obtain ⟨hs, tk, n, e⟩ := b.dct
  refine ⟨_, n, ⟨b.at_, rfl, rfl, e⟩, by rfl, fun name hn => ?_⟩
  have hn' : (Value.str hdr tk).isStr name = false := hn
  unfold getL
  simp only [List.find?_cons, hn', List.find?_nil]
  rfl
section
variable {K : Frag} {σ : Sig} {c : Cx}
theorem ev_hdr {n : Str} {np pos : Pos} {C x dx l : Addr} {ds : List D} {attr : Option Value} (k : CK K σ c) (he : EvV c (.Name n np) (.book C x dx l ds)) (hg : plainGet K C hdr = true) (hh : hasDictIn K C = true) (ha : findIn K (.ref C) hdr = some attr) (hn : noGet K attr = true) :
    EvV c (.Attribute (.Name n np) hdr pos) (.own l ds) := by
  intro s hI
  refine Ylds.of (fun zs Q E q => Attribute_name ((he s hI).out _ E fun v h₁ t₁ k₁ r => ?_))
  obtain ⟨rfl, B⟩ := r
  have B : BookIs C x dx l ds c.H h₁ := B
  obtain ⟨es, m, I, hl, -⟩ := B.inst
  exact get_value ((k.gd _ (c.mono hI k₁)).kin) I (plainGet_of hg).1 (findObj_own hh ha hn hl) rfl (q _ _ _ k₁ ⟨rfl, B.lst⟩)

/-- a call of a method of the book, that only reads -/
theorem ev_methB {o : Expr} {name : Str} {apos pos : Pos} {e : Expr} {es : List Expr} {v : V} {vs : List V} {C x dx l f : Addr} {ds : List D} {R : Heap → Value → Prop} {pl : Sem Bool} (k : CK K σ c) (ho : EvV c o (.book C x dx l ds)) (ha : EvVs c (e :: es) (v :: vs))
    (he : eval (.Call (.Attribute o name apos) (e :: es) [] pos) c.env = (do
      let ov ← eval o c.env
      standAt apos.atName
      let (f, first) ← holding [ov] (getMethod ov name pl)
      callWith pos f first (backTo pos (starEach (e :: es) c.env)) []))
    (hg : plainGet K C name = true) (hf : findIn K (.ref C) name = some (some (.ref f))) (ht : isFn K (.ref f) = true) (hk : keepIn K (.ref f) = true) (hn : (Value.str hdr 0).isStr name = false)
    (hc : ∀ s rs, c.I s.heap → RVs c.H s.heap rs (.book C x dx l ds :: v :: vs) → Ylds c.M c.A (call (.ref f) rs) R s) : EvR c (.Call (.Attribute o name apos) (e :: es) [] pos) R := by
  intro s hI
  refine Ylds.of (fun zs Q E q => MethodCall_ ((ho s hI).out _ E fun ov h₁ t₁ k₁ r => ?_) he)
  obtain ⟨rfl, B⟩ := r
  have B : BookIs C x dx l ds c.H h₁ := B
  obtain ⟨eds, m, I, hl, hl'⟩ := B.inst
  have G := k.gd _ (c.mono hI k₁)
  refine method_fn G.kin I (plainGet_of hg).1 (plainGet_of hg).2 hf (beq_iff_eq.mp ht) (by show (lookIn name (dictOf eds m)).map _ = _; rw [lookIn_dict, hl' name hn]; rfl) ?_
  have hp := ha.plain (pos := pos)
  cases ha with | cons hs he1 hr =>
  refine callWith_K G.kin hk ((EvVs.cons hs he1 hr).out _ _ E (c.mono hI k₁) fun rs h₂ t₂ k₂ qs => ⟨G.kin.keeps k₂, ?_⟩) hs hr.plain
  exact (hc _ (.ref x :: rs) (c.mono (c.mono hI k₁) k₂) (.cons ⟨rfl, (bookP C x dx l ds).mono _ _ _ _ B (fun b o e _ => k₂ b o e) (fun _ _ hb _ _ => hb)⟩ qs)).out Q E fun r h₃ t₃ k₃ p => q r h₃ t₃ ((k₁.trans k₂).trans k₃) p

/-- a call of a method of the book with one argument and one named flag -/
theorem ev_methK {o : Expr} {name : Str} {apos pos : Pos} {e : Expr} {kws : List Keyword} {kn : Str} {b : Bool} {v : V} {C x dx l f : Addr} {ds : List D} {R : Heap → Value → Prop} {pl : Sem Bool} (k : CK K σ c) (ho : EvV c o (.book C x dx l ds)) (hs : starEach [e] c.env = [(false, eval e c.env)]) (ha : EvV c e v)
    (he : eval (.Call (.Attribute o name apos) [e] kws pos) c.env = (do
      let ov ← eval o c.env
      standAt apos.atName
      let (f, first) ← holding [ov] (getMethod ov name pl)
      callWith pos f first (backTo pos (starEach [e] c.env)) (backToKw pos (keywordEach kws c.env))))
    (hkw : (backToKw pos (keywordEach kws c.env)).filterMap (·.1) = [kn]) (hall : (backToKw pos (keywordEach kws c.env)).all (·.1.isSome) = true) (hpl : ((backTo pos (starEach [e] c.env)).any (·.1) || (backToKw pos (keywordEach kws c.env)).any (·.1.isNone)) = false)
    (hkv : ∀ (s : Shared) (Q : List Value → Shared → Prop) (E : Value → Shared → Prop), Q [.bool b] s → wpAny c.M c.A (evalAll ((backToKw pos (keywordEach kws c.env)).map (·.2))) Q E s)
    (hg : plainGet K C name = true) (hf : findIn K (.ref C) name = some (some (.ref f))) (ht : isFn K (.ref f) = true) (hk : keepIn K (.ref f) = true) (hn : (Value.str hdr 0).isStr name = false)
    (hc : ∀ s r, c.I s.heap → RV c.H s.heap r v → RV c.H s.heap (.ref x) (.book C x dx l ds) → Ylds c.M c.A (call (.ref f) [.ref x, r] [(kn, .bool b)]) R s) : EvR c (.Call (.Attribute o name apos) [e] kws pos) R := by
  intro s hI
  refine Ylds.of (fun zs Q E q => methodCall_KW ((ho s hI).out _ E fun ov h₁ t₁ k₁ r => ?_) he)
  obtain ⟨rfl, B⟩ := r
  have B : BookIs C x dx l ds c.H h₁ := B
  obtain ⟨eds, m, I, hl, hl'⟩ := B.inst
  have G := k.gd _ (c.mono hI k₁)
  refine method_fn G.kin I (plainGet_of hg).1 (plainGet_of hg).2 hf (beq_iff_eq.mp ht) (by show (lookIn name (dictOf eds m)).map _ = _; rw [lookIn_dict, hl' name hn]; rfl) ?_
  refine callWith_KW G.kin hk hall ?_ hpl hs
  refine args_cons ((ha _ (c.mono hI k₁)).out _ E fun u h₂ t₂ k₂ ru => args_nil (hkv _ _ _ ⟨G.kin.keeps k₂, ?_⟩)) hs
  rw [hkw]
  exact (hc _ u (c.mono (c.mono hI k₁) k₂) ru ⟨rfl, (bookP C x dx l ds).mono _ _ _ _ B (fun b o e _ => k₂ b o e) (fun _ _ hb _ _ => hb)⟩).out Q E fun r h₃ t₃ k₃ p => q r h₃ t₃ ((k₁.trans k₂).trans k₃) p

theorem evIt_own {e : Expr} {l : Addr} {ds : List D} (he : EvV c e (.own l ds)) : EvIt c e ds true true := by
  intro s zs Q E hI k
  refine (he s hI).out Q E fun v h' tk kp r => k v h' tk kp ?_
  obtain ⟨rfl, vs, hp, rs⟩ := r
  exact its_list c.hh (.inr rfl) hp.isList rs
end
end
section
open PySem PySem.W PySem.Calls PyProof.Rows
section
variable {c : Cx}
/-- l[:] of a list of its own -/
theorem ev_all_own {value : Expr} {p pos : Pos} {l : Addr} {ds : List D} (hv : EvV c value (.own l ds)) (hx : ds.length ≤ seqMax) :
    EvD c (.Subscript value (.Slice Option.none Option.none Option.none p) pos) (.lst ds) := by
  intro s hI
  refine Ylds.of (fun zs Q E k => Subscript_ ((hv s hI).out _ E fun va h₁ t₁ k₁ ra => wpAny_Slice (evalPart_none_step (evalPart_none_step (evalPart_none_step ?_)))))
  obtain ⟨rfl, vs, hp, rs⟩ := ra
  have g2 : h₁.IsList l vs.toArray := hp.isList
  refine tail_any (ops := [.ref h₁.objs.size, .ref l]) (g2.push _).typeIs slot_list_getitem.lookup (wpAny_getItem_list_slice (g2.push _) (Heap.IsSliceOf.new ..) .none .none .none (by simp) ?_ (by rw [List.size_toArray, rs.length]; exact seqMax_le hx)) rfl
  have e : slicePick vs.toArray none none none = vs.toArray := slicePick_all _
  rw [e]
  exact k _ _ _ (k₁.trans (kp_two _ _ _)) (rep_two _ (c.hok (c.mono hI k₁)) rs)
end
end
section
open PySem PySem.W PySem.Calls PyProof.Rows
/-- all stands but at l -/
noncomputable abbrev Kb (l : Addr) (h h' : Heap) : Prop := ∀ b o, b ≠ l → h.get? b = some o → h'.get? b = some o
theorem Kb.of {l : Addr} {h h' : Heap} (k : Kp h h') : Kb l h h' := fun b o _ e => k b o e
theorem Kb.trans {l : Addr} {a b c : Heap} (x : Kb l a b) (y : Kb l b c) : Kb l a c := fun d o hd e => y d o hd (x d o hd e)
/-- a tree that yields a value of R and touches l alone -/
structure YlM (M : Model) (A : Around) (t : Sem Value) (l : Addr) (R : Heap → Value → Prop) (s : Shared) : Prop where
  out0 : 0 < s.toks → ∀ (Q : Value → Shared → Prop) (E : Value → Shared → Prop), (∀ v h' (tk : Tk), Kb l s.heap h' → R h' v → Q v { s with heap := h', toks := tk.1 }) → wpAny M A t Q E s
theorem YlM.out {M : Model} {A : Around} {t : Sem Value} {l : Addr} {R : Heap → Value → Prop} {s : Shared} (x : YlM M A t l R s) (Q : Value → Shared → Prop) (E : Value → Shared → Prop)
    (k : ∀ v h' (tk : Tk), Kb l s.heap h' → R h' v → Q v { s with heap := h', toks := tk.1 }) (hs : 0 < s.toks := by first | assumption | exact Subtype.property _ | exact Nat.succ_pos _) : wpAny M A t Q E s := x.out0 hs Q E k
theorem YlM.of {M : Model} {A : Around} {t : Sem Value} {l : Addr} {R : Heap → Value → Prop} {s : Shared}
    (h : 0 < s.toks → ∀ (Q : Value → Shared → Prop) (E : Value → Shared → Prop), (∀ v h' (tk : Nat), Kb l s.heap h' → R h' v → Q v { s with heap := h', toks := tk }) → wpAny M A t Q E s) : YlM M A t l R s :=
  ⟨fun hs Q E k => wpAny_pos hs (h hs _ _ fun v h' tk kp r z => k v h' ⟨tk, z⟩ kp r)⟩

noncomputable def noL (K : Frag) : Bool := K.all fun p => p.2.cls != .type "list"
theorem frag_mem {a : Addr} {o : Obj} : ∀ {K : Frag}, K.lookup a = some o → (a, o) ∈ K
  | [], e => by cases e
  | (b, q) :: r, e => by
    rw [List.lookup_cons] at e
    split at e
    · rename_i z; cases e; rw [beq_iff_eq.mp z]; exact List.mem_cons_self
    · exact List.mem_cons_of_mem _ (frag_mem e)
theorem noL.get {K : Frag} (h : noL K = true) {a : Addr} {o : Obj} (e : K.lookup a = some o) : o.cls ≠ .type "list" := by
  have := List.all_eq_true.mp h (a, o) (frag_mem e)
  simpa using this
noncomputable def hidS (s : Shared) (l : Addr) : Shared := { s with heap := hideAll s.heap [l] }
theorem hide_kp {h : Heap} {l : Addr} : Kp (hideAll h [l]) h := fun b o e => of_hideAll _ e
theorem hide_get {h : Heap} {l b : Addr} {o : Obj} (e : h.get? b = some o) (hb : b ≠ l) : (hideAll h [l]).get? b = some o := hideAll_get [l] e (by simpa using hb)
theorem kb_of_hide {h h' : Heap} {l : Addr} (k : Kp (hideAll h [l]) h') : Kb l h h' := fun b o hb e => k b o (hide_get e hb)
theorem ns_hide {h : Heap} {l a : Addr} {m : Str → Option Value} {xs : Array Value} (n : h.Ns a m) (hp : h.PlainList l xs) : (hideAll h [l]).Ns a m := by
  obtain ⟨o, es, ep, e, d, r⟩ := n
  refine ⟨o, es, ep, hide_get e (fun q => ?_), d, r⟩
  obtain ⟨k, e'⟩ := hp
  rw [q, e'] at e; cases e; cases d
theorem Gd.hide {K : Frag} {h : Heap} {l : Addr} {xs : Array Value} (g : Gd K h) (hK : noL K = true) (hp : h.PlainList l xs) : Gd K (hideAll h [l]) := by
  refine ⟨fun a o e => hide_get (g.kin a o e) (fun q => ?_), ?_, ?_, ?_, ?_⟩
  · obtain ⟨k, e'⟩ := hp
    have h1 := g.kin a o e
    rw [q, e'] at h1; cases h1
    exact noL.get hK e rfl
  · obtain ⟨m, n⟩ := g.g; exact ⟨m, ns_hide n hp⟩
  · obtain ⟨m, n, r⟩ := g.b; exact ⟨m, ns_hide n hp, r⟩
  · obtain ⟨m, n, r⟩ := g.lim; exact ⟨m, ns_hide n hp, r⟩
  · obtain ⟨m, n, r⟩ := g.nb; exact ⟨m, ns_hide n hp, r⟩

section
variable {K : Frag} {F : Fm} {s₀ : Shared} {H Wr : List Addr} {σ : Sig} {rest : List Stmt} {N : NPost} {R : Heap → Value → Prop}
/-- an object of the frame's sight changes at l -/
theorem FI.setOb {s : Shared} {a l : Addr} {P P' : HP} {x : Str} {σ' : Sig} {h' : Heap} {tk : Nat} (f : FI F s₀ H σ s) (hx : σ.lookup x = some (.ob a P)) (hP : P'.fp = P.fp) (hl : l ∈ P.fp) (hσ : Le σ' σ) (hfp : ∀ y v, σ'.lookup y = some v → l ∉ v.fp)
    (hs : Kb l s.heap h') (hI : l ∈ H) (new : s₀.heap.get? l = none) (hp : P'.p H h') (zt : 0 < tk := by first | assumption | exact Subtype.property _ | exact Nat.succ_pos _) : FI F s₀ H ((x, .ob a P') :: σ') { s with heap := h', toks := tk } := by
  obtain ⟨⟨m, cm, ic, hv⟩, hk, hz⟩ := f
  obtain ⟨⟨⟨h1, t1, rfl⟩, ns, kp, fr⟩, cell, ap, ab⟩ := ic
  have off : offFrame F.env l := (hv x _ hx).2 l hl
  have ns' : h'.Ns F.env.locals m := ns.at' fun o e => hs _ o (Ne.symm off.1) e
  refine ⟨⟨m, cm, ⟨⟨⟨h', tk, rfl⟩, ns', fun b o e => hs b o (fun q => ?_) (kp b o e), fr⟩, fun n c e => ?_, ap, ab⟩, fun y v e => ?_⟩, fun b hb => ?_, zt⟩
  · rw [q, new] at e; cases e
  · obtain ⟨o, e1, e2⟩ := cell n c e
    exact ⟨o, hs _ o (Ne.symm (off.2 n c e)) e1, e2⟩
  · rcases lookup_set e with ⟨rfl, rfl⟩ | ⟨_, e⟩
    · obtain ⟨q, c⟩ := hv y _ hx
      refine ⟨?_, fun b hb => c b (by show b ∈ P.fp; rw [← hP]; exact hb)⟩
      rcases q with ⟨kk, r, hm, hr, _⟩ | ⟨kk, a', r, hc, hm, hr, _⟩
      · exact .inl ⟨kk, r, hm, hr, hp⟩
      · exact .inr ⟨kk, a', r, hc, hm, hr, hp⟩
    · have e' := hσ y v e
      obtain ⟨q, c⟩ := hv y v e'
      have up : ∀ {r}, RV H h1 r v → RV H h' r v := fun x => x.mono' (fun b o e' q => hs b o (fun z => by
        rcases q with q | q
        · exact hfp y v e (z ▸ q)
        · exact q.1 (z ▸ hI)) e') fun _ _ hb _ _ => hb
      refine ⟨?_, c⟩
      rcases q with ⟨kk, r, hm, hr⟩ | ⟨kk, a, r, hc, hm, hr⟩
      · exact .inl ⟨kk, r, hm, up hr⟩
      · exact .inr ⟨kk, a, r, hc, hm, up hr⟩
  · by_cases q : b = l
    · rw [q]; exact P'.live _ _ hp l (by rw [hP]; exact hl)
    · obtain ⟨o, e⟩ := hk b hb; exact ⟨o, hs b o q e⟩
end

section
variable {K : Frag} {prog : Program} {w : World} {A : Around} {s : Shared} {H : List Addr}
theorem fn_enterM {f l : Addr} {o : Obj} {fd : FuncData} {body : List Stmt} {rs : List Value} {kw : List (Str × Value)} {σ : Sig} {N : NPost} {R : Heap → Value → Prop}
    (hh : A.handled = none) (hroom : A.depth + 1 ≤ 900) (hu : A.units + 3 + 100 < cLine) (G : Gd K s.heap) (hk : HOK H s.heap) (hl : l ∈ H) (hG : Gd K (hidS s l).heap)
    (ho : K.lookup f = some o) (hd : o.data = .func fd) (hcd : codeIn K fd.code fd.qualname = true) (hbody : fd.body = .stmts body) (hclo : fd.closure = []) (hglob : fd.globals = mainGlobals) (hbi : fd.builtins = builtinsNs)
    (hco : fd.scope.isCoroutine = false) (hgen : fd.scope.isGenerator = false) (hkind : fd.scope.kind = .function)
    (hbind : ∀ (Q : List (Str × Value) → Shared → Prop) (E : Value → Shared → Prop), (∀ binds h₁, Kp s.heap h₁ → s.heap.objs.size ≤ h₁.objs.size → BindV H h₁ binds σ → Q binds { s with heap := h₁ }) → wpAny (model prog w) A.in1 (bindArgs fd ⟨rs, kw⟩) Q E s)
    (hkinds : (σ.all fun y => fd.scope.names.lookup y.1 == some .local || fd.scope.names.lookup y.1 == some .cell) = true) (hnd : (σ.map (·.1)).Nodup)
    (hx : ∀ L, Exs K (frm prog w A fd L f hh hu hkind hglob hbi) (hidS s l) H [l] σ body N R) (hN : ∀ L σ' s', N σ' → FI (frm prog w A fd L f hh hu hkind hglob hbi) (hidS s l) H σ' s' → R s'.heap .none) :
    YlM (model prog w) A (call (.ref f) rs kw) l R s := by
  refine YlM.of (fun zs Q E k => wpAny_call ?_)
  refine codeAny_call_function (Nat.lt_of_le_of_lt (Nat.le_of_succ_le hroom) (by decide)) (G.kin _ _ ho) hd hco hgen hbody (codeRec_of G.kin hcd) (hbind _ _ fun binds h₁ k1 hsz hv => ?_)
  rw [hclo]
  have names : ∀ {bs : List (Str × Value)} {τ : Sig}, BindV H h₁ bs τ → bs.map (·.1) = τ.map (·.1) := by
    intro bs τ b
    induction b with
    | nil => rfl
    | cons _ _ ih => simp [ih]
  have hn := names hv
  have hkinds' : (binds.all fun y => fd.scope.names.lookup y.1 == some .local || fd.scope.names.lookup y.1 == some .cell) = true := by
    rw [List.all_eq_true] at hkinds ⊢
    intro y hy
    have : y.1 ∈ σ.map (·.1) := by rw [← hn]; exact List.mem_map_of_mem hy
    obtain ⟨z, hz, e⟩ := List.mem_map.mp this
    rw [← e]; exact hkinds z hz
  refine wpAny_pos zs (wpAny_newFunctionEnv_cells hkind (kindsX hkinds' _) fun env he s' x z => ?_)
  subst he
  have kk := x.toInCall.keep
  dsimp only at kk
  refine ⟨G.lim.keeps (fun b o e => kk b o (k1 b o e)), codeAny_func ?_⟩
  have f0 : FI (frm prog w A fd h₁.objs.size f hh hu hkind hglob hbi) (hidS s l) H σ s' := by
    obtain ⟨⟨⟨h2, t2, rfl⟩, ns, kp, fr⟩, cell, ap, ab⟩ := x
    have hlive : ∀ {v : V} {r : Value}, RV H h₁ r v → ∀ b ∈ v.fp, ∃ o, h₁.get? b = some o := fun {v r} rv b hb => by
      cases v with
      | d _ => cases hb
      | ob a P => exact P.live _ _ rv.2 b hb
    refine ⟨⟨_, _, ⟨⟨⟨h2, t2, rfl⟩, ns, fun b o e => kk b o (k1 b o (of_hideAll _ e)), Nat.le_trans (Nat.le_of_eq (hideAll_size _ _)) (Nat.le_trans hsz fr)⟩, cell, ap, ab⟩, fun y v e => ?_⟩, hk.mono (fun b o e => kk b o (k1 b o e)), z⟩
    obtain ⟨r, hb, rv⟩ := hv.get e
    refine ⟨?_, fun b hb => ?_⟩
    · have hmem : (y, r) ∈ binds := mem_of_lookup hb
      rcases kindsX hkinds' (h₁.objs.size + 1) _ hmem with hl | ⟨hc, hs⟩
      · exact .inl ⟨hl, r, bindL_get hl _ _ (by rw [hn]; exact hnd) hb, rv.mono kk⟩
      · obtain ⟨c, hc'⟩ := Option.isSome_iff_exists.mp hs
        exact .inr ⟨hc, c, r, hc', bindC_get hc _ _ (by rw [hn]; exact hnd) hb, rv.mono kk⟩
    · obtain ⟨o', e'⟩ := hlive rv b hb
      have hlt := Heap.lt_size e'
      exact ⟨Nat.ne_of_lt hlt, fun z c hz => Nat.ne_of_lt (Nat.lt_trans hlt (ab z c (mem_of_lookup hz)))⟩
  refine hx h₁.objs.size s' _ _ hG (fun b hb => ?_) f0 (fun σ' s'' n f'' _ => ?_) (fun r s'' a rr => ?_)
  · rw [List.mem_singleton.mp hb]
    exact ⟨hl, hideAll_none [l] (by simp)⟩
  · obtain ⟨h', tk, e, kk⟩ := f''.after
    have e2 : s'' = { s with heap := h', toks := tk } := e
    have rr := hN _ _ _ n f''
    subst e2
    exact k _ _ _ (kb_of_hide kk) rr
  · obtain ⟨h', tk, e, kk⟩ := a
    have e2 : s'' = { s with heap := h', toks := tk } := e
    subst e2
    exact k _ _ _ (kb_of_hide kk) rr
end
end
section
open PySem PySem.W PySem.Calls PyProof.Rows
theorem BookIs.setList {C x dx l : Addr} {ds ds' : List D} {H : List Addr} {h h' : Heap} {vs' : List Value} (B : BookIs C x dx l ds H h) (kb : Kb l h h') (hp : h'.PlainList l (List.toArray vs')) (hr : Reps H h vs' ds') (hl : l ∈ H) : BookIs C x dx l ds' H h' := by
  obtain ⟨a, ⟨hs, tk, n, b⟩, vs, ⟨m, e⟩, r⟩ := B
  refine ⟨kb _ _ (fun q => ?_) a, ⟨hs, tk, n, kb _ _ (fun q => ?_) b⟩, vs', hp, hr.mono' (fun b o hb e _ => kb b o (fun z => hb (z ▸ hl)) e) fun _ _ hb _ _ => hb⟩
  · rw [q, e] at a; cases a
  · rw [q, e] at b
    have z : Value.type "list" = Value.type "dict" := congrArg Obj.cls (Option.some.inj b)
    exact absurd z (by decide)
theorem BookIs.pl {C x dx l : Addr} {ds : List D} {H : List Addr} {h : Heap} (B : BookIs C x dx l ds H h) : ∃ xs, h.PlainList l xs := let ⟨_, _, vs, hp, _⟩ := B; ⟨_, hp⟩

theorem setItem_B {M : Model} {A : Around} {E : Value → Shared → Prop} {s : Shared} {K : Frag} {x C f : Addr} {ox : Obj} {od : Option Obj} {i v : Value} {Q : Unit → Shared → Prop} (X : K.In s.heap) (I : InstAt s.heap x ox C od) (hq : noSeq K C = true) (hs : findIn K (.ref C) "__setitem__" = some (some (.ref f))) (hf : isFn K (.ref f) = true)
    (h : wpAny M A (call (.ref f) [.ref x, i, v]) (fun _ s' => Q () s') E s) : wpAny M A (setItem (.ref x) i v) Q E s := by
  unfold setItem sequenceKey
  refine wpAny_holding (wpAny_bind (wpAny_bind (I.type.here ?_)))
  refine wpAny_bind ((anyM_none X hq).here ?_)
  rw [if_pos (show (!false) = true from rfl)]
  exact wpAny_pure (wpAny_bind (special_fn X I hs (beq_iff_eq.mp hf) (wpAny_mono h (fun _ _ z => wpAny_pure z) fun _ _ z => z)))
theorem delItem_B {M : Model} {A : Around} {E : Value → Shared → Prop} {s : Shared} {K : Frag} {x C f : Addr} {ox : Obj} {od : Option Obj} {i : Value} {Q : Unit → Shared → Prop} (X : K.In s.heap) (I : InstAt s.heap x ox C od) (hq : noSeq K C = true) (hs : findIn K (.ref C) "__delitem__" = some (some (.ref f))) (hf : isFn K (.ref f) = true)
    (h : wpAny M A (call (.ref f) [.ref x, i]) (fun _ s' => Q () s') E s) : wpAny M A (delItem (.ref x) i) Q E s := by
  unfold delItem sequenceKey
  refine wpAny_holding (wpAny_bind (wpAny_bind (I.type.here ?_)))
  refine wpAny_bind ((anyM_none X hq).here ?_)
  rw [if_pos (show (!false) = true from rfl)]
  exact wpAny_pure (wpAny_bind (special_fn X I hs (beq_iff_eq.mp hf) (wpAny_mono h (fun _ _ z => wpAny_pure z) fun _ _ z => z)))

/-- l[:] = v -/
theorem setItem_all {prog : Program} {w : World} {A : Around} {E : Value → Shared → Prop} {s : Shared} {l sl b : Addr} {items new : Array Value} {Q : Unit → Shared → Prop} (hl : s.heap.PlainList l items) (hs : s.heap.IsSliceOf sl .none .none .none) (hb : s.heap.IsList b new) (hne : l ≠ b) (hz : items.size ≤ seqMax) (hz2 : new.size ≤ seqMax)
    (hQ : ∀ h', h'.PlainList l new → Heap.SameBut l s.heap h' → Q () { s with heap := h' }) : wpAny (model prog w) A (setItem (.ref l) (.ref sl) (.ref b)) Q E s := by
  obtain ⟨n, ho⟩ := id hl
  have hl' := hl.isList
  obtain ⟨os, hos, hcs, hds⟩ := id hs
  have hTs : s.TypeIs (.ref sl) "slice" := ⟨os, hos, hcs⟩
  have hsq : seqMax = 100000 := rfl
  unfold setItem
  refine wpAny_holding ?_
  refine wpAny_bind (wpAny_sequenceKey hl'.typeIs (by decide) ?_)
  refine wpAny_bind (wpAny_callSpecial?_slot (name := Str.ofString "__setitem__") hl'.typeIs slot_list_setitem
    (wpAny_call_entry slot_list_setitem hl'.typeIs entry_list_setitem ?_ (args_list_setitem _ _ _)))
  show wpAny _ _ (Builtin.List.listSubscript? (.ref sl) >>= _) _ _ s
  refine wpAny_bind ?_
  unfold Builtin.List.listSubscript?
  refine wpAny_bind (wpAny_specialOf hTs slice_no_index ?_)
  simp only [Option.isNone_none, if_true]
  refine wpAny_pure ?_
  show wpAny _ _ (typeOf (.ref sl) >>= _) _ _ s
  refine wpAny_bind (wpAny_typeOf hTs ?_)
  rw [if_neg (by decide)]
  rw [listSliceParts_eq]
  refine wpAny_bind (wpAny_bind (wpAny_field hos hds (x := .none) rfl (wpAny_bind (wpAny_listPart .none ?_))))
  rw [if_neg (show ¬ ((rawPart none == rawInt 0) = true) from Bool.false_ne_true)]
  refine wpAny_bind (wpAny_field hos hds (x := .none) rfl (wpAny_bind (wpAny_listPart .none ?_)))
  refine wpAny_bind (wpAny_field hos hds (x := .none) rfl (wpAny_bind (wpAny_listPart .none (wpAny_pure ?_))))
  obtain ⟨ob, hob, hcb, nb, hdb⟩ := id hb
  have hns : Builtin.List.listSameRef (.ref l) (.ref b) = false := by
    unfold Builtin.List.listSameRef
    simpa using hne
  dsimp only
  rw [hns]
  simp only [Bool.false_eq_true, if_false]
  refine wpAny_bind (m := Builtin.List.listAllItems (.ref b) _) ?_
  unfold Builtin.List.listAllItems
  refine wpAny_bind (wpAny_typeOf hb.typeIs ?_)
  rw [if_pos (by decide)]
  unfold Builtin.List.listItems
  refine wpAny_bind (wpAny_seqItems hob hdb (wpAny_pure ?_))
  refine wpAny_bind (wpAny_bind (wpAny_seqItems ho rfl (wpAny_pure ?_)))
  refine wpAny_bind (wpAny_of_eq (sliceIndices_raw none none none items.size (by simp)) ?_)
  have e1 : sliceBounds none none none items.size = (0, (items.size : Int), 1) := by simp [sliceBounds]
  rw [e1]
  dsimp only
  rw [if_pos (by decide)]
  refine wpAny_bind (wpAny_rule ?_)
  have e2 : Builtin.List.listTooLong (items.size + new.size) = false := by
    unfold Builtin.List.listTooLong
    rw [decide_eq_false]
    rw [sizeLine_eq]; omega
  rw [e2]
  simp only [Bool.false_eq_true, if_false]
  have e3 : ∀ xs : Array Value, xs.size = items.size → xs.extract 0 (0 : Int).toNat ++ new ++ xs.extract (max (0 : Int) (items.size : Int)).toNat xs.size = new := by
    intro xs hx
    have : (max (0 : Int) (items.size : Int)).toNat = items.size := by omega
    rw [this, hx]
    apply Array.ext'
    simp
  have q := PySem.IsL.update (n := n) ho (fun xs : Array Value => xs.extract 0 (0 : Int).toNat ++ new ++ xs.extract (max (0 : Int) (items.size : Int)).toNat xs.size)
  rw [e3 items rfl] at q
  refine wpAny_bind (m := Builtin.List.listUpdate (.ref l) _) ?_
  unfold Builtin.List.listUpdate
  refine wpAny_updateSeq ho rfl ?_ (by rw [sizeLine_eq]; omega) (by rw [e3 items rfl, sizeLine_eq]; omega)
  refine wpAny_bind (wpAny_letGo (wpAny_pure ⟨.none, rfl, wpAny_pure (hQ _ ⟨_, q⟩ (Heap.SameBut.update ..))⟩))
end
section
open PySem PySem.W PySem.Calls PyProof.Rows
section
variable {K : Frag} {F : Fm} {s₀ : Shared} {H Wr : List Addr} {σ σ' : Sig} {rest : List Stmt} {N : NPost} {R : Heap → Value → Prop} {C a dx l : Addr} {ds ds' : List D} {x : Str} {px : Pos}
/-- a call of a function that leaves the book changed -/
noncomputable def ChA (prog : Program) (w : World) (A : Around) (K : Frag) (H : List Addr) (f : Addr) (C a dx l : Addr) (ds' : List D) (vs : List V) (R : Heap → Value → Prop) : Prop :=
  ∀ (s : Shared) rs, Gd K s.heap → HOK H s.heap → RVs H s.heap rs vs → YlM (model prog w) A (call (.ref f) rs) l (fun h r => R h r ∧ BookIs C a dx l ds' H h) s
noncomputable abbrev Ch (F : Fm) (K : Frag) (H : List Addr) (f : Addr) (C a dx l : Addr) (ds' : List D) (vs : List V) (R : Heap → Value → Prop) : Prop := ChA F.prog F.w F.A K H f C a dx l ds' vs R
noncomputable abbrev anyR : Heap → Value → Prop := fun _ _ => True

theorem FI.gd {s : Shared} (f : FI F s₀ H σ s) (g : Gd K s₀.heap) : Gd K s.heap := g.mono f.kp

/-- behind the change -/
theorem book_after {s s₁ : Shared} {Q : Flow → Shared → Prop} {E : Value → Shared → Prop} (g : Gd K s₀.heap) (sub : ∀ b ∈ Wr, b ∈ H ∧ s₀.heap.get? b = none) (f : FI F s₀ H σ s₁) (hx : σ.lookup x = some (.book C a dx l ds)) (hl : l ∈ Wr)
    (hσ : Le σ' σ) (hfp : ∀ y v, σ'.lookup y = some v → l ∉ v.fp) (hr : Exs K F s₀ H Wr ((x, .book C a dx l ds') :: σ') rest N R) (t : Tr F.env Wr s.heap s₁.heap)
    (kn : ∀ σ' s', N σ' → FI F s₀ H σ' s' → Tr F.env Wr s.heap s'.heap → Q .next s') (kr : ∀ r s', After s₀ s' → R s'.heap r → Q (.ret r) s')
    {h' : Heap} {tk : Nat} (kb : Kb l s₁.heap h') (B : BookIs C a dx l ds' H h') (zt : 0 < tk := by first | assumption | exact Subtype.property _ | exact Nat.succ_pos _) : wpAny (model F.prog F.w) F.A (execs rest F.env) Q E { s₁ with heap := h', toks := tk } := by
  have f3 := f.setOb (P' := bookP C a dx l ds') (tk := tk) hx rfl (by simp [bookP]) hσ hfp kb (sub l hl).1 (sub l hl).2 B
  exact hr _ Q E g sub f3 (fun σ' s'' n f'' t' => kn σ' s'' n f'' (t.trans (Tr.trans (fun b o hb ho e => kb b o (fun q => hb (q ▸ hl)) e) t'))) kr

/-- x.m(..), a statement -/
theorem xs_methM {name : Str} {apos pos epos : Pos} {e : Expr} {es : List Expr} {v : V} {vs : List V} {fa : Addr} {pl : Sem Bool} {R' : Heap → Value → Prop} (hx : σ.lookup x = some (.book C a dx l ds)) (hl : l ∈ Wr) (hd : (x == ("__debug__" : Str)) = false) (hc : (x == ("__classdict__" : Str)) = false)
    (ha : ∀ h (hk : HOK H h), CK K σ (F.cx H h hk) → EvVs (F.cx H h hk) (e :: es) (v :: vs))
    (he : eval (.Call (.Attribute (.Name x px) name apos) (e :: es) [] pos) F.env = (do
      let ov ← eval (.Name x px) F.env
      standAt apos.atName
      let (f, first) ← holding [ov] (getMethod ov name pl)
      callWith pos f first (backTo pos (starEach (e :: es) F.env)) []))
    (hg : plainGet K C name = true) (hf : findIn K (.ref C) name = some (some (.ref fa))) (ht : isFn K (.ref fa) = true) (hk : keepIn K (.ref fa) = true) (hn : (Value.str hdr 0).isStr name = false)
    (hC : Ch F K H fa C a dx l ds' (.book C a dx l ds :: v :: vs) R') (hσ : Le σ' σ) (hfp : ∀ y v, σ'.lookup y = some v → l ∉ v.fp)
    (hi : interactive F.env = false) (hsw : swapsWith (.Call (.Attribute (.Name x px) name apos) (e :: es) [] pos) none epos.line F.env = pure false)
    (hr : Exs K F s₀ H Wr ((x, .book C a dx l ds') :: σ') rest N R) : Exs K F s₀ H Wr σ (.Expr (.Call (.Attribute (.Name x px) name apos) (e :: es) [] pos) epos :: rest) N R := by
  intro s Q E g sub f kn kr
  have zs := f.tkp
  refine wpAny_execs_cons (wpAny_Expr_any (hi := hi) (hs := hsw) (MethodCall_ ((ev_nm (f.ck g) hx hd hc s (Kp.refl _)).out _ E fun ov h₁ t₁ k₁ r => ?_) he))
  obtain ⟨rfl, B⟩ := r
  have B : BookIs C a dx l ds H h₁ := B
  obtain ⟨eds, m, I, hgl, hgl'⟩ := B.inst
  have G := (f.gd g).mono k₁
  refine method_fn G.kin I (plainGet_of hg).1 (plainGet_of hg).2 hf (beq_iff_eq.mp ht) (by show (lookIn name (dictOf eds m)).map _ = _; rw [lookIn_dict, hgl' name hn]; rfl) ?_
  have ha := ha s.heap f.hok (f.ck g)
  have hp := ha.plain (pos := pos)
  cases ha with | cons hs he1 hr1 =>
  refine callWith_K G.kin hk ((EvVs.cons hs he1 hr1).out _ _ E k₁ fun rs h₂ t₂ k₂ qs => ⟨G.kin.keeps k₂, ?_⟩) hs hr1.plain
  refine (hC { s with heap := h₂, toks := t₂ } (.ref a :: rs) (G.mono k₂) (f.hok.mono (k₁.trans k₂)) (.cons ⟨rfl, (bookP C a dx l ds).mono _ _ _ _ B (fun b o e _ => k₂ b o e) (fun _ _ hb _ _ => hb)⟩ qs)).out _ E fun r h₃ t₃ kb ⟨_, B'⟩ => ?_
  exact book_after (s := s) g sub (f.grow (tk := t₂) (k₁.trans k₂)) hx hl hσ hfp hr (Tr.of_kp (k₁.trans k₂)) kn kr kb B'

/-- x[i] = v -/
theorem xs_setitemM {i value : Expr} {sp pos : Pos} {vi vv : V} {fa : Addr} {R' : Heap → Value → Prop} (hx : σ.lookup x = some (.book C a dx l ds)) (hl : l ∈ Wr) (hd : (x == ("__debug__" : Str)) = false) (hc : (x == ("__classdict__" : Str)) = false)
    (hv : ∀ h (hk : HOK H h), CK K σ (F.cx H h hk) → EvV (F.cx H h hk) value vv) (hi : ∀ h (hk : HOK H h), CK K σ (F.cx H h hk) → EvV (F.cx H h hk) i vi)
    (hq : noSeq K C = true) (hf : findIn K (.ref C) "__setitem__" = some (some (.ref fa))) (ht : isFn K (.ref fa) = true)
    (hC : Ch F K H fa C a dx l ds' [.book C a dx l ds, vi, vv] R') (hσ : Le σ' σ) (hfp : ∀ y v, σ'.lookup y = some v → l ∉ v.fp)
    (hsw : swapsWith value (some (.Subscript (.Name x px) i sp)) pos.line F.env = pure false)
    (hr : Exs K F s₀ H Wr ((x, .book C a dx l ds') :: σ') rest N R) : Exs K F s₀ H Wr σ (.Assign [.Subscript (.Name x px) i sp] value pos :: rest) N R := by
  intro s Q E g sub f kn kr
  have zs := f.tkp
  refine wpAny_execs_cons (wpAny_Assign_Subscript (hs := hsw) ?_)
  have CK := f.ck g
  refine (hv _ _ CK s (Kp.refl _)).out _ E fun v h₁ t₁ k₁ rv => ?_
  refine (ev_nm CK hx hd hc { s with heap := h₁, toks := t₁ } k₁).out _ E fun ov h₂ t₂ k₂ r => ?_
  refine (hi _ _ CK { s with heap := h₂, toks := t₂ } (Kp.trans k₁ k₂)).out _ E fun iv h₃ t₃ k₃ ri => ?_
  obtain ⟨rfl, B⟩ := r
  have B3 : BookIs C a dx l ds H h₃ := (bookP C a dx l ds).mono _ _ _ _ B (fun b o e _ => k₃ b o e) (fun _ _ hb _ _ => hb)
  obtain ⟨eds, m, I, hgl, hgl'⟩ := B3.inst
  have kk : Kp s.heap h₃ := (Kp.trans k₁ k₂).trans k₃
  have G := (f.gd g).mono kk
  refine setItem_B G.kin I hq hf ht ?_
  refine (hC { s with heap := h₃, toks := t₃ } [.ref a, iv, v] G (f.hok.mono kk) (.cons ⟨rfl, B3⟩ (.cons ri (.cons ((RV.mono rv k₂).mono k₃) .nil)))).out _ E fun r h₄ t₄ kb ⟨_, B'⟩ => ?_
  exact book_after (s := s) g sub (f.grow (tk := t₃) kk) hx hl hσ hfp hr (Tr.of_kp kk) kn kr kb B'

/-- del x[i] -/
theorem xs_delitemM {i : Expr} {sp pos : Pos} {vi : V} {fa : Addr} {R' : Heap → Value → Prop} (hx : σ.lookup x = some (.book C a dx l ds)) (hl : l ∈ Wr) (hd : (x == ("__debug__" : Str)) = false) (hc : (x == ("__classdict__" : Str)) = false)
    (hi : ∀ h (hk : HOK H h), CK K σ (F.cx H h hk) → EvV (F.cx H h hk) i vi)
    (hq : noSeq K C = true) (hf : findIn K (.ref C) "__delitem__" = some (some (.ref fa))) (ht : isFn K (.ref fa) = true)
    (hC : Ch F K H fa C a dx l ds' [.book C a dx l ds, vi] R') (hσ : Le σ' σ) (hfp : ∀ y v, σ'.lookup y = some v → l ∉ v.fp)
    (hr : Exs K F s₀ H Wr ((x, .book C a dx l ds') :: σ') rest N R) : Exs K F s₀ H Wr σ (.Delete [.Subscript (.Name x px) i sp] pos :: rest) N R := by
  intro s Q E g sub f kn kr
  have zs := f.tkp
  refine wpAny_execs_cons (wpAny_Delete (wpAny_deleteEach_cons (wpAny_delete_Subscript ?_)))
  have CK := f.ck g
  refine (ev_nm CK hx hd hc _ (Kp.refl _)).out _ E fun ov h₂ t₂ k₂ r => ?_
  refine (hi _ _ CK { s with heap := h₂, toks := t₂ } k₂).out _ E fun iv h₃ t₃ k₃ ri => ?_
  obtain ⟨rfl, B⟩ := r
  have B3 : BookIs C a dx l ds H h₃ := (bookP C a dx l ds).mono _ _ _ _ B (fun b o e _ => k₃ b o e) (fun _ _ hb _ _ => hb)
  obtain ⟨eds, m, I, hgl, hgl'⟩ := B3.inst
  have kk : Kp s.heap h₃ := k₂.trans k₃
  have G := (f.gd g).mono kk
  refine delItem_B G.kin I hq hf ht ?_
  refine (hC { s with heap := h₃, toks := t₃ } [.ref a, iv] G (f.hok.mono kk) (.cons ⟨rfl, B3⟩ (.cons ri .nil))).out _ E fun r h₄ t₄ kb ⟨_, B'⟩ => ?_
  exact wpAny_deleteEach_nil (book_after (s := s) g sub (f.grow (tk := t₃) kk) hx hl hσ hfp hr (Tr.of_kp kk) kn kr kb B')

/-- y = f(..), the book changed -/
theorem xs_assignM {y : Str} {py np pos spos : Pos} {e : Expr} {es : List Expr} {v : V} {vs : List V} {fn : Str} {fa : Addr} {d : D} {o : Obj} {fd : FuncData} (hx : σ.lookup x = some (.book C a dx l ds)) (hl : l ∈ Wr)
    (ha : ∀ h (hk : HOK H h), CK K σ (F.cx H h hk) → EvVs (F.cx H h hk) (e :: es) (v :: vs))
    (hnm : nsIn K mainGlobals fn = some (some (.ref fa))) (hkx : F.env.kindOf fn = some .globalImplicit) (hdx : (fn == ("__debug__" : Str)) = false) (ho : K.lookup fa = some o) (hd : o.data = .func fd)
    (hC : Ch F K H fa C a dx l ds' (v :: vs) (fun h r => Rep H h r d)) (hσ : Le σ' σ) (hfp : ∀ y v, σ'.lookup y = some v → l ∉ v.fp)
    (st : Storable F.env y) (hsw : swapsWith (.Call (.Name fn np) (e :: es) [] pos) (some (.Name y py)) spos.line F.env = pure false)
    (hr : Exs K F s₀ H Wr ((y, .d d) :: (x, .book C a dx l ds') :: σ') rest N R) : Exs K F s₀ H Wr σ (.Assign [.Name y py] (.Call (.Name fn np) (e :: es) [] pos) spos :: rest) N R := by
  intro s Q E g sub f kn kr
  have zs := f.tkp
  have CK := f.ck g
  refine wpAny_execs_cons (wpAny_Assign_Name (hs := hsw) (Call_Name rfl ((ev_gl CK hnm hkx hdx s (Kp.refl _)).out _ E fun fv h₁ t₁ k₁ r => ?_)))
  subst r
  have G := (f.gd g).mono k₁
  have ha := ha s.heap f.hok CK
  cases ha with | cons hs he1 hr1 =>
  refine callWith_def hd ((EvVs.cons hs he1 hr1).out _ _ E k₁ fun rs h₂ t₂ k₂ q => ⟨k₂ _ _ (G.kin _ _ ho), ?_⟩) hs
  have kk : Kp s.heap h₂ := k₁.trans k₂
  refine (hC { s with heap := h₂, toks := t₂ } rs (G.mono k₂) (f.hok.mono kk) q).out _ E fun r h₃ t₃ kb ⟨rr, B'⟩ => ?_
  have f3 := (f.grow (tk := t₂) kk).setOb (P' := bookP C a dx l ds') (tk := t₃) hx rfl (by simp [bookP]) hσ hfp kb (sub l hl).1 (sub l hl).2 B'
  refine store_ok (v := .d d) f3 st rr (fun b hb => by cases hb) fun s' f' _ t => ?_
  exact hr _ Q E g sub f' (fun σ' s'' n f'' t' => kn σ' s'' n f'' (fun b o hb ho e => t' b o hb ho (t b o ho (kb b o (fun q => hb (q ▸ hl)) (kk b o e))))) kr

/-- return of data, the book as it is -/
theorem xs_retB {e : Expr} {pos : Pos} {d d' : D} (hx : σ.lookup x = some (.book C a dx l ds)) (he : EvFD K F H σ e d) (q : d = d') (q2 : ds = ds') : Exs K F s₀ H Wr σ (.Return (some e) pos :: rest) N (fun h r => Rep H h r d' ∧ BookIs C a dx l ds' H h) := by
  subst q q2
  refine xs_ret fun h hk k s hI => Ylds.of (fun zs Q E kk => (he h hk k s hI).out Q E fun v h' tk k' r => kk v h' tk k' ⟨r, ?_⟩)
  obtain ⟨rr, _, _, B⟩ := k.sees h' (hI.trans k') x _ hx
  exact B
theorem FI.book {s : Shared} (f : FI F s₀ H σ s) (hx : σ.lookup x = some (.book C a dx l ds)) : BookIs C a dx l ds H s.heap := by
  obtain ⟨r, _, _, B⟩ := f.sees x _ hx
  exact B
end
end
section
open PySem PySem.W PySem.Calls PyProof.Rows
section
variable {K : Frag} {F : Fm} {s₀ : Shared} {H Wr : List Addr} {σ σ' : Sig} {rest : List Stmt} {N : NPost} {R : Heap → Value → Prop} {C a dx l : Addr} {ds ds' : List D} {x : Str} {px : Pos}

/-- x._headers.append(e) -/
theorem xs_appendA {hp ap pos epos : Pos} {e : Expr} {d : D} {attr : Option Value} (hx : σ.lookup x = some (.book C a dx l ds)) (hl : l ∈ Wr) (hd : (x == ("__debug__" : Str)) = false) (hc : (x == ("__classdict__" : Str)) = false)
    (hg : plainGet K C hdr = true) (hh : hasDictIn K C = true) (hat : findIn K (.ref C) hdr = some attr) (hn : noGet K attr = true) (he : EvFD K F H σ e d) (hσ : Le σ' σ) (hfp : ∀ y v, σ'.lookup y = some v → l ∉ v.fp) (hz : ds.length < seqMax)
    (hbase : attributeBase (.Attribute (.Name x px) hdr hp) "append" F.env (eval (.Attribute (.Name x px) hdr hp) F.env) = eval (.Attribute (.Name x px) hdr hp) F.env) (hline : (ap.endLine == pos.line) = true) (hs : starEach [e] F.env = [(false, eval e F.env)])
    (hi : interactive F.env = false) (hsw : swapsWith (.Call (.Attribute (.Attribute (.Name x px) hdr hp) "append" ap) [e] [] pos) none epos.line F.env = pure false)
    (hr : Exs K F s₀ H Wr ((x, .book C a dx l (ds ++ [d])) :: σ') rest N R) : Exs K F s₀ H Wr σ (.Expr (.Call (.Attribute (.Attribute (.Name x px) hdr hp) "append" ap) [e] [] pos) epos :: rest) N R := fun s Q E g sub f kn kr => by
  have zs := f.tkp
  have CK := f.ck g
  refine wpAny_execs_cons (wpAny_Expr (hi := hi) (hs := hsw) (wpAny_Call_method_lateS hbase (by rw [hs]; rfl) hline ?_))
  refine (ev_hdr (attr := attr) CK (ev_nm CK hx hd hc) hg hh hat hn s (Kp.refl _)).out _ E fun v h₁ t₁ k₁ r => ?_
  obtain ⟨rfl, vs, hp, hR⟩ := r
  refine ⟨"list", "list.append", PySem.F.plainAttrs_list, slot_list_append, PySem.F.type_list_append, hp.isList.typeIs, fun b e => by cases e; obtain ⟨n, e⟩ := hp; exact ⟨_, e, rfl⟩, ?_⟩
  have hpl : (backTo pos (starEach [e] F.env)).any (·.1) = false := by rw [hs]; rfl
  refine (fun hout => ?_ : wpAny (model F.prog F.w) F.A (spliced (backTo pos (starEach [e] F.env))) (fun rs s₂ => wpAny (model F.prog F.w) F.A (call (.builtin "list.append") ([.ref l] ++ rs)) (fun v s' => match v with | .ref _ => False | _ => wpAny (model F.prog F.w) F.A (execs rest F.env) Q E s') E s₂) E { s with heap := h₁, toks := t₁ } → _) (args_cons ((he s.heap f.hok CK { s with heap := h₁, toks := t₁ } k₁).out _ E fun u h₂ t₂ k₂ ru => args_nil ?_) hs)
  · rw [hs] at hpl hout ⊢
    exact Calls.callWith_builtin hpl (Calls.evalArgs_plain hout)
  have kk : Kp s.heap h₂ := k₁.trans k₂
  have hp2 : h₂.PlainList l (List.toArray vs) := hp.at fun o e => k₂ _ o e
  have hR2 := hR.mono k₂
  show wpAny (model F.prog F.w) F.A (call (.builtin "list.append") [.ref l, u]) _ E _
  refine wpAny_list_append_plain (hsz := by rw [List.size_toArray, hR2.length]; exact seqMax_le (Nat.le_of_lt hz)) hp2 fun h₃ hp₃ hs₃ => ?_
  have B2 : BookIs C a dx l ds H h₂ := (f.grow (tk := t₂) kk).book hx
  have kb : Kb l h₂ h₃ := fun b o hb e => hs₃.extBut b o hb e
  refine book_after (s := s) g sub (f.grow (tk := t₂) kk) hx hl hσ hfp hr (Tr.of_kp kk) kn kr kb (B2.setList (vs' := vs ++ [u]) kb (by simpa using hp₃) (hR2.snoc ru) (sub l hl).1)

/-- x._headers[:] = v -/
theorem xs_setall {hp p sp pos : Pos} {value : Expr} {attr : Option Value} (hx : σ.lookup x = some (.book C a dx l ds)) (hl : l ∈ Wr) (hd : (x == ("__debug__" : Str)) = false) (hc : (x == ("__classdict__" : Str)) = false)
    (hg : plainGet K C hdr = true) (hh : hasDictIn K C = true) (hat : findIn K (.ref C) hdr = some attr) (hn : noGet K attr = true) (hv : EvFD K F H σ value (.lst ds')) (hσ : Le σ' σ) (hfp : ∀ y v, σ'.lookup y = some v → l ∉ v.fp) (hz : ds.length ≤ seqMax) (hz' : ds'.length ≤ seqMax)
    (hsw : swapsWith value (some (.Subscript (.Attribute (.Name x px) hdr hp) (.Slice Option.none Option.none Option.none p) sp)) pos.line F.env = pure false)
    (hr : Exs K F s₀ H Wr ((x, .book C a dx l ds') :: σ') rest N R) : Exs K F s₀ H Wr σ (.Assign [.Subscript (.Attribute (.Name x px) hdr hp) (.Slice Option.none Option.none Option.none p) sp] value pos :: rest) N R := fun s Q E g sub f kn kr => by
  have zs := f.tkp
  have CK := f.ck g
  refine wpAny_execs_cons (wpAny_Assign_Subscript (hs := hsw) ?_)
  refine (hv s.heap f.hok CK s (Kp.refl _)).out _ E fun v h₁ t₁ k₁ rv => ?_
  refine (ev_hdr (attr := attr) CK (ev_nm CK hx hd hc) hg hh hat hn { s with heap := h₁, toks := t₁ } k₁).out _ E fun o h₂ t₂ k₂ r => ?_
  obtain ⟨rfl, vs, hp, hR⟩ := r
  refine wpAny_Slice (evalPart_none_step (evalPart_none_step (evalPart_none_step ?_)))
  have kk : Kp s.heap h₂ := Kp.trans k₁ k₂
  have k3 := Kp.push h₂ { cls := .type "slice", data := .fields #[.none, .none, .none] }
  have hH := (sub l hl).1
  cases Rep.mono (Kp.trans k₂ k3) rv with | @lst b ws _ hb hbl hbr =>
  have hp2 := hp.at (h' := h₂.push { cls := .type "slice", data := .fields #[.none, .none, .none] }) fun o e => k3 _ o e
  refine setItem_all hp2 (Heap.IsSliceOf.new ..) hbl (fun q => hb (q ▸ hH)) (by rw [List.size_toArray, hR.length]; exact hz) (by rw [List.size_toArray, hbr.length]; exact hz') fun h₃ hp₃ hs₃ => ?_
  have B2 := (f.grow (tk := t₂) (Kp.trans kk k3)).book hx
  have kb : Kb l _ h₃ := fun b o hb e => hs₃.extBut b o hb e
  exact book_after (s := s) g sub (f.grow (tk := t₂) (Kp.trans kk k3)) hx hl hσ hfp hr (Tr.of_kp (Kp.trans kk k3)) kn kr kb (B2.setList kb hp₃ hbr hH)
end
section
variable {c : Cx}
/-- sep.join(own) -/
theorem ev_joinO {o e : Expr} {apos pos : Pos} {x y : Str} {a : Addr} {xs : List D} (hbase : attributeBase o "join" c.env (eval o c.env) = eval o c.env) (hline : (apos.endLine == pos.line) = true)
    (hs : starEach [e] c.env = [(false, eval e c.env)]) (ho : EvD c o (.str x)) (ha : EvV c e (.own a xs)) (hj : joinD x xs = some y) : EvD c (.Call (.Attribute o "join" apos) [e] [] pos) (.str y) := by
  refine ev_meth (v := .own a xs) (vs := []) hbase hline (by simp) F.slot_str_join F.type_str_join ho (.cons hs ha .nil) fun s t rs hI q => ?_
  cases q with | cons q qs =>
  cases qs
  simp only [joinD] at hj
  split at hj
  · rename_i ys hys
    split at hj
    · rename_i hb
      cases hj
      obtain ⟨rfl, vs, hp, hr⟩ := q
      exact Ylds.of (fun zs Q E k => PyProof.Rows.join_list hp.isList (strs_are hr hys) (by have : seqMax = 100000 := rfl; omega) fun t' tk => k _ _ _ (Kp.refl _) (.str _ _))
    · cases hj
  · cases hj
end
end
section
open PySem PySem.W PySem.Calls PyProof.Rows
/-- an iterator that ends at once -/
noncomputable def NilIt (prog : Program) (w : World) (A : Around) (v : Value) (s : Shared) : Prop := ∀ (Q : Value → Shared → Prop) (E : Value → Shared → Prop),
  (∀ I h', Kp s.heap h' → s.heap.objs.size ≤ I → (∃ o, h'.get? I = some o) → (∀ (Q' : Option Value → Shared → Prop) (E' : Value → Shared → Prop), (∀ h'' tk, Kb I h' h'' → Q' none { s with heap := h'', toks := tk }) →
    wpAny (model prog w) A (pyNext (.ref I)) Q' E' { s with heap := h' }) → Q (.ref I) { s with heap := h' }) → wpAny (model prog w) A (pyIter v) Q E s
theorem nil_of_it {prog : Program} {w : World} {A : Around} {H : List Addr} {tp hid : Bool} {v : Value} {s : Shared} (h : ItV prog w A H [] tp hid v s) : NilIt prog w A v s := by
  intro Q E k
  refine h Q E fun I h' fp P St kp hsz W st hfp => k I h' kp W.new (W.live _ _ st) fun Q' E' q => W.W.done _ _ _ st fun h₂ tk₂ hk₂ => q h₂ tk₂ fun b o hb e => hk₂ b o (by simpa using hb) e
noncomputable def EvNil (c : Cx) (e : Expr) : Prop := ∀ (s : Shared), 0 < s.toks → ∀ (Q : Value → Shared → Prop) (E : Value → Shared → Prop), c.I s.heap →
  (∀ v h' (tk : Tk), Kp s.heap h' → NilIt c.prog c.w c.A v { s with heap := h', toks := tk.1 } → Q v { s with heap := h', toks := tk.1 }) → wpAny c.M c.A (eval e c.env) Q E s
theorem evNil_own {c : Cx} {e : Expr} {l : Addr} (he : EvV c e (.own l [])) : EvNil c e := fun s zs Q E hI k => evIt_own he s zs Q E hI fun v h' tk kp it => k v h' tk kp (nil_of_it it)

theorem evNil_items {c : Cx} {o : Expr} {apos pos : Pos} {a : Addr} (ho : EvV c o (.dct c.prog c.w a [])) (ha : (a == sysModules) = false) (hbase : attributeBase o "items" c.env (eval o c.env) = eval o c.env) (hline : (apos.endLine == pos.line) = true) :
    EvNil c (.Call (.Attribute o "items" apos) [] [] pos) := by
  intro s zs Q E hI k
  refine wpAny_Call_method (T := "dict") (id := "dict.items") hbase rfl hline F.plainAttrs_dict F.slot_dict_items F.type_dict_items ((ho s hI).out _ E fun v h₁ t₁ k₁ r => ?_)
  obtain ⟨rfl, kvs, hm, hk, hr⟩ := r
  obtain rfl : kvs = [] := by cases kvs with
    | nil => rfl
    | cons _ _ => cases hk
  refine ⟨hm.mapOf.typeIs, hm.mapOf.noDict, ?_⟩
  show wpAny _ _ (callWith pos (.builtin "dict.items") [.ref a] [] []) Q E _
  refine method_meetsIn F.slot_dict_items F.entry_dict_items rfl (PySem.evalArgs_none ⟨rfl, hm.mapOf.typeIs, F.args_dict_items_1 _, _, meets_dict_items (strKind c.prog c.w) a ha, ⟨[], hm⟩, ?_⟩)
  refine k _ _ _ (Kp.trans k₁ (Kp.push _ _)) ?_
  intro Q' E' k'
  obtain ⟨od, es, ep, hod, hx, hdat, hko, hp, hn⟩ := id hm
  have hat : h₁.DictAt (strKind c.prog c.w) a [] ep := ⟨od, es, hod, hx, hdat, hko, hp, hn⟩
  refine wpAny_pyIter_items (knd := strKind c.prog c.w) (d := a) (kvs := []) (ep := ep) ⟨_, Heap.get?_push_size _ rfl, rfl, rfl⟩ (hat.push _) ?_
  refine k' _ _ (Kp.push _ _) (Nat.le_refl _) ⟨_, Heap.get?_push_size _ rfl⟩ fun Q2 E2 q => ?_
  refine wpAny_pyNext_items_end (knd := strKind c.prog c.w) (kvs := []) c.hh (Heap.get?_push_size _ rfl) ((hat.push _).push _) rfl fun h2 he => q h2 _ fun b o hb e => he b o hb e

section
variable {K : Frag} {F : Fm} {s₀ : Shared} {H Wr : List Addr} {σ σ' : Sig} {rest : List Stmt} {N : NPost} {R : Heap → Value → Prop}
theorem xs_for_nil {target iter : Expr} {body : List Stmt} {pos : Pos} (hi : ∀ h (hk : HOK H h), CK K σ (F.cx H h hk) → EvNil (F.cx H h hk) iter) (hs : ∀ x, foldedSetIterable iter F.env x = pure x) (hr : Exs K F s₀ H Wr σ rest N R) :
    Exs K F s₀ H Wr σ (.For target iter body [] pos :: rest) N R := by
  intro s Q E g sub f kn kr
  have zs := f.tkp
  refine wpAny_execs_cons (wpAny_For (hi s.heap f.hok (f.ck g) s zs _ E (Kp.refl _) fun v h₁ tk k1 it => ?_) hs)
  have f1 : FI F s₀ H σ { s with heap := h₁, toks := tk } := f.grow k1
  refine it _ _ fun I h₂ k2 hI live nx => ?_
  have f2 : FI F s₀ (I :: H) σ { s with heap := h₂, toks := tk } := f1.hide (h' := h₂) (tk := tk) k2 hI live
  obtain ⟨offI, newI⟩ := f1.new_off (I := I) hI
  have live1 : ∀ b, (∃ o, h₁.get? b = some o) → b ≠ I := fun b ⟨o, e⟩ => Nat.ne_of_lt (Nat.lt_of_lt_of_le (Heap.lt_size e) hI)
  refine codeAny_forLoop_any (fun n s' => s' = { s with heap := h₂, toks := tk }) ?_ 1 rfl
  rintro n s' rfl
  refine wpAny_pos tk.2 (nx _ _ fun h₃ t₃ kb z₃ => ?_)
  refine wpAny_execs_nil ?_
  have f3 : FI F s₀ H σ { s with heap := h₃, toks := t₃ } := f2.drop (h' := h₃) (tk := t₃) kb (fun hm => live1 I (f1.hok I hm) rfl) offI newI (fun x v e hm => live1 I (f1.fp_live e I hm) rfl)
  exact hr _ Q E g sub f3 (fun σ' s₅ n f5 t5 => kn σ' s₅ n f5 fun b o hb ho e => t5 b o hb ho (kb b o (live1 b ⟨o, k1 b o e⟩) (k2 b o (k1 b o e)))) kr
end
section
variable {K : Frag} {F : Fm} {s₀ : Shared} {H Wr : List Addr} {σ σ' : Sig} {rest : List Stmt} {N : NPost} {R : Heap → Value → Prop}
theorem xs_newlistF {x : Str} {px lp pos : Pos} (st : Storable F.env x) (hr : ∀ a, (∀ y v, σ.lookup y = some v → a ∉ v.fp) → a ∉ H → Exs K F s₀ (a :: H) (a :: Wr) ((x, .own a []) :: σ) rest N R) (hsw : swapsWith (.List [] lp) (some (.Name x px)) pos.line F.env = pure false) :
    Exs K F s₀ H Wr σ (.Assign [.Name x px] (.List [] lp) pos :: rest) N R := fun s Q E g sub f kn kr => by
  have zs := f.tkp
  refine wpAny_execs_cons (wpAny_Assign_Name (hs := hsw) (List_ (args_nil (wpAny_newObj_type ?_))))
  obtain ⟨off, new⟩ := f.new_off (Nat.le_refl _)
  have f1 := f.hide (h' := s.heap.push { cls := .type "list", data := .seq (List.toArray []) }) (tk := s.toks) (Kp.push _ _) (Nat.le_refl _) ⟨_, Heap.get?_push_size _ rfl⟩
  refine store_ok (v := .own s.heap.objs.size []) f1 st ⟨rfl, [], ⟨_, Heap.get?_push_size _ rfl⟩, .nil⟩ (fun b hb => by rw [List.mem_singleton.mp hb]; exact off) fun s' f' _ t => ?_
  refine hr _ (fun y v e hm => ?_) (fun hm => ?_) s' Q E g (fun b hb => ?_) f' (fun σ' s'' n f'' t' => kn σ' s'' n f''.bare fun b o hb ho e => t' b o (fun hm => ?_) ho (t b o ho (Heap.get?_push_of_some _ e))) kr
  · obtain ⟨o, e'⟩ := f.fp_live e _ hm
    exact Nat.lt_irrefl _ (Heap.lt_size e')
  · obtain ⟨o, e'⟩ := f.hok _ hm
    exact Nat.lt_irrefl _ (Heap.lt_size e')
  · rcases List.mem_cons.mp hb with rfl | hb
    · exact ⟨List.mem_cons_self, get_none_ge new⟩
    · exact ⟨List.mem_cons_of_mem _ (sub b hb).1, (sub b hb).2⟩
  · rcases List.mem_cons.mp hm with rfl | hm
    · exact Nat.lt_irrefl _ (Heap.lt_size e)
    · exact hb hm
/-- what stands behind none of a list of names -/
theorem fp_out {a : Addr} {σ : Sig} (h : ∀ p ∈ σ, a ∉ p.2.fp) : ∀ y v, σ.lookup y = some v → a ∉ v.fp := by
  induction σ with
  | nil => intro y v e; cases e
  | cons p r ih =>
    obtain ⟨x, u⟩ := p
    intro y v e
    rcases lookup_set e with ⟨rfl, rfl⟩ | ⟨_, e⟩
    · exact h _ List.mem_cons_self
    · exact ih (fun p hp => h p (List.mem_cons_of_mem _ hp)) y v e
end
end
section
open PySem PySem.W PySem.Calls PyProof.Rows
/-- pairs of a display -/
inductive EvPrs (c : Cx) : List (Option Expr) → List Expr → List (Str × D) → Prop
  | nil : EvPrs c [] [] []
  | cons {k v : Expr} {ks : List (Option Expr)} {vs : List Expr} {x : Str} {d : D} {r : List (Str × D)} : EvD c k (.str x) → EvD c v d → EvPrs c ks vs r → EvPrs c (some k :: ks) (v :: vs) ((x, d) :: r)
theorem EvPrs.out {c : Cx} {pos : Pos} : ∀ {ks : List (Option Expr)} {vs : List Expr} {r : List (Str × D)}, EvPrs c ks vs r → ∀ (s : Shared) (Q : List (Value × Value) → Shared → Prop) (E : Value → Shared → Prop), c.I s.heap →
    (∀ ps kvs h' (tk : Tk), Kp s.heap h' → Carries (strKind c.prog c.w) ps kvs → kvs.map (·.1) = r.map (·.1) → Reps c.H h' (kvs.map (·.2)) (r.map (·.2)) → Q ps { s with heap := h', toks := tk.1 }) → ∀ (zs : 0 < s.toks := by first | assumption | exact Subtype.property _ | exact Nat.succ_pos _),
    wpAny c.M c.A (evalPairs (pairTrees ks vs c.env pos)) Q E s
  | _, _, _, .nil, s, Q, E, _, k, zs => pairTrees_nil_walk (k [] [] s.heap ⟨s.toks, zs⟩ (Kp.refl _) trivial rfl .nil)
  | _, _, _, .cons (x := x) hk hv hr, s, Q, E, hI, k, zs => pairTrees_cons_walk ((hk s hI).out _ E fun kv h₁ t₁ k₁ rk => (hv { s with heap := h₁, toks := t₁ } (c.mono hI k₁)).out _ E fun vv h₂ t₂ k₂ rv =>
      EvPrs.out hr { s with heap := h₂, toks := t₂ } _ E (c.mono (c.mono hI k₁) k₂) fun ps kvs h₃ t₃ k₃ hc he hR => by
        cases rk with | str x t =>
        exact k ((.str x t, vv) :: ps) ((x, vv) :: kvs) h₃ t₃ (Kp.trans (Kp.trans k₁ k₂) k₃) ⟨strKind_is c.prog c.w x t, rfl, hc⟩ (by simp [he]) (.cons (Rep.mono k₃ rv) hR))
theorem stored_new {kvs : List (Str × Value)} {k : Str} {v : Value} (h : k ∉ kvs.map (·.1)) : stored kvs k v = kvs ++ [(k, v)] := by
  unfold stored
  rw [if_neg]
  intro q
  obtain ⟨p, hp, e⟩ := List.any_eq_true.mp q
  exact h (List.mem_map.mpr ⟨p, hp, of_decide_eq_true e⟩)
theorem merged_new : ∀ (more acc : List (Str × Value)), (acc.map (·.1) ++ more.map (·.1)).Nodup → merged acc more = acc ++ more
  | [], acc, _ => by simp [merged]
  | (k, v) :: r, acc, h => by
    have h1 : k ∉ acc.map (·.1) := by
      rw [List.nodup_append] at h
      intro hm
      exact h.2.2 k hm k (by simp) rfl
    have e : merged acc ((k, v) :: r) = merged (stored acc k v) r := rfl
    rw [e, stored_new h1, merged_new r (acc ++ [(k, v)]) (by simpa using h)]
    simp
section
variable {K : Frag} {F : Fm} {s₀ : Shared} {H Wr : List Addr} {σ σ' : Sig} {rest : List Stmt} {N : NPost} {R : Heap → Value → Prop}
theorem xs_newdct {x : Str} {px dp pos : Pos} {keys : List (Option Expr)} {values : List Expr} {kds : List (Str × D)} (hp : ∀ H' h (hk : HOK H' h), CK K σ (F.cx H' h hk) → EvPrs (F.cx H' h hk) keys values kds) (hall : keys.all (·.isSome) = true) (hl : keys.length = values.length) (h0 : keys ≠ []) (hlen : keys.length ≤ 15) (hnd : (kds.map (·.1)).Nodup)
    (st : Storable F.env x) (hr : ∀ a, (∀ y v, σ.lookup y = some v → a ∉ v.fp) → a ∉ H → Exs K F s₀ (a :: H) (a :: Wr) ((x, .dct F.prog F.w a kds) :: σ) rest N R) (hsw : swapsWith (.Dict keys values dp) (some (.Name x px)) pos.line F.env = pure false) :
    Exs K F s₀ H Wr σ (.Assign [.Name x px] (.Dict keys values dp) pos :: rest) N R := fun s Q E g sub f kn kr => by
  have zs := f.tkp
  refine wpAny_execs_cons (wpAny_Assign_Name (hs := hsw) (wpAny_Dict_walk (knd := strKind F.prog F.w) hall hl h0 hlen ?_))
  obtain ⟨off, new⟩ := f.new_off (Nat.le_refl _)
  generalize ha : s.heap.objs.size = a at *
  have f1 : FI F s₀ (a :: H) σ { s with heap := s.heap.push { cls := .type "dict", data := .dict #[] }, toks := s.toks } := f.hide (I := a) (Kp.push _ _) (by rw [ha]; exact Nat.le_refl _) ⟨_, by rw [← ha]; exact Heap.get?_push_size _ rfl⟩
  refine (hp (a :: H) _ f1.hok (f1.ck g)).out _ _ E (Kp.refl _) fun ps kvs h₁ t₁ k₁ hc he hR => ?_
  have f2 := f1.grow (tk := t₁) k₁
  have hD : h₁.DictOf (strKind F.prog F.w) a [] := by
    obtain ⟨o, es, ep, e, r⟩ := Heap.DictOf.new (knd := strKind F.prog F.w) s.heap
    exact ⟨o, es, ep, by rw [← ha]; exact k₁ _ _ e, r⟩
  refine ⟨kvs, hc, hD, fun h₂ hD₂ hs₂ => ?_⟩
  have kb : Kb a h₁ h₂ := fun b o hb e => hs₂.extBut b o hb e
  rw [merged_new _ _ (by rw [he]; exact hnd), List.nil_append] at hD₂
  have live : ∃ o, h₂.get? a = some o := by obtain ⟨o, es, ep, e, r⟩ := hD₂; exact ⟨o, e⟩
  have nofp : ∀ y v, σ.lookup y = some v → a ∉ v.fp := fun y v e hm => by
    obtain ⟨o, e'⟩ := f.fp_live e _ hm
    exact Nat.lt_irrefl _ (ha ▸ Heap.lt_size e')
  have zt : 0 < t₁.1 + ps.length := Nat.lt_of_lt_of_le t₁.2 (Nat.le_add_right _ _)
  have f3 : FI F s₀ (a :: H) σ { s with heap := h₂, toks := t₁ + ps.length } := f2.but (tk := t₁ + ps.length) kb (by simp) off new nofp live
  refine store_ok (v := .dct F.prog F.w a kds) f3 st ⟨rfl, kvs, hD₂, he, hR.mono' (fun b o hb e _ => kb b o (fun q => hb (by rw [q]; exact List.mem_cons_self)) e) fun _ _ hb _ _ => hb⟩ (fun b hb => by rw [List.mem_singleton.mp hb]; exact off) fun s' f' _ t => ?_
  refine hr a nofp (fun hm => ?_) s' Q E g (fun b hb => ?_) f' (fun σ' s'' n f'' t' => kn σ' s'' n f''.bare fun b o hb ho e => ?_) kr
  · obtain ⟨o, e'⟩ := f.hok _ hm
    exact Nat.lt_irrefl _ (ha ▸ Heap.lt_size e')
  · rcases List.mem_cons.mp hb with rfl | hb
    · exact ⟨List.mem_cons_self, get_none_ge new⟩
    · exact ⟨List.mem_cons_of_mem _ (sub b hb).1, (sub b hb).2⟩
  · have hba : b ≠ a := fun q => Nat.lt_irrefl _ (by have := Heap.lt_size e; rw [q, ha] at this; exact this)
    exact t' b o (fun hm => (List.mem_cons.mp hm).elim hba hb) ho (t b o ho (kb b o hba (k₁ b o (Heap.get?_push_of_some _ e))))

/-- x[i] = v, a dict of the frame's own -/
theorem xs_putdct {x : Str} {px sp pos : Pos} {i value : Expr} {a : Addr} {kds : List (Str × D)} {kx : Str} {d : D} (hx : σ.lookup x = some (.dct F.prog F.w a kds)) (ha : a ∈ Wr) (hd : (x == ("__debug__" : Str)) = false) (hc : (x == ("__classdict__" : Str)) = false)
    (hv : EvFD K F H σ value d) (hi : EvFD K F H σ i (.str kx)) (hσ : Le σ' σ) (hfp : ∀ y v, σ'.lookup y = some v → a ∉ v.fp) (hz : kds.length ≤ seqMax) (hsw : swapsWith value (some (.Subscript (.Name x px) i sp)) pos.line F.env = pure false)
    (hr : Exs K F s₀ H Wr ((x, .dct F.prog F.w a (putD kds kx d)) :: σ') rest N R) : Exs K F s₀ H Wr σ (.Assign [.Subscript (.Name x px) i sp] value pos :: rest) N R := fun s Q E g sub f kn kr => by
  have zs := f.tkp
  have CK := f.ck g
  refine wpAny_execs_cons (wpAny_Assign_Subscript (hs := hsw) ?_)
  refine (hv s.heap f.hok CK s (Kp.refl _)).out _ E fun v h₁ t₁ k₁ rv => ?_
  refine (ev_nm CK hx hd hc { s with heap := h₁, toks := t₁ } k₁).out _ E fun o h₂ t₂ k₂ r => ?_
  refine (hi s.heap f.hok CK { s with heap := h₂, toks := t₂ } (Kp.trans k₁ k₂)).out _ E fun iv h₃ t₃ k₃ ri => ?_
  obtain ⟨rfl, kvs, hD, hk, hR⟩ := RV.mono r k₃
  cases ri with | str kx t =>
  have kk : Kp s.heap h₃ := Kp.trans (Kp.trans k₁ k₂) k₃
  have rv3 := (Rep.mono k₂ rv).mono k₃
  have hlen : kvs.length ≤ sizeLine := by
    have : kvs.length = kds.length := by
      have := congrArg List.length hk
      simpa using this
    rw [this]; exact seqMax_le hz
  refine wpAny_setItem_pairs (knd := strKind F.prog F.w) (k := kx) (strKind_is F.prog F.w kx t) hD (fun h₄ hD₄ hs₄ => ?_) hlen
  obtain ⟨p1, p2⟩ := put_ok (k := kx) rv3 hk hR
  have kb : Kb a h₃ h₄ := fun b o hb e => hs₄.extBut b o hb e
  have hH := (sub a ha).1
  have f3 := (f.grow (tk := t₃) kk).setOb (P' := dctP F.prog F.w a (putD kds kx d)) (tk := t₃ + 1) hx rfl (by simp [dctP]) hσ hfp kb hH (sub a ha).2 ⟨_, hD₄, p1, p2.mono' (fun b o hb e _ => kb b o (fun q => hb (q ▸ hH)) e) fun _ _ hb _ _ => hb⟩
  exact hr _ Q E g sub f3 (fun σ' s'' n f'' t' => kn σ' s'' n f'' fun b o hb ho e => t' b o hb ho (kb b o (fun q => hb (q ▸ ha)) (kk b o e))) kr
end
end
section
open PySem PySem.W PySem.Calls PyProof.Rows
/-- the same of a call's code -/
theorem YlM.code {prog : Program} {w : World} {A : Around} {f l : Addr} {o : Obj} {fd : FuncData} {body : List Stmt} {rs : List Value} {kw : List (Str × Value)} {σ : Sig} {N : NPost} {R : Heap → Value → Prop} {K : Frag} {s : Shared} {H : List Addr} {R' : Result → Shared → Prop} (zs : 0 < s.toks)
    (hh : A.handled = none) (hroom : A.depth + 1 ≤ 900) (hu : A.units + 3 + 100 < cLine) (G : Gd K s.heap) (hk : HOK H s.heap) (hl : l ∈ H) (hG : Gd K (hidS s l).heap)
    (ho : K.lookup f = some o) (hd : o.data = .func fd) (hcd : codeIn K fd.code fd.qualname = true) (hbody : fd.body = .stmts body) (hclo : fd.closure = []) (hglob : fd.globals = mainGlobals) (hbi : fd.builtins = builtinsNs)
    (hco : fd.scope.isCoroutine = false) (hgen : fd.scope.isGenerator = false) (hkind : fd.scope.kind = .function) {binds : List (Str × Value)} (hbind : BindsTo s fd ⟨rs, kw⟩ binds) (hv : BindV H s.heap binds σ)
    (hkinds : (σ.all fun y => fd.scope.names.lookup y.1 == some .local || fd.scope.names.lookup y.1 == some .cell) = true) (hnd : (σ.map (·.1)).Nodup)
    (hx : ∀ L, Exs K (frm prog w A fd L f hh hu hkind hglob hbi) (hidS s l) H [l] σ body N R) (hN : ∀ L σ' s', N σ' → FI (frm prog w A fd L f hh hu hkind hglob hbi) (hidS s l) H σ' s' → R s'.heap .none)
    (k : ∀ v h' (tk : Tk), Kb l s.heap h' → R h' v → R' (.ok (.ret v)) { s with heap := h', toks := tk.1 }) : codeAny (model prog w) A (.call (.ref f) ⟨rs, kw⟩) R' s := by
  refine codeAny_pos zs (codeAny_call_function (Nat.lt_of_le_of_lt (Nat.le_of_succ_le hroom) (by decide)) (G.kin _ _ ho) hd hco hgen hbody (codeRec_of G.kin hcd) (hbind _ _ _ _ ?_))
  rw [hclo]
  have names : ∀ {bs : List (Str × Value)} {τ : Sig}, BindV H s.heap bs τ → bs.map (·.1) = τ.map (·.1) := by
    intro bs τ b
    induction b with
    | nil => rfl
    | cons _ _ ih => simp [ih]
  have hn := names hv
  have hkinds' : (binds.all fun y => fd.scope.names.lookup y.1 == some .local || fd.scope.names.lookup y.1 == some .cell) = true := by
    rw [List.all_eq_true] at hkinds ⊢
    intro y hy
    have : y.1 ∈ σ.map (·.1) := by rw [← hn]; exact List.mem_map_of_mem hy
    obtain ⟨z, hz, e⟩ := List.mem_map.mp this
    rw [← e]; exact hkinds z hz
  refine wpAny_pos zs (wpAny_newFunctionEnv_cells hkind (kindsX hkinds' _) fun env he s' x z => ?_)
  subst he
  have kk := x.toInCall.keep
  refine ⟨G.lim.keeps kk, codeAny_func ?_⟩
  have f0 : FI (frm prog w A fd s.heap.objs.size f hh hu hkind hglob hbi) (hidS s l) H σ s' := by
    obtain ⟨⟨⟨h2, t2, rfl⟩, ns, kp, fr⟩, cell, ap, ab⟩ := x
    have hlive : ∀ {v : V} {r : Value}, RV H s.heap r v → ∀ b ∈ v.fp, ∃ o, s.heap.get? b = some o := fun {v r} rv b hb => by
      cases v with
      | d _ => cases hb
      | ob a P => exact P.live _ _ rv.2 b hb
    refine ⟨⟨_, _, ⟨⟨⟨h2, t2, rfl⟩, ns, fun b o e => kk b o (of_hideAll _ e), Nat.le_trans (Nat.le_of_eq (hideAll_size _ _)) fr⟩, cell, ap, ab⟩, fun y v e => ?_⟩, hk.mono kk, z⟩
    obtain ⟨r, hb, rv⟩ := hv.get e
    refine ⟨?_, fun b hb => ?_⟩
    · have hmem : (y, r) ∈ binds := mem_of_lookup hb
      rcases kindsX hkinds' (s.heap.objs.size + 1) _ hmem with hl | ⟨hc, hs⟩
      · exact .inl ⟨hl, r, bindL_get hl _ _ (by rw [hn]; exact hnd) hb, rv.mono kk⟩
      · obtain ⟨c, hc'⟩ := Option.isSome_iff_exists.mp hs
        exact .inr ⟨hc, c, r, hc', bindC_get hc _ _ (by rw [hn]; exact hnd) hb, rv.mono kk⟩
    · obtain ⟨o', e'⟩ := hlive rv b hb
      have hlt := Heap.lt_size e'
      exact ⟨Nat.ne_of_lt hlt, fun z c hz => Nat.ne_of_lt (Nat.lt_trans hlt (ab z c (mem_of_lookup hz)))⟩
  refine hx s.heap.objs.size s' _ _ hG (fun b hb => ?_) f0 (fun σ' s'' n f'' _ => ?_) (fun r s'' a rr => ?_)
  · rw [List.mem_singleton.mp hb]
    exact ⟨hl, hideAll_none [l] (by simp)⟩
  · obtain ⟨h', tk, e, kk⟩ := f''.after
    have e2 : s'' = { s with heap := h', toks := tk } := e
    have rr := hN _ _ _ n f''
    subst e2
    intro z
    exact k _ _ ⟨_, z⟩ (kb_of_hide kk) rr
  · obtain ⟨h', tk, e, kk⟩ := a
    have e2 : s'' = { s with heap := h', toks := tk } := e
    subst e2
    intro z
    exact k _ _ ⟨_, z⟩ (kb_of_hide kk) rr

/-- an own object without attributes, and a list of its own -/
noncomputable def rawP (C x dx l : Addr) : HP where
  fp := [x, dx, l]
  p := fun H h => h.get? x = some (instObj C dx) ∧ h.get? dx = some (dictOf [] 0) ∧ h.PlainList l #[]
  mono := fun H H' h h' ⟨a, b, n2, e⟩ hk hH => ⟨hk _ _ a (.inl (by simp)), hk _ _ b (.inl (by simp)), n2, hk _ _ e (.inl (by simp))⟩
  live := fun H h ⟨a, b, n2, e⟩ b' hb => by
    simp only [List.mem_cons, List.not_mem_nil, or_false] at hb
    rcases hb with rfl | rfl | rfl
    · exact ⟨_, a⟩
    · exact ⟨_, b⟩
    · exact ⟨_, e⟩
theorem osa_new {prog : Program} {w : World} {A : Around} {K : Frag} {C x dx : Addr} {s : Shared} {R : Result → Shared → Prop} {name : Str} {tk : Tok} {v : Value} (X : K.In s.heap) (hx : s.heap.get? x = some (instObj C dx)) (D : s.heap.get? dx = some (dictOf [] 0)) (hp : plainOver K C = true) (ht : takerIn K C name = some none) (hh : hasDictIn K C = true)
    (h : R (.ok (.ret .none)) { s with heap := s.heap.update dx (Obj.putName name (PyData.keyHash w.params name) (.str name s.toks) v), toks := s.toks + 1 }) : codeAny (model prog w) A (.call (.builtin "object.__setattr__") ⟨[.ref x, .str name tk, v], []⟩) R s := by
  have I : InstAt s.heap x (instObj C dx) C (some (dictOf [] 0)) := ⟨hx, rfl, rfl, D⟩
  refine osa_open X I hp ht fun b => ?_
  obtain ⟨cd, hc, hd'⟩ := any_some hh
  have eo : Obj.putName name (PyData.keyHash w.params name) (.str name s.toks) v (dictOf [] 0) = dictOf [⟨PyData.keyHash w.params name, .str name s.toks, v⟩] 1 := by rw [putName_dict]; rfl
  have D' : (s.heap.update dx (Obj.putName name (PyData.keyHash w.params name) (.str name s.toks) v)).get? dx = some (dictOf [⟨PyData.keyHash w.params name, .str name s.toks, v⟩] 1) := by
    rw [Heap.get?_update_self _ D (by rw [eo]; rfl), eo]
  refine wpAny_bind (wpAny_pure (wpAny_bind (wpAny_bind (wpAny_loadPart hx (wpAny_bind ((looks_clsIn X hc).here ?_))))))
  rw [hd']
  refine wpAny_pure (a := some dx) (wpAny_bind (wpAny_pure (wpAny_bind ?_)))
  unfold nsSet
  refine wpAny_bind (wpAny_bind (wpAny_askSetting (wpAny_pure (wpAny_bind (wpAny_mkText (wpAny_bind (wpAny_loadPart D ?_)))))))
  have c : (!(#[] : Array DictEntry).any (·.key.isStr name) && (#[] : Array DictEntry).any (·.refKey)) = false := by simp
  show wpAny _ _ (if aRefKeyMayBeTheName name #[] = true then _ else _) _ _ _
  rw [aRefKeyMayBeTheName_at, c]
  refine wpAny_updatePart D ?_
  refine wpAny_bind (wpAny_lookBehind D' (pastItsLine_dict (by rw [List.size_toArray, sizeLine_eq]; show 1 ≤ _; omega)) ?_)
  exact wpAny_pure h
end
section
open PySem PySem.W PySem.Calls PyProof.Rows
section
variable {K : Frag} {σ : Sig} {c : Cx}
theorem ev_debug {pos : Pos} : EvD c (.Name "__debug__" pos) (.bool true) := fun s _ => Ylds.of (fun zs Q E k => by
  rw [show eval (.Name "__debug__" pos) c.env = (do standAt pos; debugConstant) from rfl]
  exact wpAny_bind (wpAny_standAt (wpAny_bind (wpAny_rule (wpAny_pure (k _ _ s.toks (Kp.refl _) (.bool true)))))))
/-- an object is not None -/
theorem et_obnn {l r : Expr} {pos : Pos} {a : Addr} {P : HP} (hm : behindInMarks .IsNot r = false) (hl : EvV c l (.ob a P)) (hr : EvD c r .none) : EvT c (.Compare l [.IsNot] [r] pos) true :=
  fun s zs Q E hI k => wpAny_isTrue_Compare1 ((hl s hI).out _ E fun va h₁ t₁ k₁ ra => (hr _ (c.mono hI k₁)).out _ E fun vb h₂ t₂ k₂ rb => by
    obtain ⟨rfl, _⟩ := ra
    cases rb
    exact isNot_none (wpAny_truthy_bool (k h₂ t₂ (k₁.trans k₂)))) hm
/-- type(x) is not list, of a list -/
theorem et_typenot {x y : Str} {nx ny cp pos : Pos} {e : Expr} {l : Addr} {ds : List D} (k : CK K σ c) (h1 : Bi K c x (.type "type")) (h2 : Bi K c y (.type "list")) (hs : starEach [e] c.env = [(false, eval e c.env)]) (he : EvV c e (.own l ds)) (hm : behindInMarks .IsNot (.Name y ny) = false) :
    EvT c (.Compare (.Call (.Name x nx) [e] [] cp) [.IsNot] [.Name y ny] pos) false := by
  have key : EvR c (.Call (.Name x nx) [e] [] cp) (fun _ v => v = .type "list") := ev_callT (h1.ev k) (v := .own l ds) (vs := []) (.cons hs he .nil) fun s rs hI q => by
    cases q with | cons q qs =>
    cases qs
    obtain ⟨rfl, vs, hp, hr⟩ := q
    exact Ylds.of (fun zs Q E kk => call_type_of hp.isList.typeIs (by decide) (kk _ _ s.toks (Kp.refl _) rfl))
  intro s zs Q E hI kk
  refine wpAny_isTrue_Compare1 ((key s hI).out _ E fun va h₁ t₁ k₁ ra => ((h2.ev k) _ (c.mono hI k₁)).out _ E fun vb h₂ t₂ k₂ rb => ?_) hm
  subst ra rb
  exact wpAny_pure (a := Value.bool false) (wpAny_truthy_bool (kk h₂ t₂ (k₁.trans k₂)))
end
section
variable {K : Frag} {F : Fm} {s₀ : Shared} {H Wr : List Addr} {σ σ' : Sig} {rest : List Stmt} {N : NPost} {R : Heap → Value → Prop} {C a dx l : Addr}
/-- x._headers = y, the first time -/
theorem xs_setattr {x y : Str} {px py ap pos : Pos} (hx : σ.lookup x = some (.ob a (rawP C a dx l))) (hy : σ.lookup y = some (.own l [])) (hw : dx ∈ Wr) (hd : (x == ("__debug__" : Str)) = false) (hc : (x == ("__classdict__" : Str)) = false) (hd2 : (y == ("__debug__" : Str)) = false) (hc2 : (y == ("__classdict__" : Str)) = false)
    (hsa : findIn K (.ref C) "__setattr__" = some (some (.builtin "object.__setattr__"))) (hp : plainOver K C = true) (ht : takerIn K C hdr = some none) (hh : hasDictIn K C = true) (hσ : Le σ' σ) (hfp : ∀ y v, σ'.lookup y = some v → dx ∉ v.fp)
    (hsw : swapsWith (.Name y py) (some (.Attribute (.Name x px) hdr ap)) pos.line F.env = pure false)
    (hr : Exs K F s₀ H Wr ((x, .book C a dx l []) :: σ') rest N R) : Exs K F s₀ H Wr σ (.Assign [.Attribute (.Name x px) hdr ap] (.Name y py) pos :: rest) N R := fun s Q E g sub f kn kr => by
  have zs := f.tkp
  have CK := f.ck g
  refine wpAny_execs_cons (plainObj_wpAny_Assign_Attribute (hs := hsw) ?_)
  refine (ev_nm CK hy hd2 hc2 s (Kp.refl _)).out _ E fun v h₁ t₁ k₁ rv => ?_
  refine (ev_nm CK hx hd hc { s with heap := h₁, toks := t₁ } k₁).out _ E fun o h₂ t₂ k₂ r => ?_
  obtain ⟨rfl, _⟩ := rv
  obtain ⟨rfl, hxa, hdx, hpl⟩ := r
  have kk : Kp s.heap h₂ := Kp.trans k₁ k₂
  have X := ((f.gd g).mono kk).kin
  have I : W.InstAt h₂ a (instObj C dx) C (some (dictOf [] 0)) := ⟨hxa, rfl, rfl, hdx⟩
  refine set_plain (s := { s with heap := h₂, toks := t₂ }) X I hsa (osa_new X hxa hdx hp ht hh ?_)
  have kb : Kb dx h₂ (h₂.update dx (Obj.putName hdr (PyData.keyHash F.w.params hdr) (.str hdr (t₂ + 1)) (.ref l))) := fun b o hb e => (Heap.get?_update_ne _ _ _ _ hb).trans e
  have eo : Obj.putName hdr (PyData.keyHash F.w.params hdr) (.str hdr (t₂ + 1)) (.ref l) (dictOf [] 0) = dictOf [⟨PyData.keyHash F.w.params hdr, .str hdr (t₂ + 1), .ref l⟩] 1 := by rw [putName_dict]; rfl
  have D' : (h₂.update dx (Obj.putName hdr (PyData.keyHash F.w.params hdr) (.str hdr (t₂ + 1)) (.ref l))).get? dx = some (dictOf [⟨PyData.keyHash F.w.params hdr, .str hdr (t₂ + 1), .ref l⟩] 1) := by
    rw [Heap.get?_update_self _ hdx (by rw [eo]; rfl), eo]
  have nxa : a ≠ dx := fun q => by
    rw [q, hdx] at hxa
    have z : Value.type "dict" = Value.ref C := congrArg Obj.cls (Option.some.inj hxa)
    cases z
  have nl : l ≠ dx := fun q => by
    obtain ⟨n, e⟩ := hpl
    rw [q, hdx] at e
    have z : Value.type "dict" = Value.type "list" := congrArg Obj.cls (Option.some.inj e)
    exact absurd z (by decide)
  have f3 := (f.grow (tk := t₂) kk).setOb (P' := bookP C a dx l []) (tk := t₂ + 2) hx rfl (by simp [rawP]) hσ hfp kb (sub dx hw).1 (sub dx hw).2 ⟨kb _ _ nxa hxa, ⟨_, _, _, D'⟩, [], hpl.at fun o e => kb _ _ nl e, .nil⟩
  exact hr _ Q E g sub f3 (fun σ' s'' n f'' t' => kn σ' s'' n f'' fun b o hb ho e => t' b o hb ho (kb b o (fun q => hb (q ▸ hw)) (kk b o e))) kr
theorem xs_assignV {e : Expr} {x y : Str} {px pos : Pos} {v : V} (hy : σ.lookup y = some v) (he : EvF K F H σ e (fun h r => RV H h r v)) (hsw : swapsWith e (some (.Name x px)) pos.line F.env = pure false) (st : Storable F.env x)
    (hr : Exs K F s₀ H Wr ((x, v) :: σ) rest N R) : Exs K F s₀ H Wr σ (.Assign [.Name x px] e pos :: rest) N R := fun s Q E g sub f kn kr => by
  have zs := f.tkp
  have off : ∀ b ∈ v.fp, offFrame F.env b := by
    obtain ⟨⟨m, cm, ic, hv⟩, hk, _⟩ := f
    exact (hv y v hy).2
  exact xs_assign he hsw st off hr s Q E g sub f kn kr
end
end
section
open PySem PySem.W PySem.Calls PyProof.Rows PySem.SeqAt
theorem ints_of {H : List Addr} {h : Heap} : ∀ {vs : List Value} {ns : List Int}, Reps H h vs (ns.map .int) → ∃ xs : List (Int × Tok), vs = xs.map (fun p => Value.int p.1 p.2) ∧ xs.map (·.1) = ns
  | _, [], .nil => ⟨[], rfl, rfl⟩
  | _, n :: ns, .cons r rs => by
    obtain ⟨xs, e1, e2⟩ := ints_of rs
    cases r with | int i t =>
    exact ⟨(n, t) :: xs, by rw [e1]; rfl, by rw [← e2]; rfl⟩
section
variable {K : Frag} {σ : Sig} {c : Cx}
theorem ev_sumof {x : Str} {np pos : Pos} {e : Expr} {ns : List Int} (k : CK K σ c) (h : Bi K c x (.builtin "sum")) (hs : starEach [e] c.env = [(false, eval e c.env)]) (he : EvD c e (.lst (ns.map .int))) :
    EvD c (.Call (.Name x np) [e] [] pos) (.int ns.sum) :=
  ev_callB (h.ev k) (v := .d (.lst (ns.map .int))) (vs := []) (.cons hs he .nil) fun s rs hI q => by
    cases q with | cons q qs =>
    cases qs
    have q : Rep c.H s.heap _ (.lst (ns.map .int)) := q
    cases q with | @lst a vs _ ha hl hr =>
    obtain ⟨xs, e1, e2⟩ := ints_of hr
    have hl' : s.heap.IsList a (intItems xs.toArray) := by
      have : vs.toArray = intItems xs.toArray := by rw [e1]; simp [intItems]
      rw [← this]; exact hl
    refine Ylds.of fun zs Q E k => sum_intListG c.hh hl' fun h' tk t' hk => k _ _ _ hk ?_
    rw [preSum_eq, List.take_of_length_le (by simp)]
    simp only [e2]
    exact .int _ _
/-- a call of a method of the book without arguments, that only reads -/
theorem ev_methB0 {o : Expr} {name : Str} {apos pos : Pos} {C x dx l f : Addr} {ds : List D} {R : Heap → Value → Prop} {pl : Sem Bool} (k : CK K σ c) (ho : EvV c o (.book C x dx l ds))
    (he : eval (.Call (.Attribute o name apos) [] [] pos) c.env = (do
      let ov ← eval o c.env
      standAt apos.atName
      let (f, first) ← holding [ov] (getMethod ov name pl)
      callWith pos f first (backTo pos (starEach [] c.env)) []))
    (hg : plainGet K C name = true) (hf : findIn K (.ref C) name = some (some (.ref f))) (ht : isFn K (.ref f) = true) (hk : keepIn K (.ref f) = true) (hn : (Value.str hdr 0).isStr name = false)
    (hc : ∀ s, c.I s.heap → RV c.H s.heap (.ref x) (.book C x dx l ds) → Ylds c.M c.A (call (.ref f) [.ref x]) R s) : EvR c (.Call (.Attribute o name apos) [] [] pos) R := by
  intro s hI
  refine Ylds.of (fun zs Q E q => MethodCall_ ((ho s hI).out _ E fun ov h₁ t₁ k₁ r => ?_) he)
  obtain ⟨rfl, B⟩ := r
  have B : BookIs C x dx l ds c.H h₁ := B
  obtain ⟨eds, m, I, hl, hl'⟩ := B.inst
  have G := k.gd _ (c.mono hI k₁)
  refine method_fn G.kin I (plainGet_of hg).1 (plainGet_of hg).2 hf (beq_iff_eq.mp ht) (by show (lookIn name (dictOf eds m)).map _ = _; rw [lookIn_dict, hl' name hn]; rfl) ?_
  exact callWith_K0 G.kin hk ((hc { s with heap := h₁, toks := t₁ } (c.mono hI k₁) ⟨rfl, B⟩).out Q E fun r h₃ t₃ k₃ p => q r h₃ t₃ (k₁.trans k₃) p)
end
noncomputable abbrev NB (h : Heap) : Prop := ∃ mc, h.Ns cStatics mc ∧ mc sharingNotToldKey = none
theorem told {M : Model} {A : Around} {E : Value → Shared → Prop} {s : Shared} {t : Tok} {Q : Bool → Shared → Prop} (hb : NB s.heap) (h : Q false s) : wpAny M A (sharingNotTold t) Q E s := by
  obtain ⟨mc, hn, e⟩ := hb
  unfold sharingNotTold
  refine wpAny_bind (wpAny_nsGet hn ?_)
  rw [e]
  exact wpAny_pure h
noncomputable def okF (b : UInt64) : Bool := (Float64.cmp b b == some Ordering.eq) && !Float64.isNaN b
theorem eqAt_flt {A : Around} {s : Shared} {b : UInt64} {t u : Tok} (ht : t ≠ 0) (hu : u ≠ 0) (hb : okF b = true) (nb : NB s.heap) : EqAt A s (.float b t) (.float b u) true := fun prog w E Q h => by
  obtain ⟨h1, h2⟩ := Bool.and_eq_true_iff.mp hb
  have fin : wpAny (model prog w) A (richCompare .Eq (.float b t) (.float b u) >>= truthOfDropped) Q E s := by
    refine wpAny_bind (AutoFloatOps.eq_0 ?_)
    rw [h1]
    exact wpAny_truthy_bool h
  unfold eqBool
  refine wpAny_holding ?_
  refine wpAny_ite_split (fun hab => wpAny_bind (wpAny_rule (wpAny_pure h))) (fun _ => ?_)
  show wpAny (model prog w) A (isSame.created (b == b && !Float64.isNaN b) t u >>= fun r => if r = true then pure true else (richCompare .Eq (.float b t) (.float b u) >>= truthOfDropped)) Q E s
  have e : (b == b && !Float64.isNaN b) = true := by rw [h2]; simp
  rw [e]
  refine wpAny_bind ?_
  unfold isSame.created
  have e0 : (t == 0 || u == 0) = false := by
    rw [beq_eq_false_iff_ne.mpr ht, beq_eq_false_iff_ne.mpr hu]; rfl
  rw [e0]
  simp only [Bool.false_eq_true, if_false, Bool.not_true]
  refine wpAny_ite ?_
  split
  · exact wpAny_pure (by simpa using wpAny_pure h)
  refine wpAny_bind (told nb ?_)
  simp only [Bool.false_eq_true, if_false]
  refine wpAny_bind (told nb ?_)
  simp only [Bool.false_eq_true, if_false]
  refine wpAny_bind (wpAny_rule (wpAny_bind (wpAny_askSetting (wpAny_pure ?_))))
  split
  · exact wpAny_pure h
  · exact fin
end
section
open PySem PySem.W PyProof.Rows PySem.Calls
/-- a row by what stands behind the opening: the walk may see the state there, its tokens too -/
theorem head_of {r : OpenRow} {q : Program} {loose : List Str} {Xt : Shared → Bool} {XP : (Str → Option Value) → Heap → Prop} {α : Type} {Yf : Shared → α} {Ya : World → α} {N : Nat} {f : Value}
    (left : LeftO r.prog q loose Xt Yf Ya N) (hX : ∀ s, Xt s = true → XP (s.heap.nsMap mainGlobals) s.heap) (hXk : ∀ mg h h', XP mg h → (∀ b o, h.get? b = some o → h'.get? b = some o) → XP mg h')
    (hRf : ∀ s, Xt s = true → RecFacts r.records s.heap) (hwr : (!r.writes || r.records.isEmpty) = true)
    (k1 : r.wellSaid = true) (ok : (chainsOk q && opensWell r.prog && (frees r.toRowW && r.within.isEmpty)) = true) (hb : r.prog.bare) (hw : r.toRowW.promised)
    (pin : ∀ w s, Yf s = Ya w → s.heap.isNs mainGlobals = true → Ground q loose [] XP w s (s.heap.nsMap mainGlobals) (s.heap.nsMap builtinsNs) s.heap → ∀ n ∈ (if r.pinned then [r.name] else []), isTheDefsW r.prog s.heap n)
    (call : ∀ (w : World) (s s₁ : Shared) (mg mb : Str → Option Value), Ground q loose r.records XP w s mg mb s₁.heap → Yf s = Ya w → ∀ (args : List WData) (vs : List Value) (as : List Addr),
      r.claim.pre args = true → WData.layableAll args = true → Laid r.records w s s₁ args vs as → mg r.name = some f ∧
        wpAny (model r.prog w) callerA (PySem.call f vs) (fun v s' => GoodWG r.claim (classAt s.heap) (ExcName.means s.heap) args s₁ (.ok (.ret v)) s') (fun e s' => GoodWG r.claim (classAt s.heap) (ExcName.means s.heap) args s₁ (.error e) s') s₁) : r.Holds := by
  obtain ⟨ok1, ok2⟩ := Bool.and_eq_true_iff.mp ok
  obtain ⟨hch, ow⟩ := Bool.and_eq_true_iff.mp ok1
  obtain ⟨fr, wi⟩ := Bool.and_eq_true_iff.mp ok2
  obtain ⟨p1, p2, p3, p4, p5⟩ := frees_parts fr
  refine ⟨k1, hw, ⟨hb, ow, by show r.makers.map _ = []; rw [p5]; rfl⟩, hw.witness, fun w => ?_⟩
  have B := left.behind (XP := fun mg h => XP mg h ∧ RecFacts r.records h) (fun s hs => ⟨hX s hs, hRf s hs⟩) hch w
  refine ⟨B.1, fun s' hs' => ?_⟩
  obtain ⟨s₀, hf, hg0, s, hT, hz, hgens, hg, g, y⟩ := B.2 s' hs'
  have G0 : Ground q loose [] XP w s (s.heap.nsMap mainGlobals) (s.heap.nsMap builtinsNs) s.heap := { g with X := g.X.1 }
  have RF := g.X.2
  have G := RF.ground G0
  have hgens : s.gens = #[] := Array.eq_empty_of_size_eq_zero (beq_iff_eq.mp hgens)
  refine ⟨s₀, hf, hg0, s, hT, pin w s y hg G0, RF.1, RF.2.1, ClaimW.callFrom_of_specG hz hgens fun args hpre hlay ord hord => ?_⟩
  obtain ⟨⟨vs, s₁⟩, hlaid⟩ := Option.isSome_iff_exists.mp (layAllW_isSome (P := w.params) (ord := ord) G.has args r.args s (pre_splitW hpre).1)
  have al := layAllW_rest _ _ _ hlaid
  obtain ⟨as, rd, hin, hold⟩ := reads_layAllW hord _ _ _ hlaid hlay s₁.heap (fun _ _ e => e)
  have L : Laid r.records w s s₁ args vs as := ⟨⟨ord, hord, hlaid⟩, rd, hin, hold, layAllW_keeps _ _ _ hlaid, al.1.trans hgens, al.2.2.1⟩
  have G₁ := G.keeps hXk L.keeps
  obtain ⟨hm, h⟩ := call w s s₁ _ _ G₁ y args vs as hpre hlay L
  have fin : ∀ {res : Result} {s'' : Shared}, GoodWG r.claim (classAt s.heap) (ExcName.means s.heap) args s₁ res s'' → _ := fun g' => g'.laid (c := r.claim) p1 (List.isEmpty_iff.mp wi) (ident_freeW p2 p3 p4) L
  refine ⟨vs, s₁, hlaid, wpAny_bind (wpAny_nsGet G₁.T.g ?_)⟩
  rw [hm]
  refine wpAny_bind (wpAny_mono h (fun v s'' g' => wpAny_pure ⟨_, rfl, (fin g').1, (fin g').2.1, (fin g').2.2, fun e => ⟨namesKept_of hT hg r.keeps L.keeps g'.2.1.old, noTable hwr e⟩⟩) fun e s'' g' => ⟨(fin g').1, (fin g').2.1, (fin g').2.2, fun e => ⟨namesKept_of hT hg r.keeps L.keeps g'.2.1.old, noTable hwr e⟩⟩)
end
section
open PySem PySem.W PySem.Calls PyProof.Rows
noncomputable section
noncomputable abbrev pw : Program := PySem.Challenge.pw_wf0089_01
noncomputable def stAt (l : List Stmt) (i : Nat) : Stmt := (l[i]?).getD (.Pass ⟨0, 0, 0, 0⟩)
noncomputable def fArgs : Stmt → Arguments
  | .FunctionDef _ a _ _ _ _ _ _ _ _ => a
  | _ => { posonlyargs := [], args := [], vararg := none, kwonlyargs := [], kw_defaults := [], kwarg := none, defaults := [] }
noncomputable def fBody : Stmt → List Stmt
  | .FunctionDef _ _ b _ _ _ _ _ _ _ => b
  | .ClassDef _ _ _ b _ _ _ _ _ _ _ => b
  | _ => []
noncomputable def fScope : Stmt → Scope
  | .FunctionDef _ _ _ _ _ _ s _ _ _ => s
  | _ => { kind := .function, names := [], isGenerator := false, isCoroutine := false, more := [] }
noncomputable def stm (i : Nat) : Stmt := stAt pw.main.body i
noncomputable def mth (i : Nat) : Stmt := stAt (fBody (stm 65)) i
noncomputable def fnD (name qual : Str) (st : Stmt) (dV pm cd : Value) : FuncData := { name := name, qualname := qual, params := fArgs st, body := .stmts (fBody st), scope := fScope st, globals := 3, closure := [], defaults := dV, kwdefaults := .none, pyModule := pm, code := cd }

noncomputable def o3 (P : Params) : Obj := { cls := Value.type "dict", data := Data.dict #[{ hash := PyData.keyHash P (Str.ofString "__name__"), key := Value.str (Str.ofString "__name__") 165, val := Value.str (Str.ofString "law_wf0089_01") 805 }, { hash := PyData.keyHash P (Str.ofString "__doc__"), key := Value.str (Str.ofString "__doc__") 166, val := Value.none }, { hash := PyData.keyHash P (Str.ofString "__package__"), key := Value.str (Str.ofString "__package__") 167, val := Value.none }, { hash := PyData.keyHash P (Str.ofString "__loader__"), key := Value.str (Str.ofString "__loader__") 168, val := Value.builtin "__main__.__loader__#\x6fpaque" }, { hash := PyData.keyHash P (Str.ofString "__spec__"), key := Value.str (Str.ofString "__spec__") 169, val := Value.none }, { hash := PyData.keyHash P (Str.ofString "__annotations__"), key := Value.str (Str.ofString "__annotations__") 170, val := Value.ref 6 }, { hash := PyData.keyHash P (Str.ofString "__builtins__"), key := Value.str (Str.ofString "__builtins__") 171, val := Value.ref 4 }, { hash := PyData.keyHash P (Str.ofString "__file__"), key := Value.str (Str.ofString "__file__") 173, val := Value.str (Str.ofString "/claim/cut.py") 172 }, { hash := PyData.keyHash P (Str.ofString "__cached__"), key := Value.str (Str.ofString "__cached__") 174, val := Value.none }, { hash := PyData.keyHash P (Str.ofString "_sre"), key := Value.str (Str.ofString "_sre") 275, val := Value.ref 12 }, { hash := PyData.keyHash P (Str.ofString "_wall"), key := Value.str (Str.ofString "_wall") 288, val := Value.ref 38 }, { hash := PyData.keyHash P (Str.ofString "TICK"), key := Value.str (Str.ofString "TICK") 292, val := Value.str (Str.ofString "'") 291 }, { hash := PyData.keyHash P (Str.ofString "decode_rfc2231"), key := Value.str (Str.ofString "decode_rfc2231") 300, val := Value.ref 45 }, { hash := PyData.keyHash P (Str.ofString "rgb_to_hsv"), key := Value.str (Str.ofString "rgb_to_hsv") 320, val := Value.ref 52 }, { hash := PyData.keyHash P (Str.ofString "hsv_to_rgb"), key := Value.str (Str.ofString "hsv_to_rgb") 334, val := Value.ref 59 }, { hash := PyData.keyHash P (Str.ofString "LPAR"), key := Value.str (Str.ofString "LPAR") 338, val := Value.int 7 337 }, { hash := PyData.keyHash P (Str.ofString "RPAR"), key := Value.str (Str.ofString "RPAR") 340, val := Value.int 8 339 }, { hash := PyData.keyHash P (Str.ofString "LSQB"), key := Value.str (Str.ofString "LSQB") 342, val := Value.int 9 341 }, { hash := PyData.keyHash P (Str.ofString "RSQB"), key := Value.str (Str.ofString "RSQB") 344, val := Value.int 10 343 }, { hash := PyData.keyHash P (Str.ofString "COLON"), key := Value.str (Str.ofString "COLON") 346, val := Value.int 11 345 }, { hash := PyData.keyHash P (Str.ofString "COMMA"), key := Value.str (Str.ofString "COMMA") 348, val := Value.int 12 347 }, { hash := PyData.keyHash P (Str.ofString "SEMI"), key := Value.str (Str.ofString "SEMI") 350, val := Value.int 13 349 }, { hash := PyData.keyHash P (Str.ofString "PLUS"), key := Value.str (Str.ofString "PLUS") 352, val := Value.int 14 351 }, { hash := PyData.keyHash P (Str.ofString "MINUS"), key := Value.str (Str.ofString "MINUS") 354, val := Value.int 15 353 }, { hash := PyData.keyHash P (Str.ofString "STAR"), key := Value.str (Str.ofString "STAR") 356, val := Value.int 16 355 }, { hash := PyData.keyHash P (Str.ofString "SLASH"), key := Value.str (Str.ofString "SLASH") 358, val := Value.int 17 357 }, { hash := PyData.keyHash P (Str.ofString "VBAR"), key := Value.str (Str.ofString "VBAR") 360, val := Value.int 18 359 }, { hash := PyData.keyHash P (Str.ofString "AMPER"), key := Value.str (Str.ofString "AMPER") 362, val := Value.int 19 361 }, { hash := PyData.keyHash P (Str.ofString "LESS"), key := Value.str (Str.ofString "LESS") 364, val := Value.int 20 363 }, { hash := PyData.keyHash P (Str.ofString "GREATER"), key := Value.str (Str.ofString "GREATER") 366, val := Value.int 21 365 }, { hash := PyData.keyHash P (Str.ofString "EQUAL"), key := Value.str (Str.ofString "EQUAL") 368, val := Value.int 22 367 }, { hash := PyData.keyHash P (Str.ofString "DOT"), key := Value.str (Str.ofString "DOT") 370, val := Value.int 23 369 }, { hash := PyData.keyHash P (Str.ofString "PERCENT"), key := Value.str (Str.ofString "PERCENT") 372, val := Value.int 24 371 }, { hash := PyData.keyHash P (Str.ofString "LBRACE"), key := Value.str (Str.ofString "LBRACE") 374, val := Value.int 25 373 }, { hash := PyData.keyHash P (Str.ofString "RBRACE"), key := Value.str (Str.ofString "RBRACE") 376, val := Value.int 26 375 }, { hash := PyData.keyHash P (Str.ofString "EQEQUAL"), key := Value.str (Str.ofString "EQEQUAL") 378, val := Value.int 27 377 }, { hash := PyData.keyHash P (Str.ofString "NOTEQUAL"), key := Value.str (Str.ofString "NOTEQUAL") 380, val := Value.int 28 379 }, { hash := PyData.keyHash P (Str.ofString "LESSEQUAL"), key := Value.str (Str.ofString "LESSEQUAL") 382, val := Value.int 29 381 }, { hash := PyData.keyHash P (Str.ofString "GREATEREQUAL"), key := Value.str (Str.ofString "GREATEREQUAL") 384, val := Value.int 30 383 }, { hash := PyData.keyHash P (Str.ofString "TILDE"), key := Value.str (Str.ofString "TILDE") 386, val := Value.int 31 385 }, { hash := PyData.keyHash P (Str.ofString "CIRCUMFLEX"), key := Value.str (Str.ofString "CIRCUMFLEX") 388, val := Value.int 32 387 }, { hash := PyData.keyHash P (Str.ofString "LEFTSHIFT"), key := Value.str (Str.ofString "LEFTSHIFT") 390, val := Value.int 33 389 }, { hash := PyData.keyHash P (Str.ofString "RIGHTSHIFT"), key := Value.str (Str.ofString "RIGHTSHIFT") 392, val := Value.int 34 391 }, { hash := PyData.keyHash P (Str.ofString "DOUBLESTAR"), key := Value.str (Str.ofString "DOUBLESTAR") 394, val := Value.int 35 393 }, { hash := PyData.keyHash P (Str.ofString "PLUSEQUAL"), key := Value.str (Str.ofString "PLUSEQUAL") 396, val := Value.int 36 395 }, { hash := PyData.keyHash P (Str.ofString "MINEQUAL"), key := Value.str (Str.ofString "MINEQUAL") 398, val := Value.int 37 397 }, { hash := PyData.keyHash P (Str.ofString "STAREQUAL"), key := Value.str (Str.ofString "STAREQUAL") 400, val := Value.int 38 399 }, { hash := PyData.keyHash P (Str.ofString "SLASHEQUAL"), key := Value.str (Str.ofString "SLASHEQUAL") 402, val := Value.int 39 401 }, { hash := PyData.keyHash P (Str.ofString "PERCENTEQUAL"), key := Value.str (Str.ofString "PERCENTEQUAL") 404, val := Value.int 40 403 }, { hash := PyData.keyHash P (Str.ofString "AMPEREQUAL"), key := Value.str (Str.ofString "AMPEREQUAL") 406, val := Value.int 41 405 }, { hash := PyData.keyHash P (Str.ofString "VBAREQUAL"), key := Value.str (Str.ofString "VBAREQUAL") 408, val := Value.int 42 407 }, { hash := PyData.keyHash P (Str.ofString "CIRCUMFLEXEQUAL"), key := Value.str (Str.ofString "CIRCUMFLEXEQUAL") 410, val := Value.int 43 409 }, { hash := PyData.keyHash P (Str.ofString "LEFTSHIFTEQUAL"), key := Value.str (Str.ofString "LEFTSHIFTEQUAL") 412, val := Value.int 44 411 }, { hash := PyData.keyHash P (Str.ofString "RIGHTSHIFTEQUAL"), key := Value.str (Str.ofString "RIGHTSHIFTEQUAL") 414, val := Value.int 45 413 }, { hash := PyData.keyHash P (Str.ofString "DOUBLESTAREQUAL"), key := Value.str (Str.ofString "DOUBLESTAREQUAL") 416, val := Value.int 46 415 }, { hash := PyData.keyHash P (Str.ofString "DOUBLESLASH"), key := Value.str (Str.ofString "DOUBLESLASH") 418, val := Value.int 47 417 }, { hash := PyData.keyHash P (Str.ofString "DOUBLESLASHEQUAL"), key := Value.str (Str.ofString "DOUBLESLASHEQUAL") 420, val := Value.int 48 419 }, { hash := PyData.keyHash P (Str.ofString "AT"), key := Value.str (Str.ofString "AT") 422, val := Value.int 49 421 }, { hash := PyData.keyHash P (Str.ofString "ATEQUAL"), key := Value.str (Str.ofString "ATEQUAL") 424, val := Value.int 50 423 }, { hash := PyData.keyHash P (Str.ofString "RARROW"), key := Value.str (Str.ofString "RARROW") 426, val := Value.int 51 425 }, { hash := PyData.keyHash P (Str.ofString "ELLIPSIS"), key := Value.str (Str.ofString "ELLIPSIS") 428, val := Value.int 52 427 }, { hash := PyData.keyHash P (Str.ofString "COLONEQUAL"), key := Value.str (Str.ofString "COLONEQUAL") 430, val := Value.int 53 429 }, { hash := PyData.keyHash P (Str.ofString "EXCLAMATION"), key := Value.str (Str.ofString "EXCLAMATION") 432, val := Value.int 54 431 }, { hash := PyData.keyHash P (Str.ofString "NT_OFFSET"), key := Value.str (Str.ofString "NT_OFFSET") 434, val := Value.int 256 433 }, { hash := PyData.keyHash P (Str.ofString "EXACT_TOKEN_TYPES"), key := Value.str (Str.ofString "EXACT_TOKEN_TYPES") 531, val := Value.ref 60 }, { hash := PyData.keyHash P (Str.ofString "ISNONTERMINAL"), key := Value.str (Str.ofString "ISNONTERMINAL") 538, val := Value.ref 69 }, { hash := PyData.keyHash P (Str.ofString "tspecials"), key := Value.str (Str.ofString "tspecials") 574, val := Value.ref 74 }, { hash := PyData.keyHash P (Str.ofString "_name_disallowed_re"), key := Value.str (Str.ofString "_name_disallowed_re") 600, val := Value.ref 79 }, { hash := PyData.keyHash P (Str.ofString "_value_disallowed_re"), key := Value.str (Str.ofString "_value_disallowed_re") 634, val := Value.ref 84 }, { hash := PyData.keyHash P (Str.ofString "_formatparam"), key := Value.str (Str.ofString "_formatparam") 644, val := Value.ref 92 }, { hash := PyData.keyHash P (Str.ofString "Headers"), key := Value.str (Str.ofString "Headers") 804, val := Value.ref 215 }, { hash := PyData.keyHash P (Str.ofString "_law_parts"), key := Value.str (Str.ofString "_law_parts") 812, val := Value.ref 224 }, { hash := PyData.keyHash P (Str.ofString "_law_deed"), key := Value.str (Str.ofString "_law_deed") 818, val := Value.ref 229 }, { hash := PyData.keyHash P (Str.ofString "_law_undone"), key := Value.str (Str.ofString "_law_undone") 824, val := Value.ref 234 }, { hash := PyData.keyHash P (Str.ofString "_law_symbols"), key := Value.str (Str.ofString "_law_symbols") 836, val := Value.ref 241 }, { hash := PyData.keyHash P (Str.ofString "_law_crossed"), key := Value.str (Str.ofString "_law_crossed") 848, val := Value.ref 248 }, { hash := PyData.keyHash P (Str.ofString "_law_danced"), key := Value.str (Str.ofString "_law_danced") 863, val := Value.ref 255 }, { hash := PyData.keyHash P (Str.ofString "_law_then"), key := Value.str (Str.ofString "_law_then") 871, val := Value.ref 262 }, { hash := PyData.keyHash P (Str.ofString "_law_back"), key := Value.str (Str.ofString "_law_back") 878, val := Value.ref 269 }, { hash := PyData.keyHash P (Str.ofString "_law_word"), key := Value.str (Str.ofString "_law_word") 888, val := Value.ref 276 }, { hash := PyData.keyHash P (Str.ofString "_law_known"), key := Value.str (Str.ofString "_law_known") 894, val := Value.ref 281 }, { hash := PyData.keyHash P (Str.ofString "law"), key := Value.str (Str.ofString "law") 900, val := Value.ref 286 }] 82 }
noncomputable def o44 : Obj := { cls := Value.type "code", data := Data.fields #[Value.str (Str.ofString "decode_rfc2231") 293, Value.str (Str.ofString "decode_rfc2231") 294, Value.str (Str.ofString "/claim/cut.py") 295, Value.int 7 0, Value.int 1 0, Value.int 0 0, Value.int 0 0, Value.int 3 0, Value.ref 39, Value.bool true, Value.int 276 0, Value.ref 40, Value.none, Value.ref 41, Value.ref 42, Value.ref 43, Value.int 298 0, Value.int 7 0, Value.str (Str.ofString "/claim/cut.py") 299] }
noncomputable def fd45 : FuncData := fnD (Str.ofString "decode_rfc2231") (Str.ofString "decode_rfc2231") (stm 4) Value.none (Value.str (Str.ofString "cpy313.email.utils") 289) (Value.ref 44)
noncomputable def o45 : Obj := { cls := .type "function", data := .func fd45 }
noncomputable def o51 : Obj := { cls := Value.type "code", data := Data.fields #[Value.str (Str.ofString "rgb_to_hsv") 303, Value.str (Str.ofString "rgb_to_hsv") 304, Value.str (Str.ofString "/claim/cut.py") 305, Value.int 13 0, Value.int 3 0, Value.int 0 0, Value.int 0 0, Value.int 3 0, Value.ref 46, Value.bool true, Value.int 276 0, Value.ref 47, Value.none, Value.ref 48, Value.ref 49, Value.ref 50, Value.int 318 0, Value.int 13 0, Value.str (Str.ofString "/claim/cut.py") 319] }
noncomputable def fd52 : FuncData := fnD (Str.ofString "rgb_to_hsv") (Str.ofString "rgb_to_hsv") (stm 6) Value.none (Value.str (Str.ofString "cpy313.colorsys") 301) (Value.ref 51)
noncomputable def o52 : Obj := { cls := .type "function", data := .func fd52 }
noncomputable def o58 : Obj := { cls := Value.type "code", data := Data.fields #[Value.str (Str.ofString "hsv_to_rgb") 321, Value.str (Str.ofString "hsv_to_rgb") 322, Value.str (Str.ofString "/claim/cut.py") 323, Value.int 32 0, Value.int 3 0, Value.int 0 0, Value.int 0 0, Value.int 3 0, Value.ref 53, Value.bool true, Value.int 276 0, Value.ref 54, Value.none, Value.ref 55, Value.ref 56, Value.ref 57, Value.int 332 0, Value.int 32 0, Value.str (Str.ofString "/claim/cut.py") 333] }
noncomputable def fd59 : FuncData := fnD (Str.ofString "hsv_to_rgb") (Str.ofString "hsv_to_rgb") (stm 7) Value.none (Value.str (Str.ofString "cpy313.colorsys") 301) (Value.ref 58)
noncomputable def o59 : Obj := { cls := .type "function", data := .func fd59 }
noncomputable def o60 (P : Params) : Obj := { cls := Value.type "dict", data := Data.dict #[{ hash := PyData.keyHash P (Str.ofString "!"), key := Value.str (Str.ofString "!") 435, val := Value.int 54 431 }, { hash := PyData.keyHash P (Str.ofString "!="), key := Value.str (Str.ofString "!=") 437, val := Value.int 28 379 }, { hash := PyData.keyHash P (Str.ofString "%"), key := Value.str (Str.ofString "%") 439, val := Value.int 24 371 }, { hash := PyData.keyHash P (Str.ofString "%="), key := Value.str (Str.ofString "%=") 441, val := Value.int 40 403 }, { hash := PyData.keyHash P (Str.ofString "&"), key := Value.str (Str.ofString "&") 443, val := Value.int 19 361 }, { hash := PyData.keyHash P (Str.ofString "&="), key := Value.str (Str.ofString "&=") 445, val := Value.int 41 405 }, { hash := PyData.keyHash P (Str.ofString "("), key := Value.str (Str.ofString "(") 447, val := Value.int 7 337 }, { hash := PyData.keyHash P (Str.ofString ")"), key := Value.str (Str.ofString ")") 449, val := Value.int 8 339 }, { hash := PyData.keyHash P (Str.ofString "*"), key := Value.str (Str.ofString "*") 451, val := Value.int 16 355 }, { hash := PyData.keyHash P (Str.ofString "**"), key := Value.str (Str.ofString "**") 453, val := Value.int 35 393 }, { hash := PyData.keyHash P (Str.ofString "**="), key := Value.str (Str.ofString "**=") 455, val := Value.int 46 415 }, { hash := PyData.keyHash P (Str.ofString "*="), key := Value.str (Str.ofString "*=") 457, val := Value.int 38 399 }, { hash := PyData.keyHash P (Str.ofString "+"), key := Value.str (Str.ofString "+") 459, val := Value.int 14 351 }, { hash := PyData.keyHash P (Str.ofString "+="), key := Value.str (Str.ofString "+=") 461, val := Value.int 36 395 }, { hash := PyData.keyHash P (Str.ofString ","), key := Value.str (Str.ofString ",") 463, val := Value.int 12 347 }, { hash := PyData.keyHash P (Str.ofString "-"), key := Value.str (Str.ofString "-") 465, val := Value.int 15 353 }, { hash := PyData.keyHash P (Str.ofString "-="), key := Value.str (Str.ofString "-=") 467, val := Value.int 37 397 }, { hash := PyData.keyHash P (Str.ofString "->"), key := Value.str (Str.ofString "->") 469, val := Value.int 51 425 }, { hash := PyData.keyHash P (Str.ofString "."), key := Value.str (Str.ofString ".") 471, val := Value.int 23 369 }, { hash := PyData.keyHash P (Str.ofString "..."), key := Value.str (Str.ofString "...") 473, val := Value.int 52 427 }, { hash := PyData.keyHash P (Str.ofString "/"), key := Value.str (Str.ofString "/") 475, val := Value.int 17 357 }, { hash := PyData.keyHash P (Str.ofString "//"), key := Value.str (Str.ofString "//") 477, val := Value.int 47 417 }, { hash := PyData.keyHash P (Str.ofString "//="), key := Value.str (Str.ofString "//=") 479, val := Value.int 48 419 }, { hash := PyData.keyHash P (Str.ofString "/="), key := Value.str (Str.ofString "/=") 481, val := Value.int 39 401 }, { hash := PyData.keyHash P (Str.ofString ":"), key := Value.str (Str.ofString ":") 483, val := Value.int 11 345 }, { hash := PyData.keyHash P (Str.ofString ":="), key := Value.str (Str.ofString ":=") 485, val := Value.int 53 429 }, { hash := PyData.keyHash P (Str.ofString ";"), key := Value.str (Str.ofString ";") 487, val := Value.int 13 349 }, { hash := PyData.keyHash P (Str.ofString "<"), key := Value.str (Str.ofString "<") 489, val := Value.int 20 363 }, { hash := PyData.keyHash P (Str.ofString "<<"), key := Value.str (Str.ofString "<<") 491, val := Value.int 33 389 }, { hash := PyData.keyHash P (Str.ofString "<<="), key := Value.str (Str.ofString "<<=") 493, val := Value.int 44 411 }, { hash := PyData.keyHash P (Str.ofString "<="), key := Value.str (Str.ofString "<=") 495, val := Value.int 29 381 }, { hash := PyData.keyHash P (Str.ofString "="), key := Value.str (Str.ofString "=") 497, val := Value.int 22 367 }, { hash := PyData.keyHash P (Str.ofString "=="), key := Value.str (Str.ofString "==") 499, val := Value.int 27 377 }, { hash := PyData.keyHash P (Str.ofString ">"), key := Value.str (Str.ofString ">") 501, val := Value.int 21 365 }, { hash := PyData.keyHash P (Str.ofString ">="), key := Value.str (Str.ofString ">=") 503, val := Value.int 30 383 }, { hash := PyData.keyHash P (Str.ofString ">>"), key := Value.str (Str.ofString ">>") 504, val := Value.int 34 391 }, { hash := PyData.keyHash P (Str.ofString ">>="), key := Value.str (Str.ofString ">>=") 505, val := Value.int 45 413 }, { hash := PyData.keyHash P (Str.ofString "@"), key := Value.str (Str.ofString "@") 506, val := Value.int 49 421 }, { hash := PyData.keyHash P (Str.ofString "@="), key := Value.str (Str.ofString "@=") 507, val := Value.int 50 423 }, { hash := PyData.keyHash P (Str.ofString "["), key := Value.str (Str.ofString "[") 508, val := Value.int 9 341 }, { hash := PyData.keyHash P (Str.ofString "]"), key := Value.str (Str.ofString "]") 509, val := Value.int 10 343 }, { hash := PyData.keyHash P (Str.ofString "^"), key := Value.str (Str.ofString "^") 510, val := Value.int 32 387 }, { hash := PyData.keyHash P (Str.ofString "^="), key := Value.str (Str.ofString "^=") 511, val := Value.int 43 409 }, { hash := PyData.keyHash P (Str.ofString "{"), key := Value.str (Str.ofString "{") 512, val := Value.int 25 373 }, { hash := PyData.keyHash P (Str.ofString "|"), key := Value.str (Str.ofString "|") 513, val := Value.int 18 359 }, { hash := PyData.keyHash P (Str.ofString "|="), key := Value.str (Str.ofString "|=") 514, val := Value.int 42 407 }, { hash := PyData.keyHash P (Str.ofString "}"), key := Value.str (Str.ofString "}") 515, val := Value.int 26 375 }, { hash := PyData.keyHash P (Str.ofString "~"), key := Value.str (Str.ofString "~") 516, val := Value.int 31 385 }] 48 }
noncomputable def o68 : Obj := { cls := Value.type "code", data := Data.fields #[Value.str (Str.ofString "ISNONTERMINAL") 532, Value.str (Str.ofString "ISNONTERMINAL") 533, Value.str (Str.ofString "/claim/cut.py") 534, Value.int 104 0, Value.int 1 0, Value.int 0 0, Value.int 0 0, Value.int 3 0, Value.ref 63, Value.bool true, Value.int 276 0, Value.ref 64, Value.none, Value.ref 65, Value.ref 66, Value.ref 67, Value.int 536 0, Value.int 104 0, Value.str (Str.ofString "/claim/cut.py") 537] }
noncomputable def fd69 : FuncData := fnD (Str.ofString "ISNONTERMINAL") (Str.ofString "ISNONTERMINAL") (stm 59) Value.none (Value.str (Str.ofString "cpy313.token") 335) (Value.ref 68)
noncomputable def o69 : Obj := { cls := .type "function", data := .func fd69 }
noncomputable def o74 : Obj := { cls := Value.type "re.Pattern", data := Data.fields #[Value.str (Str.ofString "[ \\(\\)<>@,;:\\\\\"/\\[\\]\\?=]") 542, Value.int 32 573, Value.int 0 0, Value.none, Value.none, Value.ref 73, Value.int 0 0] }
noncomputable def o78 : Obj := { cls := Value.type "tuple", data := Data.seq #[Value.int 14 0, Value.int 10 0, Value.int 4 0, Value.int 1 0, Value.int 1 0, Value.int 22 0, Value.int 0 0, Value.int 31 0, Value.int 16 0, Value.int 127 0, Value.int 0 0, Value.int 13 0, Value.int 7 0, Value.int 22 0, Value.int 0 0, Value.int 31 0, Value.int 16 0, Value.int 127 0, Value.int 0 0, Value.int 1 0] }
noncomputable def o79 : Obj := { cls := Value.type "re.Pattern", data := Data.fields #[Value.str (Str.ofString "[\\x00-\\x1F\\x7F]") 576, Value.int 32 599, Value.int 0 0, Value.none, Value.none, Value.ref 78, Value.int 0 0] }
noncomputable def o83 : Obj := { cls := Value.type "tuple", data := Data.seq #[Value.int 14 0, Value.int 14 0, Value.int 4 0, Value.int 1 0, Value.int 1 0, Value.int 9 0, Value.int 4294966783 0, Value.int 0 0, Value.int 0 0, Value.int 2147483648 0, Value.int 0 0, Value.int 0 0, Value.int 0 0, Value.int 0 0, Value.int 0 0, Value.int 13 0, Value.int 11 0, Value.int 9 0, Value.int 4294966783 0, Value.int 0 0, Value.int 0 0, Value.int 2147483648 0, Value.int 0 0, Value.int 0 0, Value.int 0 0, Value.int 0 0, Value.int 0 0, Value.int 1 0] }
noncomputable def o84 : Obj := { cls := Value.type "re.Pattern", data := Data.fields #[Value.str (Str.ofString "[\\x00-\\x08\\x0A-\\x1F\\x7F]") 602, Value.int 32 633, Value.int 0 0, Value.none, Value.none, Value.ref 83, Value.int 0 0] }
noncomputable def o100 : Obj := { cls := Value.type "tuple", data := Data.seq #[Value.none] }
noncomputable def o106 : Obj := { cls := Value.type "code", data := Data.fields #[Value.str (Str.ofString "__init__") 657, Value.str (Str.ofString "Headers.__init__") 658, Value.str (Str.ofString "/claim/cut.py") 659, Value.int 121 0, Value.int 2 0, Value.int 0 0, Value.int 0 0, Value.int 3 0, Value.ref 101, Value.bool true, Value.int 276 0, Value.ref 102, Value.none, Value.ref 103, Value.ref 104, Value.ref 105, Value.int 664 0, Value.int 121 0, Value.str (Str.ofString "/claim/cut.py") 665] }
noncomputable def fd107 : FuncData := fnD (Str.ofString "__init__") (Str.ofString "Headers.__init__") (mth 0) (Value.ref 100) (Value.str (Str.ofString "cpy313.wsgiref.headers") 539) (Value.ref 106)
noncomputable def o107 : Obj := { cls := .type "function", data := .func fd107 }
noncomputable def o113 : Obj := { cls := Value.type "code", data := Data.fields #[Value.str (Str.ofString "_convert_string_type") 667, Value.str (Str.ofString "Headers._convert_string_type") 668, Value.str (Str.ofString "/claim/cut.py") 669, Value.int 131 0, Value.int 2 0, Value.int 0 0, Value.int 1 0, Value.int 3 0, Value.ref 108, Value.bool true, Value.int 276 0, Value.ref 109, Value.none, Value.ref 110, Value.ref 111, Value.ref 112, Value.int 674 0, Value.int 131 0, Value.str (Str.ofString "/claim/cut.py") 675] }
noncomputable def fd114 : FuncData := fnD (Str.ofString "_convert_string_type") (Str.ofString "Headers._convert_string_type") (mth 1) Value.none (Value.str (Str.ofString "cpy313.wsgiref.headers") 539) (Value.ref 113)
noncomputable def o114 : Obj := { cls := .type "function", data := .func fd114 }
noncomputable def o127 : Obj := { cls := Value.type "code", data := Data.fields #[Value.str (Str.ofString "__setitem__") 684, Value.str (Str.ofString "Headers.__setitem__") 685, Value.str (Str.ofString "/claim/cut.py") 686, Value.int 142 0, Value.int 3 0, Value.int 0 0, Value.int 0 0, Value.int 3 0, Value.ref 122, Value.bool true, Value.int 276 0, Value.ref 123, Value.none, Value.ref 124, Value.ref 125, Value.ref 126, Value.int 690 0, Value.int 142 0, Value.str (Str.ofString "/claim/cut.py") 691] }
noncomputable def fd128 : FuncData := fnD (Str.ofString "__setitem__") (Str.ofString "Headers.__setitem__") (mth 3) Value.none (Value.str (Str.ofString "cpy313.wsgiref.headers") 539) (Value.ref 127)
noncomputable def o128 : Obj := { cls := .type "function", data := .func fd128 }
noncomputable def o132 : Obj := { cls := Value.type "code", data := Data.fields #[Value.str (Str.ofString "__delitem__") 693, Value.str (Str.ofString "Headers.__delitem__") 694, Value.str (Str.ofString "/claim/cut.py") 695, Value.int 146 0, Value.int 2 0, Value.int 0 0, Value.int 0 0, Value.int 3 0, Value.ref 129, Value.bool true, Value.int 276 0, Value.ref 130, Value.none, Value.none, Value.none, Value.ref 131, Value.int 696 0, Value.int 146 0, Value.str (Str.ofString "/claim/cut.py") 697] }
noncomputable def fd133 : FuncData := fnD (Str.ofString "__delitem__") (Str.ofString "Headers.__delitem__") (mth 4) Value.none (Value.str (Str.ofString "cpy313.wsgiref.headers") 539) (Value.ref 132)
noncomputable def o133 : Obj := { cls := .type "function", data := .func fd133 }
noncomputable def o155 : Obj := { cls := Value.type "tuple", data := Data.seq #[Value.none] }
noncomputable def o161 : Obj := { cls := Value.type "code", data := Data.fields #[Value.str (Str.ofString "get") 723, Value.str (Str.ofString "Headers.get") 724, Value.str (Str.ofString "/claim/cut.py") 725, Value.int 159 0, Value.int 3 0, Value.int 0 0, Value.int 0 0, Value.int 3 0, Value.ref 156, Value.bool true, Value.int 276 0, Value.ref 157, Value.none, Value.ref 158, Value.ref 159, Value.ref 160, Value.int 731 0, Value.int 159 0, Value.str (Str.ofString "/claim/cut.py") 732] }
noncomputable def fd162 : FuncData := fnD (Str.ofString "get") (Str.ofString "Headers.get") (mth 8) (Value.ref 155) (Value.str (Str.ofString "cpy313.wsgiref.headers") 539) (Value.ref 161)
noncomputable def o162 : Obj := { cls := .type "function", data := .func fd162 }
noncomputable def o178 : Obj := { cls := Value.type "code", data := Data.fields #[Value.str (Str.ofString "items") 746, Value.str (Str.ofString "Headers.items") 747, Value.str (Str.ofString "/claim/cut.py") 748, Value.int 172 0, Value.int 1 0, Value.int 0 0, Value.int 0 0, Value.int 3 0, Value.ref 173, Value.bool true, Value.int 276 0, Value.ref 174, Value.none, Value.ref 175, Value.ref 176, Value.ref 177, Value.int 750 0, Value.int 172 0, Value.str (Str.ofString "/claim/cut.py") 751] }
noncomputable def fd179 : FuncData := fnD (Str.ofString "items") (Str.ofString "Headers.items") (mth 11) Value.none (Value.str (Str.ofString "cpy313.wsgiref.headers") 539) (Value.ref 178)
noncomputable def o179 : Obj := { cls := .type "function", data := .func fd179 }
noncomputable def o204 : Obj := { cls := Value.type "code", data := Data.fields #[Value.str (Str.ofString "setdefault") 773, Value.str (Str.ofString "Headers.setdefault") 774, Value.str (Str.ofString "/claim/cut.py") 775, Value.int 184 0, Value.int 3 0, Value.int 0 0, Value.int 0 0, Value.int 3 0, Value.ref 199, Value.bool true, Value.int 276 0, Value.ref 200, Value.none, Value.ref 201, Value.ref 202, Value.ref 203, Value.int 780 0, Value.int 184 0, Value.str (Str.ofString "/claim/cut.py") 781] }
noncomputable def fd205 : FuncData := fnD (Str.ofString "setdefault") (Str.ofString "Headers.setdefault") (mth 15) Value.none (Value.str (Str.ofString "cpy313.wsgiref.headers") 539) (Value.ref 204)
noncomputable def o205 : Obj := { cls := .type "function", data := .func fd205 }
noncomputable def o211 : Obj := { cls := Value.type "code", data := Data.fields #[Value.str (Str.ofString "add_header") 783, Value.str (Str.ofString "Headers.add_header") 784, Value.str (Str.ofString "/claim/cut.py") 785, Value.int 192 0, Value.int 3 0, Value.int 0 0, Value.int 0 0, Value.int 11 0, Value.ref 206, Value.bool true, Value.int 276 0, Value.ref 207, Value.none, Value.ref 208, Value.ref 209, Value.ref 210, Value.int 793 0, Value.int 192 0, Value.str (Str.ofString "/claim/cut.py") 794] }
noncomputable def fd212 : FuncData := fnD (Str.ofString "add_header") (Str.ofString "Headers.add_header") (mth 16) Value.none (Value.str (Str.ofString "cpy313.wsgiref.headers") 539) (Value.ref 211)
noncomputable def o212 : Obj := { cls := .type "function", data := .func fd212 }
noncomputable def o214 (P : Params) : Obj := { cls := Value.type "dict", data := Data.dict #[{ hash := PyData.keyHash P (Str.ofString "__module__"), key := Value.str (Str.ofString "__module__") 652, val := Value.str (Str.ofString "cpy313.wsgiref.headers") 539 }, { hash := PyData.keyHash P (Str.ofString "__firstlineno__"), key := Value.str (Str.ofString "__firstlineno__") 656, val := Value.int 119 655 }, { hash := PyData.keyHash P (Str.ofString "__init__"), key := Value.str (Str.ofString "__init__") 666, val := Value.ref 107 }, { hash := PyData.keyHash P (Str.ofString "_convert_string_type"), key := Value.str (Str.ofString "_convert_string_type") 676, val := Value.ref 114 }, { hash := PyData.keyHash P (Str.ofString "__len__"), key := Value.str (Str.ofString "__len__") 683, val := Value.ref 121 }, { hash := PyData.keyHash P (Str.ofString "__setitem__"), key := Value.str (Str.ofString "__setitem__") 692, val := Value.ref 128 }, { hash := PyData.keyHash P (Str.ofString "__delitem__"), key := Value.str (Str.ofString "__delitem__") 698, val := Value.ref 133 }, { hash := PyData.keyHash P (Str.ofString "__getitem__"), key := Value.str (Str.ofString "__getitem__") 706, val := Value.ref 140 }, { hash := PyData.keyHash P (Str.ofString "__contains__"), key := Value.str (Str.ofString "__contains__") 714, val := Value.ref 147 }, { hash := PyData.keyHash P (Str.ofString "get_all"), key := Value.str (Str.ofString "get_all") 722, val := Value.ref 154 }, { hash := PyData.keyHash P (Str.ofString "get"), key := Value.str (Str.ofString "get") 733, val := Value.ref 162 }, { hash := PyData.keyHash P (Str.ofString "keys"), key := Value.str (Str.ofString "keys") 739, val := Value.ref 167 }, { hash := PyData.keyHash P (Str.ofString "values"), key := Value.str (Str.ofString "values") 745, val := Value.ref 172 }, { hash := PyData.keyHash P (Str.ofString "items"), key := Value.str (Str.ofString "items") 752, val := Value.ref 179 }, { hash := PyData.keyHash P (Str.ofString "__repr__"), key := Value.str (Str.ofString "__repr__") 759, val := Value.ref 186 }, { hash := PyData.keyHash P (Str.ofString "__str__"), key := Value.str (Str.ofString "__str__") 765, val := Value.ref 191 }, { hash := PyData.keyHash P (Str.ofString "__bytes__"), key := Value.str (Str.ofString "__bytes__") 772, val := Value.ref 198 }, { hash := PyData.keyHash P (Str.ofString "setdefault"), key := Value.str (Str.ofString "setdefault") 782, val := Value.ref 205 }, { hash := PyData.keyHash P (Str.ofString "add_header"), key := Value.str (Str.ofString "add_header") 795, val := Value.ref 212 }, { hash := PyData.keyHash P (Str.ofString "__static_attributes__"), key := Value.str (Str.ofString "__static_attributes__") 797, val := Value.ref 213 }, { hash := PyData.keyHash P (Str.ofString "__dict__"), key := Value.str (Str.ofString "__dict__") 799, val := Value.ref 216 }, { hash := PyData.keyHash P (Str.ofString "__weakref__"), key := Value.str (Str.ofString "__weakref__") 801, val := Value.ref 217 }, { hash := PyData.keyHash P (Str.ofString "__doc__"), key := Value.str (Str.ofString "__doc__") 802, val := Value.none }] 4 }
noncomputable def o215 : Obj := { cls := Value.type "type", data := Data.cls { name := Str.ofString "Headers", bases := [Value.type "object"], mro := [Value.ref 215, Value.type "object"], ns := 214, qualname := Str.ofString "Headers" }, slots := #[none, none, some (Value.str (Str.ofString "Headers") 645), some (Value.str (Str.ofString "Headers") 653), some (Value.builtin "object.__new__"), some (Value.bool true)] }
noncomputable def o216 : Obj := { cls := Value.type "getset_descriptor", data := Data.fields #[Value.str (Str.ofString "__dict__") 798, Value.ref 215, Value.builtin "function.__dict__", Value.builtin "function.__dict__#set"] }
noncomputable def o217 : Obj := { cls := Value.type "getset_descriptor", data := Data.fields #[Value.str (Str.ofString "__weakref__") 800, Value.ref 215, Value.builtin "ExceptionGroup.__weakref__", Value.none] }
noncomputable def o223 : Obj := { cls := Value.type "code", data := Data.fields #[Value.str (Str.ofString "_law_parts") 807, Value.str (Str.ofString "_law_parts") 808, Value.str (Str.ofString "/claim/cut.py") 809, Value.int 206 0, Value.int 1 0, Value.int 0 0, Value.int 0 0, Value.int 3 0, Value.ref 220, Value.bool true, Value.int 276 0, Value.ref 221, Value.none, Value.none, Value.none, Value.ref 222, Value.int 810 0, Value.int 206 0, Value.str (Str.ofString "/claim/cut.py") 811] }
noncomputable def fd224 : FuncData := fnD (Str.ofString "_law_parts") (Str.ofString "_law_parts") (stm 67) Value.none (Value.str (Str.ofString "law_wf0089_01") 805) (Value.ref 223)
noncomputable def o224 : Obj := { cls := .type "function", data := .func fd224 }
noncomputable def o228 : Obj := { cls := Value.type "code", data := Data.fields #[Value.str (Str.ofString "_law_deed") 813, Value.str (Str.ofString "_law_deed") 814, Value.str (Str.ofString "/claim/cut.py") 815, Value.int 210 0, Value.int 3 0, Value.int 0 0, Value.int 0 0, Value.int 3 0, Value.ref 225, Value.bool true, Value.int 276 0, Value.ref 226, Value.none, Value.none, Value.none, Value.ref 227, Value.int 816 0, Value.int 210 0, Value.str (Str.ofString "/claim/cut.py") 817] }
noncomputable def fd229 : FuncData := fnD (Str.ofString "_law_deed") (Str.ofString "_law_deed") (stm 68) Value.none (Value.str (Str.ofString "law_wf0089_01") 805) (Value.ref 228)
noncomputable def o229 : Obj := { cls := .type "function", data := .func fd229 }
noncomputable def o233 : Obj := { cls := Value.type "code", data := Data.fields #[Value.str (Str.ofString "_law_undone") 819, Value.str (Str.ofString "_law_undone") 820, Value.str (Str.ofString "/claim/cut.py") 821, Value.int 225 0, Value.int 1 0, Value.int 0 0, Value.int 0 0, Value.int 3 0, Value.ref 230, Value.bool true, Value.int 276 0, Value.ref 231, Value.none, Value.none, Value.none, Value.ref 232, Value.int 822 0, Value.int 225 0, Value.str (Str.ofString "/claim/cut.py") 823] }
noncomputable def fd234 : FuncData := fnD (Str.ofString "_law_undone") (Str.ofString "_law_undone") (stm 69) Value.none (Value.str (Str.ofString "law_wf0089_01") 805) (Value.ref 233)
noncomputable def o234 : Obj := { cls := .type "function", data := .func fd234 }
noncomputable def o240 : Obj := { cls := Value.type "code", data := Data.fields #[Value.str (Str.ofString "_law_symbols") 825, Value.str (Str.ofString "_law_symbols") 826, Value.str (Str.ofString "/claim/cut.py") 827, Value.int 227 0, Value.int 1 0, Value.int 0 0, Value.int 0 0, Value.int 3 0, Value.ref 235, Value.bool true, Value.int 276 0, Value.ref 236, Value.none, Value.ref 237, Value.ref 238, Value.ref 239, Value.int 834 0, Value.int 227 0, Value.str (Str.ofString "/claim/cut.py") 835] }
noncomputable def fd241 : FuncData := fnD (Str.ofString "_law_symbols") (Str.ofString "_law_symbols") (stm 70) Value.none (Value.str (Str.ofString "law_wf0089_01") 805) (Value.ref 240)
noncomputable def o241 : Obj := { cls := .type "function", data := .func fd241 }
noncomputable def o247 : Obj := { cls := Value.type "code", data := Data.fields #[Value.str (Str.ofString "_law_crossed") 837, Value.str (Str.ofString "_law_crossed") 838, Value.str (Str.ofString "/claim/cut.py") 839, Value.int 241 0, Value.int 2 0, Value.int 0 0, Value.int 0 0, Value.int 3 0, Value.ref 242, Value.bool true, Value.int 276 0, Value.ref 243, Value.none, Value.ref 244, Value.ref 245, Value.ref 246, Value.int 846 0, Value.int 241 0, Value.str (Str.ofString "/claim/cut.py") 847] }
noncomputable def fd248 : FuncData := fnD (Str.ofString "_law_crossed") (Str.ofString "_law_crossed") (stm 71) Value.none (Value.str (Str.ofString "law_wf0089_01") 805) (Value.ref 247)
noncomputable def o248 : Obj := { cls := .type "function", data := .func fd248 }
noncomputable def o254 : Obj := { cls := Value.type "code", data := Data.fields #[Value.str (Str.ofString "_law_danced") 849, Value.str (Str.ofString "_law_danced") 850, Value.str (Str.ofString "/claim/cut.py") 851, Value.int 245 0, Value.int 3 0, Value.int 0 0, Value.int 0 0, Value.int 3 0, Value.ref 249, Value.bool true, Value.int 276 0, Value.ref 250, Value.none, Value.ref 251, Value.ref 252, Value.ref 253, Value.int 861 0, Value.int 245 0, Value.str (Str.ofString "/claim/cut.py") 862] }
noncomputable def fd255 : FuncData := fnD (Str.ofString "_law_danced") (Str.ofString "_law_danced") (stm 72) Value.none (Value.str (Str.ofString "law_wf0089_01") 805) (Value.ref 254)
noncomputable def o255 : Obj := { cls := .type "function", data := .func fd255 }
noncomputable def o261 : Obj := { cls := Value.type "code", data := Data.fields #[Value.str (Str.ofString "_law_then") 864, Value.str (Str.ofString "_law_then") 865, Value.str (Str.ofString "/claim/cut.py") 866, Value.int 260 0, Value.int 2 0, Value.int 0 0, Value.int 0 0, Value.int 3 0, Value.ref 256, Value.bool true, Value.int 276 0, Value.ref 257, Value.none, Value.ref 258, Value.ref 259, Value.ref 260, Value.int 869 0, Value.int 260 0, Value.str (Str.ofString "/claim/cut.py") 870] }
noncomputable def fd262 : FuncData := fnD (Str.ofString "_law_then") (Str.ofString "_law_then") (stm 73) Value.none (Value.str (Str.ofString "law_wf0089_01") 805) (Value.ref 261)
noncomputable def o262 : Obj := { cls := .type "function", data := .func fd262 }
noncomputable def o268 : Obj := { cls := Value.type "code", data := Data.fields #[Value.str (Str.ofString "_law_back") 872, Value.str (Str.ofString "_law_back") 873, Value.str (Str.ofString "/claim/cut.py") 874, Value.int 262 0, Value.int 1 0, Value.int 0 0, Value.int 0 0, Value.int 3 0, Value.ref 263, Value.bool true, Value.int 276 0, Value.ref 264, Value.none, Value.ref 265, Value.ref 266, Value.ref 267, Value.int 876 0, Value.int 262 0, Value.str (Str.ofString "/claim/cut.py") 877] }
noncomputable def fd269 : FuncData := fnD (Str.ofString "_law_back") (Str.ofString "_law_back") (stm 74) Value.none (Value.str (Str.ofString "law_wf0089_01") 805) (Value.ref 268)
noncomputable def o269 : Obj := { cls := .type "function", data := .func fd269 }
noncomputable def o275 : Obj := { cls := Value.type "code", data := Data.fields #[Value.str (Str.ofString "_law_word") 879, Value.str (Str.ofString "_law_word") 880, Value.str (Str.ofString "/claim/cut.py") 881, Value.int 264 0, Value.int 2 0, Value.int 0 0, Value.int 0 0, Value.int 3 0, Value.ref 270, Value.bool true, Value.int 276 0, Value.ref 271, Value.none, Value.ref 272, Value.ref 273, Value.ref 274, Value.int 886 0, Value.int 264 0, Value.str (Str.ofString "/claim/cut.py") 887] }
noncomputable def fd276 : FuncData := fnD (Str.ofString "_law_word") (Str.ofString "_law_word") (stm 75) Value.none (Value.str (Str.ofString "law_wf0089_01") 805) (Value.ref 275)
noncomputable def o276 : Obj := { cls := .type "function", data := .func fd276 }
noncomputable def o280 : Obj := { cls := Value.type "code", data := Data.fields #[Value.str (Str.ofString "_law_known") 889, Value.str (Str.ofString "_law_known") 890, Value.str (Str.ofString "/claim/cut.py") 891, Value.int 269 0, Value.int 1 0, Value.int 0 0, Value.int 0 0, Value.int 3 0, Value.ref 277, Value.bool true, Value.int 276 0, Value.ref 278, Value.none, Value.none, Value.none, Value.ref 279, Value.int 892 0, Value.int 269 0, Value.str (Str.ofString "/claim/cut.py") 893] }
noncomputable def fd281 : FuncData := fnD (Str.ofString "_law_known") (Str.ofString "_law_known") (stm 76) Value.none (Value.str (Str.ofString "law_wf0089_01") 805) (Value.ref 280)
noncomputable def o281 : Obj := { cls := .type "function", data := .func fd281 }
noncomputable def o285 : Obj := { cls := Value.type "code", data := Data.fields #[Value.str (Str.ofString "law") 895, Value.str (Str.ofString "law") 896, Value.str (Str.ofString "/claim/cut.py") 897, Value.int 283 0, Value.int 1 0, Value.int 0 0, Value.int 0 0, Value.int 3 0, Value.ref 282, Value.bool true, Value.int 276 0, Value.ref 283, Value.none, Value.none, Value.none, Value.ref 284, Value.int 898 0, Value.int 283 0, Value.str (Str.ofString "/claim/cut.py") 899] }
noncomputable def fd286 : FuncData := fnD (Str.ofString "law") (Str.ofString "law") (stm 77) Value.none (Value.str (Str.ofString "law_wf0089_01") 805) (Value.ref 285)
noncomputable def o286 : Obj := { cls := .type "function", data := .func fd286 }
noncomputable def KF (P : Params) : Frag := [(3, (o3 P)), (44, o44), (45, o45), (51, o51), (52, o52), (58, o58), (59, o59), (60, (o60 P)), (68, o68), (69, o69), (74, o74), (78, o78), (79, o79), (83, o83), (84, o84), (100, o100), (106, o106), (107, o107), (113, o113), (114, o114), (127, o127), (128, o128), (132, o132), (133, o133), (155, o155), (161, o161), (162, o162), (178, o178), (179, o179), (204, o204), (205, o205), (211, o211), (212, o212), (214, (o214 P)), (215, o215), (216, o216), (217, o217), (223, o223), (224, o224), (228, o228), (229, o229), (233, o233), (234, o234), (240, o240), (241, o241), (247, o247), (248, o248), (254, o254), (255, o255), (261, o261), (262, o262), (268, o268), (269, o269), (275, o275), (276, o276), (280, o280), (281, o281), (285, o285), (286, o286)]
end
end
section
open PySem PySem.W PySem.Calls PyProof.Rows
local macro_rules | `(tactic| walk_at "side") => `(tactic| first
  | ((with_reducible refine mul_side ?_ ?_) <;> (assumption))
  | ((with_reducible refine mix_sub ?_) <;> (first | assumption | rfl))
  | ((with_reducible refine mix_add ?_) <;> (first | assumption | rfl))
  | ((with_reducible refine mix_mul ?_) <;> (first | assumption | rfl))
  | with_reducible exact flt_div6
  | with_reducible exact flt_mod1
  | ((with_reducible refine flt_div ?_) <;> (first | assumption | rfl))
  | ((with_reducible refine flt_mod ?_) <;> (first | assumption | rfl))
  | rfl
  | assumption
  | exact congrArg some (by assumption))
local macro_rules | `(tactic| walk_at "all") => `(tactic| first
  | with_reducible exact EvAll.nil
  | (with_reducible refine' EvAll.cons ?r ?x ?y
     case r => rfl
     case x => walk_at "ev"
     case y => walk_at "all"))
local macro_rules | `(tactic| walk_at "evs") => `(tactic| first
  | with_reducible exact EvVs.nil
  | (with_reducible refine' EvVs.cons ?r ?x ?y
     case r => rfl
     case x => walk_at "evv"
     case y => walk_at "evs"))
local macro_rules | `(tactic| walk_at "evv") => `(tactic| first
  | (with_reducible refine' ev_nm ?k ?x ?y ?z
     case k => assumption
     case x => rfl
     case y => rfl
     case z => rfl)
  | (refine' ev_toV ?x
     case x => walk_at "ev"))
local macro_rules | `(tactic| walk_at "ev") => `(tactic| first
  | with_reducible exact ev_int
  | with_reducible exact ev_str
  | with_reducible exact ev_flt
  | with_reducible exact ev_none
  | with_reducible exact ev_bool
  | (with_reducible refine' ev_nmD ?k ?x ?y ?z
     case k => assumption
     case x => rfl
     case y => rfl
     case z => rfl)
  | (with_reducible refine' ev_gint ?k ?x ?y ?z
     case k => assumption
     case x => rfl
     case y => rfl
     case z => rfl)
  | (with_reducible refine' ev_gstr ?k ?x ?y ?z
     case k => assumption
     case x => rfl
     case y => rfl
     case z => rfl)
  | (with_reducible refine' ev_bin ?x ?y ?z
     case x => walk_at "ev"
     case y => walk_at "ev"
     case z => walk_at "side")
  | (with_reducible refine' ev_index ?r ?x ?y ?z
     case r => rfl
     case x => walk_at "ev"
     case y => walk_at "ev"
     case z => walk_at "side")
  | (with_reducible refine' ev_dctitem ?r ?x ?y ?z
     case r => rfl
     case x => walk_at "evv"
     case y => walk_at "ev"
     case z => walk_at "side")
  | (with_reducible refine' ev_cmp ?r ?x ?y ?z
     case r => rfl
     case x => walk_at "ev"
     case y => walk_at "ev"
     case z => walk_at "side")
  | (with_reducible refine' ev_neg ?x
     case x => walk_at "ev")
  | (with_reducible refine' ev_tuple ?x ?y
     case x => walk_at "all"
     case y => exact Nat.le_of_ble_eq_true rfl)
  | (with_reducible refine' ev_list ?x ?y
     case x => walk_at "all"
     case y => exact Nat.le_of_ble_eq_true rfl)
  | (with_reducible refine' ev_max3 ?k ?b ?x
     case k => assumption
     case b => exact ⟨rfl, rfl, by decide, rfl, rfl⟩
     case x => walk_at "evs")
  | (with_reducible refine' ev_min3 ?k ?b ?x
     case k => assumption
     case b => exact ⟨rfl, rfl, by decide, rfl, rfl⟩
     case x => walk_at "evs")
  | (with_reducible refine' ev_intof ?k ?b ?r ?x ?y
     case k => assumption
     case b => exact ⟨rfl, rfl, by decide, rfl, rfl⟩
     case r => rfl
     case x => walk_at "ev"
     case y => walk_at "side")
  | (with_reducible refine' ev_lenof ?k ?b ?r ?x ?y
     case k => assumption
     case b => exact ⟨rfl, rfl, by decide, rfl, rfl⟩
     case r => rfl
     case x => walk_at "ev"
     case y => walk_at "side")
  | (with_reducible refine' ev_fnX ?k ?C ?hx ?hkx ?hdx ?ho ?hd ?hn ?ha
     case k => assumption
     case ha => walk_at "evs"
     case C => assumption
     case hx => rfl
     case hkx => rfl
     case hdx => rfl
     case ho => rfl
     case hd => rfl
     case hn => walk_at "rm"))
local macro_rules | `(tactic| walk_at "rm") => `(tactic| first
  | exact rm_of (by assumption) (by assumption) (by first | decide | omega)
  | (refine rm_inn ?_
     walk_at "rm"))
local macro_rules | `(tactic| walk_at "et") => `(tactic|
  (with_reducible refine' et_cmp ?r ?x ?y ?z
   case r => rfl
   case x => walk_at "ev"
   case y => walk_at "ev"
   case z => first | exact congrArg some (by assumption) | walk_at "side"))
section
open PySem PySem.W PySem.Calls PyProof.Rows
section
variable {prog : Program} {w : World}
theorem isnt_ok {n : Int} : Fun (KF w.params) prog w 69 1 [.d (.int n)] (.bool (decide (256 ≤ n))) := by
  intro A H s rs hh hd hu G hk hr
  have hb : bindArgs fd69 ⟨rs, []⟩ = pure ((["x"] : List Str).zip rs) := by cases hr with | cons _ hr => cases hr; kernel_rfl
  refine fn_enterZ (o := o69) (fd := fd69) (xs := ["x"]) (N := fun _ => False) hr rfl hh hd (by omega) G hk rfl rfl (by kernel_rfl) rfl rfl rfl rfl rfl rfl rfl hb (by decide) (by decide) ?_ (fun h ⟨_, f⟩ => f.elim)
  refine xs_retd ?_ (fun _ h => h)
  intro h hk k
  refine ev_cmp rfl (ev_nmD k rfl rfl rfl) (ev_gint k rfl rfl rfl) rfl

structure M6 where
  (a b c d e f : Int)
noncomputable def M6.tup (m : M6) : D := .tup [.int m.a, .int m.b, .int m.c, .int m.d, .int m.e, .int m.f]
structure M6.Sm (m : M6) : Prop where
  (a : SmallM m.a) (b : SmallM m.b) (c : SmallM m.c) (d : SmallM m.d) (e : SmallM m.e) (f : SmallM m.f)
noncomputable def M6.then (o t : M6) : M6 := ⟨o.a + t.a * o.c + t.b * o.e, o.b + t.a * o.d + t.b * o.f, t.c * o.c + t.d * o.e, t.c * o.d + t.d * o.f, t.e * o.c + t.f * o.e, t.e * o.d + t.f * o.f⟩
noncomputable def M6.back (o : M6) : M6 := ⟨o.b * o.e - o.a * o.f, o.a * o.d - o.b * o.c, o.f, -o.d, -o.e, o.c⟩
theorem then_ok {m n : M6} (hm : m.Sm) (hn : n.Sm) : Fun (KF w.params) prog w 262 1 [.d m.tup, .d n.tup] (m.then n).tup := by
  intro A H s rs hh hd hu G hk hr
  obtain ⟨m1, m2, m3, m4, m5, m6⟩ := hm
  obtain ⟨n1, n2, n3, n4, n5, n6⟩ := hn
  have hb : bindArgs fd262 ⟨rs, []⟩ = pure ((["one", "two"] : List Str).zip rs) := by cases hr with | cons _ hr => cases hr with | cons _ hr => cases hr; kernel_rfl
  refine fn_enterZ (o := o262) (fd := fd262) (xs := ["one", "two"]) (N := fun _ => False) hr rfl hh hd (by omega) G hk rfl rfl (by kernel_rfl) rfl rfl rfl rfl rfl rfl rfl hb (by decide) (by decide) ?_ (fun h ⟨_, f⟩ => f.elim)
  refine xs_retd ?_ (fun _ h => h)
  intro h hk k
  refine' ev_cast ?e ?h
  case e => walk_at "ev"
  case h => rfl
theorem back_ok {m : M6} (hm : m.Sm) : Fun (KF w.params) prog w 269 1 [.d m.tup] m.back.tup := by
  intro A H s rs hh hd hu G hk hr
  obtain ⟨m1, m2, m3, m4, m5, m6⟩ := hm
  have hb : bindArgs fd269 ⟨rs, []⟩ = pure ((["one"] : List Str).zip rs) := by cases hr with | cons _ hr => cases hr; kernel_rfl
  refine fn_enterZ (o := o269) (fd := fd269) (xs := ["one"]) (N := fun _ => False) hr rfl hh hd (by omega) G hk rfl rfl (by kernel_rfl) rfl rfl rfl rfl rfl rfl rfl hb (by decide) (by decide) ?_ (fun h ⟨_, f⟩ => f.elim)
  refine xs_retd ?_ (fun _ h => h)
  intro h hk k
  refine' ev_cast ?e ?h
  case e => walk_at "ev"
  case h => rfl
end
end
section
open PySem PySem.W PySem.Calls PyProof.Rows
section
variable {prog : Program} {w : World}
noncomputable def f0 : UInt64 := 0
noncomputable def f1 : UInt64 := 4607182418800017408
noncomputable def f2 : UInt64 := 4611686018427387904
noncomputable def f4 : UInt64 := 4616189618054758400
noncomputable def f6 : UInt64 := 4618441417868443648
noncomputable def feq (a b : UInt64) : Bool := Float64.cmp a b == some Ordering.eq
noncomputable def hsvF (h s v : UInt64) : Option (UInt64 × UInt64 × UInt64) :=
  bif feq s f0 then some (v, v, v) else
  bif Float64.isFinite (Float64.mul h f6) && small (PySem.Flt.toInt Float64.truncOf (Float64.mul h f6)) then
    let i := PySem.Flt.toInt Float64.truncOf (Float64.mul h f6)
    let f := Float64.sub (Float64.mul h f6) (Float64.ofInt i)
    let p := Float64.mul v (Float64.sub f1 s)
    let q := Float64.mul v (Float64.sub f1 (Float64.mul s f))
    let t := Float64.mul v (Float64.sub f1 (Float64.mul s (Float64.sub f1 f)))
    bif i.fmod 6 == 0 then some (v, t, p) else
    bif i.fmod 6 == 1 then some (q, v, p) else
    bif i.fmod 6 == 2 then some (p, v, t) else
    bif i.fmod 6 == 3 then some (p, q, v) else
    bif i.fmod 6 == 4 then some (t, p, v) else
    bif i.fmod 6 == 5 then some (v, p, q) else none
  else none
noncomputable def F3 (x : UInt64 × UInt64 × UInt64) : D := .tup [.flt x.1, .flt x.2.1, .flt x.2.2]
theorem hsv_ok {h s v : UInt64} {r : UInt64 × UInt64 × UInt64} (hs : hsvF h s v = some r) : Fun (KF w.params) prog w 59 1 [.d (.flt h), .d (.flt s), .d (.flt v)] (F3 r) := by
  intro A H st rs hh hd hu G hk hr
  have hb : bindArgs fd59 ⟨rs, []⟩ = pure ((["h", "s", "v"] : List Str).zip rs) := by cases hr with | cons _ hr => cases hr with | cons _ hr => cases hr with | cons _ hr => cases hr; kernel_rfl
  refine fn_enterZ (o := o59) (fd := fd59) (xs := ["h", "s", "v"]) (N := fun _ => False) hr rfl hh hd (by omega) G hk rfl rfl (by kernel_rfl) rfl rfl rfl rfl rfl rfl rfl hb (by decide) (by decide) ?_ (fun h ⟨_, f⟩ => f.elim)
  unfold hsvF at hs
  cases h1 : feq s f0 with
  | true =>
    rw [h1] at hs; cases hs
    refine' xs_if_ret (fun h hk k => ?e1) (xs_retD (fun _ h => h) (fun h hk k => ?e2) ?e3)
    case e1 => walk_at "et"
    case e2 => walk_at "ev"
    case e3 => rfl
  | false =>
    rw [h1] at hs
    cases h2 : Float64.isFinite (Float64.mul h f6) && small (PySem.Flt.toInt Float64.truncOf (Float64.mul h f6)) with
    | false => rw [h2] at hs; cases hs
    | true =>
      rw [h2] at hs
      obtain ⟨h3, h4⟩ := Bool.and_eq_true_iff.mp h2
      refine' xs_if_skip (fun h hk k => ?e1) (xs_assignD rfl (.inl rfl) (fun h hk k => ?e2) (xs_assignD rfl (.inl rfl) (fun h hk k => ?e3) (xs_assignD rfl (.inl rfl) (fun h hk k => ?e4) (xs_assignD rfl (.inl rfl) (fun h hk k => ?e5) (xs_assignD rfl (.inl rfl) (fun h hk k => ?e6) (xs_assignD rfl (.inl rfl) (fun h hk k => ?e7) ?e8))))))
      case e1 => walk_at "et"
      case e2 => walk_at "ev"
      case e3 => walk_at "ev"
      case e4 => walk_at "ev"
      case e5 => walk_at "ev"
      case e6 => walk_at "ev"
      case e7 => walk_at "ev"
      case e8 =>
        dsimp only [cond_true, cond_false] at hs
        cases g0 : (PySem.Flt.toInt Float64.truncOf (Float64.mul h f6)).fmod 6 == 0 with
        | true =>
          rw [g0] at hs
          cases hs
          refine' xs_if_ret (fun h hk k => ?e10) (xs_retD (fun _ h => h) (fun h hk k => ?e20) ?e30)
          case e10 => walk_at "et"
          case e20 => walk_at "ev"
          case e30 => rfl
        | false =>
        rw [g0] at hs
        dsimp only [cond_true, cond_false] at hs
        refine' xs_if_skip (fun h hk k => ?e40) ?e50
        case e40 => walk_at "et"
        case e50 =>
        cases g1 : (PySem.Flt.toInt Float64.truncOf (Float64.mul h f6)).fmod 6 == 1 with
        | true =>
          rw [g1] at hs
          cases hs
          refine' xs_if_ret (fun h hk k => ?e11) (xs_retD (fun _ h => h) (fun h hk k => ?e21) ?e31)
          case e11 => walk_at "et"
          case e21 => walk_at "ev"
          case e31 => rfl
        | false =>
        rw [g1] at hs
        dsimp only [cond_true, cond_false] at hs
        refine' xs_if_skip (fun h hk k => ?e41) ?e51
        case e41 => walk_at "et"
        case e51 =>
        cases g2 : (PySem.Flt.toInt Float64.truncOf (Float64.mul h f6)).fmod 6 == 2 with
        | true =>
          rw [g2] at hs
          cases hs
          refine' xs_if_ret (fun h hk k => ?e12) (xs_retD (fun _ h => h) (fun h hk k => ?e22) ?e32)
          case e12 => walk_at "et"
          case e22 => walk_at "ev"
          case e32 => rfl
        | false =>
        rw [g2] at hs
        dsimp only [cond_true, cond_false] at hs
        refine' xs_if_skip (fun h hk k => ?e42) ?e52
        case e42 => walk_at "et"
        case e52 =>
        cases g3 : (PySem.Flt.toInt Float64.truncOf (Float64.mul h f6)).fmod 6 == 3 with
        | true =>
          rw [g3] at hs
          cases hs
          refine' xs_if_ret (fun h hk k => ?e13) (xs_retD (fun _ h => h) (fun h hk k => ?e23) ?e33)
          case e13 => walk_at "et"
          case e23 => walk_at "ev"
          case e33 => rfl
        | false =>
        rw [g3] at hs
        dsimp only [cond_true, cond_false] at hs
        refine' xs_if_skip (fun h hk k => ?e43) ?e53
        case e43 => walk_at "et"
        case e53 =>
        cases g4 : (PySem.Flt.toInt Float64.truncOf (Float64.mul h f6)).fmod 6 == 4 with
        | true =>
          rw [g4] at hs
          cases hs
          refine' xs_if_ret (fun h hk k => ?e14) (xs_retD (fun _ h => h) (fun h hk k => ?e24) ?e34)
          case e14 => walk_at "et"
          case e24 => walk_at "ev"
          case e34 => rfl
        | false =>
        rw [g4] at hs
        dsimp only [cond_true, cond_false] at hs
        refine' xs_if_skip (fun h hk k => ?e44) ?e54
        case e44 => walk_at "et"
        case e54 =>
        cases g5 : (PySem.Flt.toInt Float64.truncOf (Float64.mul h f6)).fmod 6 == 5 with
        | true =>
          rw [g5] at hs
          cases hs
          refine' xs_if_ret (fun h hk k => ?e15) (xs_retD (fun _ h => h) (fun h hk k => ?e25) ?e35)
          case e15 => walk_at "et"
          case e25 => walk_at "ev"
          case e35 => rfl
        | false =>
        rw [g5] at hs
        cases hs
end
end
section
open PySem PySem.W PySem.Calls PyProof.Rows
section
variable {prog : Program} {w : World}
noncomputable def rgbF (r g b : UInt64) : Option (UInt64 × UInt64 × UInt64) :=
  let mx := maxF r g b
  let mn := minF r g b
  let rg := Float64.sub mx mn
  bif feq mn mx then some (f0, f0, mx) else
  bif Float64.isZero rg || Float64.isZero mx then none else
  let s := Float64.div rg mx
  let rc := Float64.div (Float64.sub mx r) rg
  let gc := Float64.div (Float64.sub mx g) rg
  let bc := Float64.div (Float64.sub mx b) rg
  let h := bif feq r mx then Float64.sub bc gc else bif feq g mx then Float64.sub (Float64.add f2 rc) bc else Float64.sub (Float64.add f4 gc) rc
  some ((Float64.divmod (Float64.div h f6) f1).2, s, mx)
theorem rgb_ok {r g b : UInt64} {o : UInt64 × UInt64 × UInt64} (hs : rgbF r g b = some o) : Fun (KF w.params) prog w 52 1 [.d (.flt r), .d (.flt g), .d (.flt b)] (F3 o) := by
  intro A H st rs hh hd hu G hk hr
  have hb : bindArgs fd52 ⟨rs, []⟩ = pure ((["r", "g", "b"] : List Str).zip rs) := by cases hr with | cons _ hr => cases hr with | cons _ hr => cases hr with | cons _ hr => cases hr; kernel_rfl
  refine fn_enterZ (o := o52) (fd := fd52) (xs := ["r", "g", "b"]) (N := fun _ => False) hr rfl hh hd (by omega) G hk rfl rfl (by kernel_rfl) rfl rfl rfl rfl rfl rfl rfl hb (by decide) (by decide) ?_ (fun h ⟨_, f⟩ => f.elim)
  unfold rgbF at hs
  dsimp only at hs
  generalize hmx : maxF r g b = mx at hs
  generalize hmn : minF r g b = mn at hs
  refine' xs_assignD (d := .flt mx) rfl (.inl rfl) (fun h hk k => ev_cast ?a1 (congrArg D.flt hmx)) (xs_assignD (d := .flt mn) rfl (.inl rfl) (fun h hk k => ev_cast ?a2 (congrArg D.flt hmn)) (xs_assignD rfl (.inl rfl) (fun h hk k => ?a3) (xs_assignD rfl (.inl rfl) (fun h hk k => ?a4) ?a5)))
  case a1 => walk_at "ev"
  case a2 => walk_at "ev"
  case a3 => walk_at "ev"
  case a4 => walk_at "ev"
  case a5 =>
    cases h1 : feq mn mx with
    | true =>
      rw [h1] at hs; cases hs
      refine' xs_if_ret (fun h hk k => ?b1) (xs_retD (fun _ h => h) (fun h hk k => ?b2) ?b3)
      case b1 => walk_at "et"
      case b2 => walk_at "ev"
      case b3 => rfl
    | false =>
    rw [h1] at hs
    cases h2 : Float64.isZero (Float64.sub mx mn) with
    | true => rw [h2] at hs; cases hs
    | false =>
    cases h3 : Float64.isZero mx with
    | true => rw [h2, h3] at hs; cases hs
    | false =>
    rw [h2, h3] at hs
    dsimp only [cond_true, cond_false, Bool.or_self] at hs
    refine' xs_if_skip (fun h hk k => ?c1) (xs_assignD rfl (.inl rfl) (fun h hk k => ?c2) (xs_assignD rfl (.inl rfl) (fun h hk k => ?c3) (xs_assignD rfl (.inl rfl) (fun h hk k => ?c4) (xs_assignD rfl (.inl rfl) (fun h hk k => ?c5) ?c6))))
    case c1 => walk_at "et"
    case c2 => walk_at "ev"
    case c3 => walk_at "ev"
    case c4 => walk_at "ev"
    case c5 => walk_at "ev"
    case c6 =>
    cases h4 : feq r mx with
    | true =>
      rw [h4] at hs; cases hs
      refine' xs_if_t (fun h hk k => ?d1) (xs_assignD rfl (.inl rfl) (fun h hk k => ?d2) (xs_nil rfl)) (xs_assignD rfl (.inl rfl) (fun h hk k => ?d3) (xs_retD (fun _ h => h) (fun h hk k => ?d4) ?d5))
      case d1 => walk_at "et"
      case d2 => walk_at "ev"
      case d3 => walk_at "ev"
      case d4 => walk_at "ev"
      case d5 => rfl
    | false =>
    cases h5 : feq g mx with
    | true =>
      rw [h4, h5] at hs; cases hs
      refine' xs_if_f (fun h hk k => ?d1) (xs_if_t (fun h hk k => ?d6) (xs_assignD rfl (.inl rfl) (fun h hk k => ?d2) (xs_nil rfl)) (xs_nil rfl)) (xs_assignD rfl (.inl rfl) (fun h hk k => ?d3) (xs_retD (fun _ h => h) (fun h hk k => ?d4) ?d5))
      case d1 => walk_at "et"
      case d6 => walk_at "et"
      case d2 => walk_at "ev"
      case d3 => walk_at "ev"
      case d4 => walk_at "ev"
      case d5 => rfl
    | false =>
      rw [h4, h5] at hs; cases hs
      refine' xs_if_f (fun h hk k => ?d1) (xs_if_f (fun h hk k => ?d6) (xs_assignD rfl (.inl rfl) (fun h hk k => ?d2) (xs_nil rfl)) (xs_nil rfl)) (xs_assignD rfl (.inl rfl) (fun h hk k => ?d3) (xs_retD (fun _ h => h) (fun h hk k => ?d4) ?d5))
      case d1 => walk_at "et"
      case d6 => walk_at "et"
      case d2 => walk_at "ev"
      case d3 => walk_at "ev"
      case d4 => walk_at "ev"
      case d5 => rfl
end
end
section
open PySem PySem.W PySem.Calls PyProof.Rows
section
variable {prog : Program} {w : World}
theorem crossed_ok {o u r : UInt64 × UInt64 × UInt64} {x y : UInt64 × UInt64 × UInt64} (h1 : rgbF o.1 o.2.1 o.2.2 = some x) (h2 : rgbF u.1 u.2.1 u.2.2 = some y)
    (h3 : hsvF (Float64.add (Float64.sub (Float64.mul (Float64.ofInt 2) x.1) y.1) (Float64.ofInt 1)) y.2.1 y.2.2 = some r) : Fun (KF w.params) prog w 248 2 [.d (F3 o), .d (F3 u)] (F3 r) := by
  intro A H st rs hh hd hu G hk hr
  have hb : bindArgs fd248 ⟨rs, []⟩ = pure ((["over", "under"] : List Str).zip rs) := by cases hr with | cons _ hr => cases hr with | cons _ hr => cases hr; kernel_rfl
  refine fn_enterZ (o := o248) (fd := fd248) (xs := ["over", "under"]) (N := fun _ => False) hr rfl hh (by omega) (by omega) G hk rfl rfl (by kernel_rfl) rfl rfl rfl rfl rfl rfl rfl hb (by decide) (by decide) ?_ (fun h ⟨_, f⟩ => f.elim)
  have C1 := rgb_ok (prog := prog) (w := w) h1
  have C2 := rgb_ok (prog := prog) (w := w) h2
  have C3 := hsv_ok (prog := prog) (w := w) h3
  refine' xs_assignD rfl (.inl rfl) (fun h hk k => ?a1) (xs_unpackD (d := F3 y) (ds := [.flt y.1, .flt y.2.1, .flt y.2.2]) (.cons (.cons (.cons .nil))) (fun h hk k => ?a2) rfl rfl ?b2 rfl rfl rfl rfl rfl (xs_retD (fun _ h => h) (fun h hk k => ?a3) ?b3))
  case a1 => walk_at "ev"
  case a2 => walk_at "ev"
  case b2 => intro x hx; simp only [List.mem_cons, List.not_mem_nil, or_false] at hx; rcases hx with rfl | rfl | rfl <;> exact .inl rfl
  case a3 => walk_at "ev"
  case b3 => rfl
end
end
section
open PySem PySem.W PySem.Calls PyProof.Rows
section
variable {prog : Program} {w : World}
noncomputable def turn (i : Int) : Int := Builtin.bitXor i 1
noncomputable def fInt (f : Int → Int) : D → D
  | .int i => .int (f i)
  | d => d
theorem map_fInt {f : Int → Int} (ws : List Int) : (ws.map D.int).map (fInt f) = (ws.map f).map D.int := by rw [List.map_map, List.map_map]; rfl
noncomputable def undo (ws : List Int) : List Int := ws.reverse.map turn
theorem filter_true {α : Type} (l : List α) : l.filter (fun _ => true) = l := by induction l with
  | nil => rfl
  | cons a l ih => rw [List.filter_cons_of_pos rfl, ih]
theorem undone_ok {ws : List Int} (hl : ws.length ≤ seqMax) : Fun (KF w.params) prog w 234 1 [.d (.lst (ws.map .int))] (.lst ((undo ws).map .int)) := by
  intro A H st rs hh hd hu G hk hr
  have hb : bindArgs fd234 ⟨rs, []⟩ = pure ((["word"] : List Str).zip rs) := by cases hr with | cons _ hr => cases hr; kernel_rfl
  refine fn_enterZ (o := o234) (fd := fd234) (xs := ["word"]) (N := fun _ => False) hr rfl hh (by omega) (by omega) G hk rfl rfl (by kernel_rfl) rfl rfl rfl rfl rfl rfl rfl hb (by decide) (by decide) ?_ (fun h ⟨_, f⟩ => f.elim)
  refine' xs_retD (fun _ h => h) (fun h hk k => ev_comp (tp := true) (hid := false) (cl := []) (fun _ => true) (fInt turn) (evIt_data (ev_rev ?a1 ?a2 ?a3) (.inl rfl)) ?b1 ?b2 ?b3 ?b4 ?b5 ?b6 ?b7 ?b8) ?b9
  case a1 => walk_at "ev"
  case a2 => exact ev_cast (ev_neg ev_int) rfl
  case a3 => rw [List.length_map]; exact hl
  case b1 => rfl
  case b2 => decide
  case b3 => rfl
  case b4 => decide
  case b5 => exact fun _ => rfl
  case b6 => rw [List.length_reverse, List.length_map]; exact hl
  case b7 => exact fun C H d hd => tgt_name rfl rfl
  case b8 =>
    intro C H hb h3 m d hd hI kp tr hk hn b
    refine ⟨.inl ⟨rfl, rfl⟩, fun _ => ?_⟩
    obtain ⟨i, hi, rfl⟩ := List.mem_map.mp (List.mem_reverse.mp hd)
    refine' ev_with (k.inner (σ₂ := []) hI kp tr hk rfl hn b ?l1 ?l2 ?l3) fun k' => ev_cast ?c1 ?c2
    case l1 => rfl
    case l2 => exact ⟨rfl, trivial⟩
    case l3 => trivial
    case c1 => walk_at "ev"
    case c2 => rfl
  case b9 => rw [filter_true, ← List.map_reverse, map_fInt]; rfl
end
end
section
open PySem PySem.W PySem.Calls PyProof.Rows
section
variable {prog : Program} {w : World}
noncomputable def M6.one : M6 := ⟨0, 0, 1, 0, 0, 1⟩
noncomputable def ch1 (c : Nat) : Str := ⟨#[c]⟩
noncomputable def wordM (f : Nat → M6) (cs : List Nat) : M6 := cs.foldl (fun m c => m.then (f c)) M6.one
theorem wordM_snoc (f : Nat → M6) (cs : List Nat) (c : Nat) : wordM f (cs ++ [c]) = (wordM f cs).then (f c) := by simp [wordM]
theorem word_ok {x : Str} {a : Addr} {kds : List (Str × D)} {f : Nat → M6} (hf : ∀ c ∈ x.cps.toList, kds.lookup (ch1 c) = some (f c).tup ∧ (f c).Sm) (hw : ∀ n, (wordM f (x.cps.toList.take n)).Sm) :
    Fun (KF w.params) prog w 276 2 [.d (.str x), .dct prog w a kds] (wordM f x.cps.toList).tup := by
  intro A H st rs hh hd hu G hk hr
  have hb : bindArgs fd276 ⟨rs, []⟩ = pure ((["part", "known"] : List Str).zip rs) := by cases hr with | cons _ hr => cases hr with | cons _ hr => cases hr; kernel_rfl
  refine fn_enterZ (o := o276) (fd := fd276) (xs := ["part", "known"]) (N := fun _ => False) hr rfl hh (by omega) (by omega) G hk rfl rfl (by kernel_rfl) rfl rfl rfl rfl rfl rfl rfl hb (by decide) (by decide) ?_ (fun h ⟨_, f⟩ => f.elim)
  have hlen : (signs x).length = x.cps.toList.length := by simp [signs]
  refine' xs_assignD rfl (.inl rfl) (fun h hk k => ?a1) (xs_for (σs := fun i => [("whole", .d (wordM f (x.cps.toList.take i)).tup), ("part", .d (.str x)), ("known", .dct prog w a kds)]) (Inv := fun _ => True) (bd := fun d => [("sign", .d d)])
    (fun h hk k => evIt_data (ds := signs x) (tp := false) ?a2 (.inr (.inr ⟨x, rfl, rfl, rfl⟩))) ?a3 ?a4 trivial ?a5 ?a6 (by intro h; cases h) ?a7 fun _ => ?a8)
  case a1 => walk_at "ev"
  case a2 => walk_at "ev"
  case a3 => exact fun _ => rfl
  case a4 => exact .cons rfl (.cons rfl (.cons rfl .nil))
  case a5 => exact fun i y v e => FpLe.get (τ := [("whole", .d (wordM f (x.cps.toList.take i)).tup), ("part", .d (.str x)), ("known", .dct prog w a kds)]) ⟨.inl rfl, .inl rfl, .inr ⟨"known", _, rfl, rfl⟩, trivial⟩ e
  case a6 => exact fun d hd => tgf_name (.inl rfl)
  case a7 =>
    intro I i d hi _
    obtain ⟨c, hc, rfl⟩ : ∃ c, x.cps.toList[i]? = some c ∧ d = .str (ch1 c) := by
      simp only [signs, List.getElem?_map] at hi
      obtain ⟨c, e, q⟩ := Option.map_eq_some_iff.mp hi
      exact ⟨c, e, q.symm⟩
    obtain ⟨f1, f2⟩ := hf c (List.mem_of_getElem? hc)
    have C := then_ok (prog := prog) (w := w) (hw i) f2
    have e1 : x.cps.toList.take (i + 1) = x.cps.toList.take i ++ [c] := by rw [List.take_add_one, hc]; rfl
    have e2 : wordM f (x.cps.toList.take (i + 1)) = (wordM f (x.cps.toList.take i)).then (f c) := by rw [e1, wordM_snoc]
    refine' xs_assignD rfl (.inl rfl) (fun h hk k => ?c1) (xs_nil ⟨.cons ?c2 (.cons rfl (.cons rfl .nil)), trivial⟩)
    case c1 => walk_at "ev"
    case c2 => rw [e2]; rfl
  case a8 =>
    refine' xs_retD (fun _ h => h) (fun h hk k => ?b1) ?b2
    case b1 => walk_at "ev"
    case b2 => rw [hlen, List.take_length]
end
end
section
open PySem PySem.W PySem.Calls PyProof.Rows
section
variable {prog : Program} {w : World}
noncomputable def tick : Str := Str.ofString "'"
noncomputable def decD (x : Str) : D := if (Txt.splitMax x tick 2).length ≤ 2 then .tup [.none, .none, .str x] else .lst ((Txt.splitMax x tick 2).map .str)
theorem decode_ok {x : Str} (hx : x.length ≤ seqMax) (hl : (Txt.splitMax x tick 2).length ≤ 3) : Fun (KF w.params) prog w 45 1 [.d (.str x)] (decD x) := by
  intro A H st rs hh hd hu G hk hr
  have hb : bindArgs fd45 ⟨rs, []⟩ = pure ((["s"] : List Str).zip rs) := by cases hr with | cons _ hr => cases hr; kernel_rfl
  refine fn_enterZ (o := o45) (fd := fd45) (xs := ["s"]) (N := fun _ => False) hr rfl hh (by omega) (by omega) G hk rfl rfl (by kernel_rfl) rfl rfl rfl rfl rfl rfl rfl hb (by decide) (by decide) ?_ (fun h ⟨_, f⟩ => f.elim)
  have hlen : lenD (.lst ((Txt.splitMax x tick 2).map .str)) = some (((Txt.splitMax x tick 2).length : Nat) : Int) := by
    show (if ((Txt.splitMax x tick 2).map D.str).length ≤ seqMax then some (((Txt.splitMax x tick 2).map D.str).length : Int) else none) = _
    rw [List.length_map, if_pos (Nat.le_trans hl (by decide))]
  refine' xs_assignD rfl (.inl rfl) (fun h hk k => ev_split (x := x) (y := tick) (n := 2) rfl rfl rfl rfl ?a1 ?a2 ?a3 hx rfl rfl) ?a4
  case a1 => walk_at "ev"
  case a2 => walk_at "ev"
  case a3 => walk_at "ev"
  case a4 =>
    by_cases h3 : (Txt.splitMax x tick 2).length ≤ 2
    · have hc : decide ((((Txt.splitMax x tick 2).length : Nat) : Int) ≤ 2) = true := decide_eq_true (by omega)
      refine' xs_if_ret (fun h hk k => ?b1) (xs_retD (fun _ h => h) (fun h hk k => ?b2) ?b3)
      case b1 => walk_at "et"
      case b2 => walk_at "ev"
      case b3 => exact (if_pos h3).symm
    · have hc : decide ((((Txt.splitMax x tick 2).length : Nat) : Int) ≤ 2) = false := decide_eq_false (by omega)
      refine' xs_if_skip (fun h hk k => ?b1) (xs_retD (fun _ h => h) (fun h hk k => ?b2) ?b3)
      case b1 => walk_at "et"
      case b2 => walk_at "ev"
      case b3 => exact (if_neg h3).symm

/-- the signs that a name's texts are made of -/
noncomputable def sgs (l : Nat) : Str := Txt.slice (Str.ofString "+-<>aAbB") none (some (4 + 2 * (l : Int)))
noncomputable def sg (i : Nat) : Nat := ((Str.ofString "+-<>aAbB").cps[i]?).getD 0
noncomputable def partsD (form : Nat) (x y z : Str) : List Str := match form with
  | 0 => [x ++ y ++ z]
  | 1 => [x, y, z]
  | 2 => [x, y, Str.ofString ""]
  | 3 => [x, y ++ z]
  | _ => [x, y, z, Str.ofString ""]
theorem sgs_all : ((List.range 3).all fun l => (sgs l).length == 4 + 2 * l && (List.range (4 + 2 * l)).all fun i => (sgs l).cps[i]? == some (sg i)) = true := by decide +kernel
theorem sgs_at {l i : Nat} (hl : l < 3) (hi : i < 4 + 2 * l) : (sgs l).length = 4 + 2 * l ∧ itemD (.str (sgs l)) (i : Int) = some (.str (ch1 (sg i))) := by
  have h := List.all_eq_true.mp sgs_all l (List.mem_range.mpr hl)
  obtain ⟨h1, h2⟩ := Bool.and_eq_true_iff.mp h
  have h1 : (sgs l).length = 4 + 2 * l := by simpa using h1
  have h2 : (sgs l).cps[i]? = some (sg i) := by simpa using List.all_eq_true.mp h2 i (List.mem_range.mpr hi)
  refine ⟨h1, ?_⟩
  have hb : (decide ((0 : Int) ≤ (i : Int)) && decide ((sgs l).length ≤ seqMax)) = true := by
    rw [h1, decide_eq_true (by omega : (0 : Int) ≤ (i : Int)), decide_eq_true (show 4 + 2 * l ≤ seqMax by have : seqMax = 100000 := rfl; omega)]; rfl
  show (if (decide ((0 : Int) ≤ (i : Int)) && decide ((sgs l).length ≤ seqMax)) = true then (sgs l).cps[(i : Int).toNat]?.map fun ch => D.str ⟨#[ch]⟩ else none) = _
  rw [if_pos hb, Int.toNat_natCast, h2]; rfl
/-- the digits of a cell -/
noncomputable def cl (n : Nat) : Nat := n / 4 % 3
noncomputable def cform (n : Nat) : Nat := n / 12 % 5
noncomputable def cdig (n k : Nat) : Nat := n / 60 / 8 ^ k % 8 % (4 + 2 * cl n)
theorem fd (a b : Nat) : Int.fdiv (a : Int) (b : Int) = ((a / b : Nat) : Int) := by rw [Int.fdiv_eq_ediv_of_nonneg _ (by omega)]; rfl
theorem fm (a b : Nat) : Int.fmod (a : Int) (b : Int) = ((a % b : Nat) : Int) := by rw [Int.fmod_eq_emod_of_nonneg _ (by omega)]; rfl
end
end
section
open PySem PySem.W PySem.Calls PyProof.Rows
section
variable {prog : Program} {w : World}
theorem mod_side {a b : Int} (h : b ≠ 0) : binD .Mod (.int a) (.int b) = some (.int (a.fmod b)) := if_pos (by simpa using h)
noncomputable def fPart (n : Nat) : D → D
  | .int k => .str (ch1 (sg (cdig n k.toNat)))
  | d => d
theorem digs (n : Nat) (k : Nat) : Int.fmod (Int.fmod (Int.fdiv (Int.fdiv (n : Int) ((60 : Nat) : Int)) ((8 ^ k : Nat) : Int)) ((8 : Nat) : Int)) ((4 + 2 * cl n : Nat) : Int) = ((cdig n k : Nat) : Int) := by
  rw [fd, fd, fm, fm]; rfl
theorem pow_side {j : Nat} (h : j < 3) : binD .Pow (.int 8) (.int (j : Int)) = some (.int ((8 ^ j : Nat) : Int)) := by
  match j, h with
  | 0, _ => rfl
  | 1, _ => rfl
  | 2, _ => rfl
theorem fdiv_side {j : Nat} {a : Int} (h : j < 3) : binD .FloorDiv (.int a) (.int ((8 ^ j : Nat) : Int)) = some (.int (a.fdiv ((8 ^ j : Nat) : Int))) := by
  match j, h with
  | 0, _ => rfl
  | 1, _ => rfl
  | 2, _ => rfl
theorem part_at {m : Nat} (h : m < 5) (x y z : Str) : itemD (.lst [.lst [.str (x ++ y ++ z)], .lst [.str x, .str y, .str z], .lst [.str x, .str y, .str (Str.ofString "")], .lst [.str x, .str (y ++ z)], .lst [.str x, .str y, .str z, .str (Str.ofString "")]]) (m : Int) =
    some (.lst ((partsD m x y z).map .str)) := by
  match m, h with
  | 0, _ => rfl
  | 1, _ => rfl
  | 2, _ => rfl
  | 3, _ => rfl
  | 4, _ => rfl
theorem parts_ok {n : Nat} : Fun (KF w.params) prog w 224 1 [.d (.int n)] (.lst ((partsD (cform n) (ch1 (sg (cdig n 0))) (ch1 (sg (cdig n 1))) (ch1 (sg (cdig n 2)))).map .str)) := by
  intro A H st rs hh hd hu G hk hr
  have hb : bindArgs fd224 ⟨rs, []⟩ = pure ((["cell"] : List Str).zip rs) := by cases hr with | cons _ hr => cases hr; kernel_rfl
  refine fn_enterZ (o := o224) (fd := fd224) (xs := ["cell"]) (N := fun _ => False) hr rfl hh (by omega) (by omega) G hk rfl rfl (by kernel_rfl) rfl rfl rfl rfl rfl rfl rfl hb (by decide) (by decide) ?_ (fun h ⟨_, f⟩ => f.elim)
  have hcl : cl n < 3 := Nat.mod_lt _ (by decide)
  have hm4 : SmallM (Int.fmod (Int.fdiv (n : Int) 4) 3) := by
    have e : Int.fmod (Int.fdiv (n : Int) 4) 3 = ((cl n : Nat) : Int) := by
      show Int.fmod (Int.fdiv (n : Int) ((4 : Nat) : Int)) ((3 : Nat) : Int) = _
      rw [fd, fm]; rfl
    rw [e]; exact SmallM.of_lt 64 (by omega) (by decide)
  have hm2 : SmallM 2 := SmallM.of_lt 64 (by decide) (by decide)
  have hc5 : cform n < 5 := Nat.mod_lt _ (by decide)
  have hlen : lenD (.str (sgs (cl n))) = some ((4 + 2 * cl n : Nat) : Int) := by
    have e := (sgs_at hcl (i := 0) (by omega)).1
    show (if (sgs (cl n)).length ≤ seqMax then some ((sgs (cl n)).length : Int) else none) = _
    rw [e, if_pos (by have : seqMax = 100000 := rfl; omega)]
  refine' xs_assignD rfl (.inr ⟨rfl, _, rfl⟩) (d := .str (sgs (cl n))) (fun h hk k => ev_cast (ev_upto_str ?a1 ?a2 ?a3) ?a4)
    (xs_unpackD (d := .lst [.str (ch1 (sg (cdig n 0))), .str (ch1 (sg (cdig n 1))), .str (ch1 (sg (cdig n 2)))]) (ds := [.str (ch1 (sg (cdig n 0))), .str (ch1 (sg (cdig n 1))), .str (ch1 (sg (cdig n 2)))]) (.cons (.cons (.cons .nil)))
      (fun h hk k => ev_cast (ev_comp (tp := false) (hid := false) (ds := upto 3) (fun _ => true) (fPart n) (evIt_range k ?r1 ?r2 ?r3 ?r4 ?r5) ?b1 ?b2 ?b3 ?b4 ?b5 ?b6 ?b7 ?b8) ?b9) rfl rfl ?b10 rfl rfl rfl rfl rfl
      (xs_retD (fun _ h => h) (fun h hk k => ev_index rfl ?c1 (ev_cast ?c2 ?c3) ?c4) rfl))
  case a1 => walk_at "ev"
  case a2 => walk_at "ev"
  case a3 => decide
  case a4 =>
    have e : Int.fmod (Int.fdiv (n : Int) 4) 3 = ((cl n : Nat) : Int) := by
      show Int.fmod (Int.fdiv (n : Int) ((4 : Nat) : Int)) ((3 : Nat) : Int) = _
      rw [fd, fm]; rfl
    rw [e]; rfl
  case r1 => exact ⟨rfl, rfl, by decide, rfl, rfl⟩
  case r2 => rfl
  case r3 => exact ev_int
  case r4 => decide
  case r5 => decide
  case b1 => rfl
  case b2 => decide
  case b3 => rfl
  case b4 => decide
  case b5 => exact fun _ => rfl
  case b6 => decide
  case b7 => exact fun C H d hd => tgt_name rfl rfl
  case b8 =>
    intro C H' hb h3 m d hd hI kp tr hk hn b
    refine ⟨.inl ⟨rfl, rfl⟩, fun _ => ?_⟩
    obtain ⟨j, hj, rfl⟩ : ∃ j : Nat, j < 3 ∧ d = .int j := by
      simp only [upto, List.nil_append, List.cons_append, List.mem_cons, List.not_mem_nil, or_false] at hd
      rcases hd with rfl | rfl | rfl
      · exact ⟨0, by decide, rfl⟩
      · exact ⟨1, by decide, rfl⟩
      · exact ⟨2, by decide, rfl⟩
    have hdig : cdig n j < 4 + 2 * cl n := Nat.mod_lt _ (by omega)
    refine' ev_with (k.inner (σ₂ := [("cell", .d (.int n)), ("signs", .d (.str (sgs (cl n))))]) hI kp tr hk rfl hn b ?l1 ?l2 ?l3) fun k' => ev_index rfl ?d1 (ev_cast (ev_bin (ev_bin (ev_bin ?d2 (ev_bin ?d3 ?d4 ?d5) ?d6) ?d7 ?d8) (ev_lenof k' ?d9 ?d10 ?d11 hlen) (mod_side (by omega))) ?d12) (sgs_at hcl hdig).2
    case l1 => rfl
    case l2 => exact ⟨rfl, trivial⟩
    case l3 => exact ⟨⟨rfl, .inl rfl, .inl rfl, rfl⟩, ⟨rfl, .inl rfl, .inl rfl, rfl⟩, trivial⟩
    case d1 => walk_at "ev"
    case d2 => walk_at "ev"
    case d3 => walk_at "ev"
    case d4 => walk_at "ev"
    case d5 => exact pow_side hj
    case d6 => exact fdiv_side hj
    case d7 => walk_at "ev"
    case d8 => exact mod_side (by decide)
    case d9 => exact ⟨rfl, rfl, by decide, rfl, rfl⟩
    case d10 => rfl
    case d11 => walk_at "ev"
    case d12 => exact congrArg D.int (digs n j)
  case b9 => rfl
  case b10 => intro x hx; simp only [List.mem_cons, List.not_mem_nil, or_false] at hx; rcases hx with rfl | rfl | rfl <;> exact .inl rfl
  case c1 => walk_at "ev"
  case c2 => walk_at "ev"
  case c3 =>
    have e : Int.fmod (Int.fdiv (n : Int) ((12 : Nat) : Int)) ((5 : Nat) : Int) = ((cform n : Nat) : Int) := by rw [fd, fm]; rfl
    exact congrArg D.int e
  case c4 => exact part_at hc5 _ _ _
end
end
section
open PySem PySem.W PySem.Calls PyProof.Rows
section
variable {prog : Program} {w : World}
noncomputable def symv (c : Nat) : Int := if c = 43 then 14 else if c = 45 then 15 else if c = 60 then 20 else if c = 62 then 21 else if c = 97 then 256 else if c = 65 then 257 else if c = 98 then 258 else if c = 66 then 259 else if c = 99 then 260 else 261
noncomputable def ops : List Nat := [43, 45, 60, 62]
noncomputable def letters : List Nat := [97, 65, 98, 66, 99, 67]
noncomputable def stepF (ws : List Int) (c : Nat) : List Int := if c = 39 then ws.dropLast ++ [turn (ws.getLastD 0)] else ws ++ [symv c]
noncomputable def flatL (cs : List Nat) : List Int := cs.foldl stepF []
theorem flatL_snoc (cs : List Nat) (c : Nat) : flatL (cs ++ [c]) = stepF (flatL cs) c := by simp [flatL]
noncomputable def okc (ws : List Int) (c : Nat) : Prop := (c = 39 ∧ ws ≠ []) ∨ c ∈ ops ∨ c ∈ letters
theorem keys60 (P : Params) : ∃ es n, (KF P).lookup 60 = some ⟨.type "dict", none, .dict es n, #[]⟩ ∧ KeysLit P es.toList := by
  refine ⟨_, _, rfl, ?_⟩
  repeat' (first | exact trivial | refine ⟨⟨_, _, rfl, rfl⟩, ?_⟩)
theorem tab_op {P : Params} {c : Nat} (h : c ∈ ops) : ∃ t, nsIn (KF P) 60 (ch1 c) = some (some (.int (symv c) t)) := by
  simp only [ops, List.mem_cons, List.not_mem_nil, or_false] at h
  rcases h with rfl | rfl | rfl | rfl <;> exact ⟨_, rfl⟩
theorem tab_letter {P : Params} {c : Nat} (h : c ∈ letters) : nsIn (KF P) 60 (ch1 c) = some none := by
  simp only [letters, List.mem_cons, List.not_mem_nil, or_false] at h
  rcases h with rfl | rfl | rfl | rfl | rfl | rfl <;> rfl
theorem find_letter {c : Nat} (h : c ∈ letters) : 0 ≤ Txt.find (Str.ofString "aAbBcC") (ch1 c) ∧ 256 + Txt.find (Str.ofString "aAbBcC") (ch1 c) = symv c := by
  simp only [letters, List.mem_cons, List.not_mem_nil, or_false] at h
  rcases h with rfl | rfl | rfl | rfl | rfl | rfl <;> decide +kernel
theorem not_tick {c : Nat} (h : c ∈ ops ∨ c ∈ letters) : c ≠ 39 := by rintro rfl; revert h; decide

theorem last_split {ws : List Int} (h : ws ≠ []) : ws.map D.int = (ws.dropLast.map D.int) ++ [D.int (ws.getLastD 0)] := by
  have e : ws = ws.dropLast ++ [ws.getLastD 0] := by
    cases ws with
    | nil => exact absurd rfl h
    | cons a l => rw [List.getLastD_eq_getLast?, List.getLast?_eq_some_getLast h]; exact (List.dropLast_concat_getLast h).symm
  calc ws.map D.int = (ws.dropLast ++ [ws.getLastD 0]).map D.int := by rw [← e]
    _ = _ := by rw [List.map_append]; rfl
theorem stepF_len (ws : List Int) (c : Nat) (h : c = 39 → ws ≠ []) : (stepF ws c).length ≤ ws.length + 1 := by
  unfold stepF
  split
  · rename_i e
    have := List.length_pos_iff.mpr (h e)
    rw [List.length_append, List.length_dropLast]
    show ws.length - 1 + 1 ≤ ws.length + 1
    omega
  · simp
theorem fp_none {a : Addr} {σ : Sig} (h : ∀ p ∈ σ, p.2.fp = []) : ∀ y v, σ.lookup y = some v → a ∉ v.fp := by
  induction σ with
  | nil => intro y v e; cases e
  | cons p r ih =>
    obtain ⟨x, u⟩ := p
    intro y v e
    rcases lookup_set e with ⟨rfl, rfl⟩ | ⟨_, e⟩
    · rw [h _ List.mem_cons_self]; exact List.not_mem_nil
    · exact ih (fun p hp => h p (List.mem_cons_of_mem _ hp)) y v e
theorem symbols_flat {x : Str} {n : Nat} (hx : x.length ≤ 1000) (hdec : decD x = .tup [.none, .none, .str x]) (hl : (Txt.splitMax x tick 2).length ≤ 3) (hok : ∀ i c, x.cps.toList[i]? = some c → okc (flatL (x.cps.toList.take i)) c) (hlen : ∀ i, (flatL (x.cps.toList.take i)).length ≤ i) :
    Fun (KF w.params) prog w 241 (n + 2) [.d (.str x)] (.lst ((flatL x.cps.toList).map .int)) := by
  intro A H st rs hh hd hu G hk hr
  have hb : bindArgs fd241 ⟨rs, []⟩ = pure ((["text"] : List Str).zip rs) := by cases hr with | cons _ hr => cases hr; kernel_rfl
  refine fn_enterZ (o := o241) (fd := fd241) (xs := ["text"]) (N := fun _ => False) hr rfl hh (by omega) (by omega) G hk rfl rfl (by kernel_rfl) rfl rfl rfl rfl rfl rfl rfl hb (by decide) (by decide) ?_ (fun h ⟨_, f⟩ => f.elim)
  have C := decode_ok (prog := prog) (w := w) (x := x) (by have : seqMax = 100000 := rfl; omega) hl
  rw [hdec] at C
  have hsl : (signs x).length = x.cps.toList.length := by simp [signs]
  have hd' : A.depth + 2 ≤ 900 := by omega
  have hu' : A.units + 3 * 2 + 100 < cLine := by omega
  refine' xs_unpackD (d := .tup [.none, .none, .str x]) (ds := [.none, .none, .str x]) (.cons (.cons (.cons .nil))) (fun h hk k => ?a1) rfl rfl ?a2 rfl rfl rfl rfl rfl (xs_newlist (.inl rfl) (fun a => ?a3) rfl)
  case a1 => walk_at "ev"
  case a2 => intro x hx; simp only [List.mem_cons, List.not_mem_nil, or_false] at hx; rcases hx with rfl | rfl | rfl <;> exact .inl rfl
  case a3 =>
  refine' xs_if_ret (fun h hk k => ?b1) (xs_for (σs := fun i => [("word", .own a ((flatL (x.cps.toList.take i)).map .int)), ("rest", .d (.str x))]) (Inv := fun _ => True) (bd := fun d => [("sign", .d d)])
    (fun h hk k => evIt_data (ds := signs x) (tp := false) ?b2 (.inr (.inr ⟨x, rfl, rfl, rfl⟩))) ?b3 ?b4 trivial ?b5 ?b6 (by intro h; cases h) ?b7 fun _ => ?b8)
  case b1 => walk_at "et"
  case b2 => walk_at "ev"
  case b3 => exact fun _ => rfl
  case b4 => exact .cons rfl (.cons rfl .nil)
  case b5 => exact fun i y v e => FpLe.get (τ := [("word", .own a ((flatL (x.cps.toList.take i)).map .int)), ("rest", .d (.str x))]) ⟨.inr ⟨"word", .own a [], rfl, rfl⟩, .inl rfl, trivial⟩ e
  case b6 => exact fun d hd => tgf_name (.inl rfl)
  case b7 =>
    intro I i d hi _
    obtain ⟨c, hc, rfl⟩ : ∃ c, x.cps.toList[i]? = some c ∧ d = .str (ch1 c) := by
      simp only [signs, List.getElem?_map] at hi
      obtain ⟨c, e, q⟩ := Option.map_eq_some_iff.mp hi
      exact ⟨c, e, q.symm⟩
    have e1 : x.cps.toList.take (i + 1) = x.cps.toList.take i ++ [c] := by rw [List.take_add_one, hc]; rfl
    have e2 : flatL (x.cps.toList.take (i + 1)) = stepF (flatL (x.cps.toList.take i)) c := by rw [e1, flatL_snoc]
    have hci : i < x.cps.toList.length := (List.getElem?_eq_some_iff.mp hc).1
    have hxl : x.cps.toList.length ≤ 1000 := by simpa [Str.length] using hx
    have hwl := hlen i
    have hlx : ((flatL (x.cps.toList.take i)).map D.int).length < seqMax := by
      have : seqMax = 100000 := rfl
      rw [List.length_map]; omega
    rw [e2]
    generalize hws : flatL (x.cps.toList.take i) = ws at hwl hlx
    have hq := hok i c hc
    rw [hws] at hq
    rcases hq with ⟨rfl, hne⟩ | hop | hle
    · have es : (stepF ws 39).map D.int = ws.dropLast.map D.int ++ [D.int (turn (ws.getLastD 0))] := by simp [stepF]
      refine' xs_if_t (fun h hk k => ?c1) (xs_turn (σ' := [("rest", .d (.str x)), ("sign", .d (.str (ch1 39)))]) (x := "word") (a := a) (ds := ws.dropLast.map D.int) (d1 := .int (ws.getLastD 0)) (d := .int (turn (ws.getLastD 0))) ?c2 List.mem_cons_self (fun σ h hk k => ev_int) rfl ?c3 ?c4 ?c5 rfl rfl rfl rfl rfl rfl rfl rfl rfl (xs_nil rfl)) (xs_nil ⟨?c6, trivial⟩)
      case c1 => walk_at "et"
      case c2 => rw [← last_split hne]; rfl
      case c3 => exact .cons rfl (.cons rfl .nil)
      case c4 => exact fp_none (by simp [V.fp])
      case c5 => rw [List.length_map, List.length_dropLast]; rw [List.length_map] at hlx; omega
      case c6 => rw [es]; exact .cons rfl (.cons rfl .nil)
    · have hnt : ((ch1 c).cps.toList == (Str.ofString "'").cps.toList) = false := by
        have := not_tick (.inl hop)
        simp only [ops, List.mem_cons, List.not_mem_nil, or_false] at hop
        rcases hop with rfl | rfl | rfl | rfl <;> rfl
      have es : (stepF ws c).map D.int = ws.map D.int ++ [D.int (symv c)] := by simp [stepF, not_tick (.inl hop)]
      obtain ⟨tes, tn, ho, hq⟩ := keys60 w.params
      obtain ⟨t, ht⟩ := tab_op (P := w.params) hop
      refine' xs_if_f (fun h hk k => ?c1) (xs_if_t (fun h hk k => ev_tabin k ?c2 ?c3 ?c4 ?c5 ?c6 ho hq ht rfl) (xs_append (σ' := [("rest", .d (.str x)), ("sign", .d (.str (ch1 c)))]) (x := "word") (a := a) (ds := ws.map D.int) (d := .int (symv c)) ?c7 List.mem_cons_self (fun h hk k => ev_tabitem k ?c8 ?c9 ?c10 ?c11 ?c12 ho hq ht) ?c13 ?c14 ?c15 rfl rfl rfl rfl rfl rfl rfl (xs_nil rfl)) (xs_nil rfl)) (xs_nil ⟨?c16, trivial⟩)
      case c1 => walk_at "et"
      case c2 => rfl
      case c3 => walk_at "ev"
      case c4 => rfl
      case c5 => rfl
      case c6 => rfl
      case c7 => rfl
      case c8 => rfl
      case c9 => walk_at "ev"
      case c10 => rfl
      case c11 => rfl
      case c12 => rfl
      case c13 => exact .cons rfl (.cons rfl .nil)
      case c14 => exact fp_none (by simp [V.fp])
      case c15 => exact hlx
      case c16 => rw [es]; exact .cons rfl (.cons rfl .nil)
    · have hnt : ((ch1 c).cps.toList == (Str.ofString "'").cps.toList) = false := by
        simp only [letters, List.mem_cons, List.not_mem_nil, or_false] at hle
        rcases hle with rfl | rfl | rfl | rfl | rfl | rfl <;> rfl
      have es : (stepF ws c).map D.int = ws.map D.int ++ [D.int (symv c)] := by simp [stepF, not_tick (.inr hle)]
      obtain ⟨tes, tn, ho, hq⟩ := keys60 w.params
      have ht := tab_letter (P := w.params) hle
      obtain ⟨hf1, hf2⟩ := find_letter hle
      refine' xs_if_f (fun h hk k => ?c1) (xs_if_f (fun h hk k => ev_tabin k ?c2 ?c3 ?c4 ?c5 ?c6 ho hq ht rfl) (xs_append (σ' := [("rest", .d (.str x)), ("sign", .d (.str (ch1 c)))]) (x := "word") (a := a) (ds := ws.map D.int) (d := .int (symv c)) ?c7 List.mem_cons_self (fun h hk k => ev_cast (ev_bin (a := .int 256) (d := .int (256 + Txt.find (Str.ofString "aAbBcC") (ch1 c))) ?c8 (ev_strindex ?c9 ?c10 ?c11 ?c12 ?c17 hf1) rfl) ?c18) ?c13 ?c14 ?c15 rfl rfl rfl rfl rfl rfl rfl (xs_nil rfl)) (xs_nil rfl)) (xs_nil ⟨?c16, trivial⟩)
      case c1 => walk_at "et"
      case c2 => rfl
      case c3 => walk_at "ev"
      case c4 => rfl
      case c5 => rfl
      case c6 => rfl
      case c7 => rfl
      case c8 => walk_at "ev"
      case c9 => rfl
      case c10 => rfl
      case c11 => rfl
      case c12 => walk_at "ev"
      case c17 => walk_at "ev"
      case c18 => exact congrArg D.int hf2
      case c13 => exact .cons rfl (.cons rfl .nil)
      case c14 => exact fp_none (by simp [V.fp])
      case c15 => exact hlx
      case c16 => rw [es]; exact .cons rfl (.cons rfl .nil)
  case b8 =>
    refine xs_retown (x := "word") rfl List.mem_cons_self hk (fun b hb => List.mem_cons_of_mem _ hb) rfl rfl ?_
    rw [hsl, List.take_length]
end
end
section
open PySem PySem.W PySem.Calls PyProof.Rows
section
variable {prog : Program} {w : World}
theorem symbols_three {x f m r : Str} {wf wm wr : List Int} {n : Nat} (hx : x.length ≤ 1000) (hs : Txt.splitMax x tick 2 = [f, m, r])
    (Cf : Fun (KF w.params) prog w 241 (n + 2) [.d (.str f)] (.lst (wf.map .int))) (Cm : Fun (KF w.params) prog w 241 (n + 2) [.d (.str m)] (.lst (wm.map .int))) (Cr : Fun (KF w.params) prog w 241 (n + 2) [.d (.str r)] (.lst (wr.map .int)))
    (kf : PyData.canLay0 (.str f) = true) (km : PyData.canLay0 (.str m) = true) (hf : wf.length ≤ 1000) (hm : wm.length ≤ 1000) (hr' : wr.length ≤ 1000) :
    Fun (KF w.params) prog w 241 (n + 3) [.d (.str x)] (.lst ((wf ++ wm ++ undo wf ++ wr).map .int)) := by
  intro A H st rs hh hd hu G hk hr
  have hb : bindArgs fd241 ⟨rs, []⟩ = pure ((["text"] : List Str).zip rs) := by cases hr with | cons _ hr => cases hr; kernel_rfl
  refine fn_enterZ (o := o241) (fd := fd241) (xs := ["text"]) (N := fun _ => False) hr rfl hh (by omega) (by omega) G hk rfl rfl (by kernel_rfl) rfl rfl rfl rfl rfl rfl rfl hb (by decide) (by decide) ?_ (fun h ⟨_, f⟩ => f.elim)
  have hsq : seqMax = 100000 := rfl
  have C := decode_ok (prog := prog) (w := w) (x := x) (by omega) (by rw [hs]; exact Nat.le_refl 3)
  have hdec : decD x = .lst [.str f, .str m, .str r] := by unfold decD; rw [hs]; rfl
  rw [hdec] at C
  have hcmp := cmp_none2 f m kf km
  have Cu := undone_ok (prog := prog) (w := w) (ws := wf) (by omega)
  have hd1 : A.depth + 2 ≤ 900 := by omega
  have hu1 : A.units + 3 * 2 + 100 < cLine := by omega
  have hul : (undo wf).length = wf.length := by simp [undo]
  refine' xs_unpackD (d := .lst [.str f, .str m, .str r]) (ds := [.str f, .str m, .str r]) (.cons (.cons (.cons .nil))) (fun h hk k => ?a1) rfl rfl ?a2 rfl rfl rfl rfl rfl (xs_newlist (.inl rfl) (fun a => ?a3) rfl)
  case a1 => walk_at "ev"
  case a2 => intro x hx; simp only [List.mem_cons, List.not_mem_nil, or_false] at hx; rcases hx with rfl | rfl | rfl <;> exact .inl rfl
  case a3 =>
  refine' xs_if_skip (fun h hk k => ?b1) (xs_assignD (d := .lst (wf.map .int)) rfl (.inl rfl) (fun h hk k => ?b2) (xs_retD (fun b hb => List.mem_cons_of_mem _ hb) (fun h hk k => ev_bin (ev_bin (ev_bin ?b3 ?b4 ?b5) ?b6 ?b7) ?b8 ?b9) ?b10))
  case b1 =>
    with_reducible refine' et_cmp ?r ?x1 ?y1 hcmp
    case r => rfl
    case x1 => walk_at "ev"
    case y1 => walk_at "ev"
  case b2 => exact ev_fnX k Cf rfl rfl rfl rfl rfl (rm_of hd hu (by omega)) (by walk_at "evs")
  case b3 => walk_at "ev"
  case b4 => exact ev_fnX k Cm rfl rfl rfl rfl rfl (rm_of hd hu (by omega)) (by walk_at "evs")
  case b5 => exact lst_add (by rw [List.length_map, List.length_map]; omega)
  case b6 => exact ev_fnX k Cu rfl rfl rfl rfl rfl (rm_of hd hu (by omega)) (by walk_at "evs")
  case b7 => exact lst_add (by rw [List.length_append, List.length_map, List.length_map, List.length_map]; omega)
  case b8 => exact ev_fnX k Cr rfl rfl rfl rfl rfl (rm_of hd hu (by omega)) (by walk_at "evs")
  case b9 => exact lst_add (by rw [List.length_append, List.length_append, List.length_map, List.length_map, List.length_map, List.length_map]; omega)
  case b10 => simp [List.map_append]
end
end
section
open PySem PySem.W PySem.Calls PyProof.Rows
section
variable {prog : Program} {w : World}
noncomputable def codeOf (items : List Value) : Array Nat := (items.toArray.map PySem.Builtin.Re.reRawOf).map (·.toNat)
/-- a text in which the pattern finds nothing -/
noncomputable def clean (items : List Value) (x : Str) : Prop := ∃ k, k < 2 ^ 64 ∧ (Sre.M.runFor (4 * (k + 1)) (Sre.forSearch (codeOf items) x.cps 0 0 x.cps.size false)).outcome = some .failed
noncomputable def itemsN : List Value := [Value.int 14 0, Value.int 10 0, Value.int 4 0, Value.int 1 0, Value.int 1 0, Value.int 22 0, Value.int 0 0, Value.int 31 0, Value.int 16 0, Value.int 127 0, Value.int 0 0, Value.int 13 0, Value.int 7 0, Value.int 22 0, Value.int 0 0, Value.int 31 0, Value.int 16 0, Value.int 127 0, Value.int 0 0, Value.int 1 0]
noncomputable def itemsV : List Value := [Value.int 14 0, Value.int 14 0, Value.int 4 0, Value.int 1 0, Value.int 1 0, Value.int 9 0, Value.int 4294966783 0, Value.int 0 0, Value.int 0 0, Value.int 2147483648 0, Value.int 0 0, Value.int 0 0, Value.int 0 0, Value.int 0 0, Value.int 0 0, Value.int 13 0, Value.int 11 0, Value.int 9 0, Value.int 4294966783 0, Value.int 0 0, Value.int 0 0, Value.int 2147483648 0, Value.int 0 0, Value.int 0 0, Value.int 0 0, Value.int 0 0, Value.int 0 0, Value.int 1 0]
theorem conv_ok {A : Around} {H : List Addr} {st : Shared} {b : Bool} {x : Str} {self v : Value} {sv : V} (hh : A.handled = none) (hd : A.depth + 1 ≤ 900) (hu : A.units + 3 * 1 + 100 < cLine) (G : Gd (KF w.params) st.heap) (hk : HOK H st.heap) (hs : RV H st.heap self sv) (hv : Rep H st.heap v (.str x))
    (hx : x.cps.size < 2 ^ 63) (hc : clean (bif b then itemsN else itemsV) x) : Ylds (model prog w) A (call (.ref 114) [self, v] [("name", .bool b)]) (fun h r => Rep H h r (.str x)) st := by
  have hb : bindArgs fd114 ⟨[self, v], [("name", .bool b)]⟩ = pure ([((Str.ofString "self"), self), (Str.ofString "value", v), (Str.ofString "name", .bool b)] : List (Str × Value)) := by kernel_rfl
  refine fn_enter (o := o114) (fd := fd114) (binds := [("self", self), ("value", v), ("name", .bool b)]) (σ := [("self", sv), ("value", .d (.str x)), ("name", .d (.bool b))]) (N := fun _ => False) hh hd (by omega) G hk rfl rfl (by kernel_rfl) rfl rfl rfl rfl rfl rfl rfl (fun Q E q => wpAny_of_eq hb q) (by rfl) (show (["self", "value", "name"] : List Str).Nodup by decide) (.cons hs (.cons hv (.cons (.bool b) .nil))) ?_ (fun h ⟨_, f⟩ => f.elim)
  obtain ⟨kk, hkk, hm⟩ := hc
  cases b with
  | true =>
    refine' xs_if_ret (fun h hk k => et_typeis k ⟨rfl, rfl, by decide, rfl, rfl⟩ ⟨rfl, rfl, by decide, rfl, rfl⟩ ?a1 ?a2 ?a3) (xs_assign (v := .ob 79 anyP) (fun h hk k => ev_ite (b := true) (et_val ?b1 ?b2) (fun _ => ev_gobj k ?b3 ?b4 ?b5) (fun h => by cases h)) ?b6 ?b7 (fun b hb => by cases hb) (xs_if_skip (fun h hk k => et_none ?c1 (ev_search (p := 79) (items := itemsN) k ?c2 ?c3 ?c4 ?c5 ?c6 ?c7 ?c8 ?c9 ?c10 ?c11 hm hkk hx)) (xs_retD (fun _ h => h) (fun h hk k => ?d1) rfl)))
    case a1 => rfl
    case a2 => walk_at "ev"
    case a3 => rfl
    case b1 => rfl
    case b2 => walk_at "ev"
    case b3 => rfl
    case b4 => rfl
    case b5 => rfl
    case b6 => rfl
    case b7 => exact .inl rfl
    case c1 => rfl
    case c2 => exact ev_nm k rfl rfl rfl
    case c3 => walk_at "ev"
    case c4 => rfl
    case c5 => rfl
    case c6 => rfl
    case c7 => rfl
    case c8 => rfl
    case c9 => rfl
    case c10 => rfl
    case c11 => rfl
    case d1 => walk_at "ev"
  | false =>
    refine' xs_if_ret (fun h hk k => et_typeis k ⟨rfl, rfl, by decide, rfl, rfl⟩ ⟨rfl, rfl, by decide, rfl, rfl⟩ ?a1 ?a2 ?a3) (xs_assign (v := .ob 84 anyP) (fun h hk k => ev_ite (b := false) (et_val ?b1 ?b2) (fun h => by cases h) (fun _ => ev_gobj k ?b3 ?b4 ?b5)) ?b6 ?b7 (fun b hb => by cases hb) (xs_if_skip (fun h hk k => et_none ?c1 (ev_search (p := 84) (items := itemsV) k ?c2 ?c3 ?c4 ?c5 ?c6 ?c7 ?c8 ?c9 ?c10 ?c11 hm hkk hx)) (xs_retD (fun _ h => h) (fun h hk k => ?d1) rfl)))
    case a1 => rfl
    case a2 => walk_at "ev"
    case a3 => rfl
    case b1 => rfl
    case b2 => walk_at "ev"
    case b3 => rfl
    case b4 => rfl
    case b5 => rfl
    case b6 => rfl
    case b7 => exact .inl rfl
    case c1 => rfl
    case c2 => exact ev_nm k rfl rfl rfl
    case c3 => walk_at "ev"
    case c4 => rfl
    case c5 => rfl
    case c6 => rfl
    case c7 => rfl
    case c8 => rfl
    case c9 => rfl
    case c10 => rfl
    case c11 => rfl
    case d1 => walk_at "ev"
end
end
section
open PySem PySem.W PySem.Calls PyProof.Rows PySem.Builtin PySem.Builtin.Str
section
variable {prog : Program} {w : World}
noncomputable def pairD (p : Str × Str) : D := .tup [.str p.1, .str p.2]
noncomputable def same (x y : Str) : Bool := x.cps.toList == y.cps.toList
noncomputable def getB (prs : List (Str × Str)) (nm : Str) (dflt : D) : D := match prs.find? (fun p => same (Txt.lower p.1) nm) with
  | some p => .str p.2
  | none => dflt
theorem find_first {α : Type} (f : α → Bool) : ∀ (l : List α) (i : Nat) (p : α), (∀ j, j < i → ∀ q, l[j]? = some q → f q = false) → l[i]? = some p → f p = true → l.find? f = some p
  | [], _, _, _, e, _ => by cases e
  | a :: l, 0, p, _, e, h => by
    simp only [List.getElem?_cons_zero, Option.some.injEq] at e
    subst e
    rw [List.find?_cons, h]
  | a :: l, i + 1, p, hj, e, h => by
    rw [List.find?_cons, hj 0 (Nat.succ_pos i) a rfl]
    exact find_first f l i p (fun j hji q e => hj (j + 1) (Nat.succ_lt_succ hji) q (by simpa using e)) (by simpa using e) h
theorem find_nothing {α : Type} (f : α → Bool) (l : List α) (hj : ∀ j, j < l.length → ∀ q, l[j]? = some q → f q = false) : l.find? f = none := by
  rw [List.find?_eq_none]
  intro q hq
  obtain ⟨j, hj', e⟩ := List.mem_iff_getElem.mp hq
  rw [hj j hj' q (by rw [List.getElem?_eq_getElem hj', e])]
  decide
theorem get_core {A : Around} {H : List Addr} {st : Shared} {x dx l : Addr} {prs : List (Str × Str)} {nm : Str} {dflt : D} {rn rd : Value} {rs : List Value} (hb : BindsTo st fd162 ⟨rs, []⟩ [(Str.ofString "self", .ref x), (Str.ofString "name", rn), (Str.ofString "default", rd)]) (hh : A.handled = none) (hd : A.depth + 2 ≤ 900) (hu : A.units + 3 * 2 + 100 < cLine) (G : Gd (KF w.params) st.heap) (hk : HOK H st.heap)
    (hs : RV H st.heap (.ref x) (.book 215 x dx l (prs.map pairD))) (hn : Rep H st.heap rn (.str nm)) (hdf : Rep H st.heap rd dflt) (hl : ∀ p ∈ prs, tooLong (Txt.lower p.1).length = false) (hln : tooLong (Txt.lower nm).length = false) (hsz : (Txt.lower nm).cps.size < 2 ^ 63) (hc : clean itemsN (Txt.lower nm)) :
    Ylds (model prog w) A (call (.ref 162) rs) (fun h r => Rep H h r (getB prs (Txt.lower nm) dflt)) st := by
  refine fn_enter (o := o162) (fd := fd162) (binds := [("self", .ref x), ("name", rn), ("default", rd)]) (σ := [("self", .book 215 x dx l (prs.map pairD)), ("name", .d (.str nm)), ("default", .d dflt)]) (N := fun _ => False) hh (by omega) (by omega) G hk rfl rfl (by kernel_rfl) rfl rfl rfl rfl rfl rfl rfl (fun Q E q => hb _ _ _ _ q) (by rfl) (show (["self", "name", "default"] : List Str).Nodup by decide) (.cons hs (.cons hn (.cons hdf .nil))) ?_ (fun h ⟨_, f⟩ => f.elim)
  refine' xs_assignD (d := .str (Txt.lower nm)) rfl (.inl rfl) (fun h hk k => ?a1) (xs_for (ds := prs.map pairD) (tp := true) (hid := true) (σs := fun _ => [("self", .book 215 x dx l (prs.map pairD)), ("name", .d (.str (Txt.lower nm))), ("default", .d dflt)]) (Inv := fun i => ∀ j, j < i → ∀ p, prs[j]? = some p → same (Txt.lower p.1) (Txt.lower nm) = false)
    (bd := fun d => match d with | .tup [a, b] => [("v", .d b), ("k", .d a)] | _ => []) (fun h hk k => evIt_own (ev_hdr (attr := none) k ?a2 ?a3 ?a4 ?a5 ?a6)) ?b3 ?b4 ?b5 ?b6 ?b7 (fun _ => rfl) ?b8 fun inv => ?b9)
  case a1 =>
    refine ev_methK (b := true) (kn := "name") (v := .d (.str (Txt.lower nm))) (f := 114) (pl := _) k (ev_nm k rfl rfl rfl) rfl ?e1 rfl rfl rfl rfl ?e2 ?e3 ?e4 ?e5 ?e6 ?e7 ?e8
    case e1 => exact ev_lower rfl rfl (ev_nmD k rfl rfl rfl) hln
    case e2 => exact fun s Q E q => kwAll_cons (wpAny_Constant_bool (kwAll_nil q))
    case e3 => kernel_rfl
    case e4 => kernel_rfl
    case e5 => kernel_rfl
    case e6 => kernel_rfl
    case e7 => rfl
    case e8 => exact fun s r hI hr hb => conv_ok (prog := prog) (b := true) hh (by show A.depth + 1 + 1 ≤ 900; omega) (by show A.units + 3 + 3 * 1 + 100 < cLine; omega) ((k.gd _ hI)) (hk.mono hI) hb hr hsz hc
  case a2 => exact ev_nm k rfl rfl rfl
  case a3 => kernel_rfl
  case a4 => kernel_rfl
  case a5 => kernel_rfl
  case a6 => kernel_rfl
  case b3 => exact fun _ => rfl
  case b4 => exact .cons rfl (.cons rfl (.cons rfl .nil))
  case b5 => intro j hj; exact absurd hj (Nat.not_lt_zero _)
  case b6 => exact fun i y v e => FpLe.get (τ := [("self", .book 215 x dx l (prs.map pairD)), ("name", .d (.str (Txt.lower nm))), ("default", .d dflt)]) ⟨.inr ⟨"self", _, rfl, rfl⟩, .inl rfl, .inl rfl, trivial⟩ e
  case b7 =>
    intro d hd
    obtain ⟨p, hp, rfl⟩ := List.mem_map.mp hd
    exact tgf_pair (.inl rfl) (.inl rfl)
  case b8 =>
    intro I i d hi inv
    rw [List.getElem?_map] at hi
    obtain ⟨p, hp, rfl⟩ := Option.map_eq_some_iff.mp hi
    have hpm : p ∈ prs := List.mem_of_getElem? hp
    cases hq : same (Txt.lower p.1) (Txt.lower nm) with
    | true =>
      refine' xs_if_ret (fun h hk k => et_cast (et_cmp (b := .str (Txt.lower nm)) rfl (ev_lower rfl rfl ?c1 (hl p hpm)) ?c2 rfl) hq) (xs_retD (fun b hb => List.mem_cons_of_mem _ hb) (fun h hk k => ?c3) ?c4)
      case c1 => exact ev_nmD k rfl rfl rfl
      case c2 => exact ev_nmD k rfl rfl rfl
      case c3 => exact ev_nmD k rfl rfl rfl
      case c4 => unfold getB; rw [find_first _ prs i p inv hp hq]
    | false =>
      refine' xs_if_skip (fun h hk k => et_cast (et_cmp (b := .str (Txt.lower nm)) rfl (ev_lower rfl rfl ?g1 (hl p hpm)) ?g2 rfl) hq) (xs_nil ⟨.cons rfl (.cons rfl (.cons rfl .nil)), fun j hj q e => ?g3⟩)
      case g1 => exact ev_nmD k rfl rfl rfl
      case g2 => exact ev_nmD k rfl rfl rfl
      case g3 =>
        rcases Nat.lt_or_eq_of_le (Nat.le_of_lt_succ hj) with h | rfl
        · exact inv j h q e
        · rw [hp] at e; cases e; exact hq
  case b9 =>
    refine' xs_retD (fun _ h => h) (fun h hk k => ?i1) ?i2
    case i1 => exact ev_nmD k rfl rfl rfl
    case i2 => unfold getB; rw [find_nothing _ prs (fun j hj => inv j (by rw [List.length_map]; exact hj))]
theorem get_ok {A : Around} {H : List Addr} {st : Shared} {x dx l : Addr} {prs : List (Str × Str)} {nm : Str} {dflt : D} {rn rd : Value} (hh : A.handled = none) (hd : A.depth + 2 ≤ 900) (hu : A.units + 3 * 2 + 100 < cLine) (G : Gd (KF w.params) st.heap) (hk : HOK H st.heap)
    (hs : RV H st.heap (.ref x) (.book 215 x dx l (prs.map pairD))) (hn : Rep H st.heap rn (.str nm)) (hdf : Rep H st.heap rd dflt) (hl : ∀ p ∈ prs, tooLong (Txt.lower p.1).length = false) (hln : tooLong (Txt.lower nm).length = false) (hsz : (Txt.lower nm).cps.size < 2 ^ 63) (hc : clean itemsN (Txt.lower nm)) :
    Ylds (model prog w) A (call (.ref 162) [.ref x, rn, rd]) (fun h r => Rep H h r (getB prs (Txt.lower nm) dflt)) st :=
  get_core (binds_K (T := 155) G.kin rfl rfl rfl rfl rfl) hh hd hu G hk hs hn hdf hl hln hsz hc
theorem get_ok2 {A : Around} {H : List Addr} {st : Shared} {x dx l : Addr} {prs : List (Str × Str)} {nm : Str} {rn : Value} (hh : A.handled = none) (hd : A.depth + 2 ≤ 900) (hu : A.units + 3 * 2 + 100 < cLine) (G : Gd (KF w.params) st.heap) (hk : HOK H st.heap)
    (hs : RV H st.heap (.ref x) (.book 215 x dx l (prs.map pairD))) (hn : Rep H st.heap rn (.str nm)) (hl : ∀ p ∈ prs, tooLong (Txt.lower p.1).length = false) (hln : tooLong (Txt.lower nm).length = false) (hsz : (Txt.lower nm).cps.size < 2 ^ 63) (hc : clean itemsN (Txt.lower nm)) :
    Ylds (model prog w) A (call (.ref 162) [.ref x, rn]) (fun h r => Rep H h r (getB prs (Txt.lower nm) .none)) st :=
  get_core (rd := .none) (binds_K (T := 155) G.kin rfl rfl rfl rfl rfl) hh hd hu G hk hs hn .none hl hln hsz hc
end
end
section
open PySem PySem.W PySem.Calls PyProof.Rows
section
variable {prog : Program} {w : World}
theorem items_ok {A : Around} {H : List Addr} {st : Shared} {x dx l : Addr} {ds : List D} (hh : A.handled = none) (hd : A.depth + 1 ≤ 900) (hu : A.units + 3 * 1 + 100 < cLine) (G : Gd (KF w.params) st.heap) (hk : HOK H st.heap)
    (hs : RV H st.heap (.ref x) (.book 215 x dx l ds)) (hx : ds.length ≤ seqMax) : Ylds (model prog w) A (call (.ref 179) [.ref x]) (fun h r => Rep H h r (.lst ds)) st := by
  have hb : bindArgs fd179 ⟨[.ref x], []⟩ = pure ([(Str.ofString "self", .ref x)] : List (Str × Value)) := by kernel_rfl
  refine fn_enter (o := o179) (fd := fd179) (binds := [("self", .ref x)]) (σ := [("self", .book 215 x dx l ds)]) (N := fun _ => False) hh (by omega) (by omega) G hk rfl rfl (by kernel_rfl) rfl rfl rfl rfl rfl rfl rfl (fun Q E q => wpAny_of_eq hb q) (by rfl) (show (["self"] : List Str).Nodup by decide) (.cons hs .nil) ?_ (fun h ⟨_, f⟩ => f.elim)
  refine' xs_retD (fun _ h => h) (fun h hk k => ev_all_own (ev_hdr (attr := none) k ?a2 ?a3 ?a4 ?a5 ?a6) hx) rfl
  case a2 => exact ev_nm k rfl rfl rfl
  case a3 => kernel_rfl
  case a4 => kernel_rfl
  case a5 => kernel_rfl
  case a6 => kernel_rfl
end
end
section
open PySem PySem.W PySem.Calls PyProof.Rows PySem.Builtin PySem.Builtin.Str
section
variable {prog : Program} {w : World}
noncomputable abbrev C3 := UInt64 × UInt64 × UInt64
noncomputable def crossF (o u : C3) : Option C3 := (rgbF o.1 o.2.1 o.2.2).bind fun x => (rgbF u.1 u.2.1 u.2.2).bind fun y => hsvF (Float64.add (Float64.sub (Float64.mul (Float64.ofInt 2) x.1) y.1) (Float64.ofInt 1)) y.2.1 y.2.2
theorem cross_ok {o u r : C3} (h : crossF o u = some r) : Fun (KF w.params) prog w 248 2 [.d (F3 o), .d (F3 u)] (F3 r) := by
  obtain ⟨x, h1, h⟩ := Option.bind_eq_some_iff.mp h
  obtain ⟨y, h2, h3⟩ := Option.bind_eq_some_iff.mp h
  exact crossed_ok h1 h2 h3
structure E4 where
  (nw ne sw se : C3)
noncomputable def E4.d (e : E4) : D := .lst [F3 e.nw, F3 e.ne, F3 e.sw, F3 e.se]
/-- the letter of a symbol, as a text -/
noncomputable def letOf (s : Int) : Str := ch1 (((Str.ofString "aAbBcC").cps[(s - 256).toNat]?).getD 0)
inductive StepC (prog : Program) (w : World) (x dx l : Addr) (prs : List (Str × Str)) (n : Nat) : Int → E4 → E4 → Prop
  | plus {e : E4} {c : C3} : crossF e.se e.ne = some c → StepC prog w x dx l prs n 14 e ⟨e.nw, e.se, e.sw, c⟩
  | minus {e : E4} {c : C3} : crossF e.ne e.se = some c → StepC prog w x dx l prs n 15 e ⟨e.nw, c, e.sw, e.ne⟩
  | lt {e : E4} : StepC prog w x dx l prs n 20 e ⟨e.ne, e.se, e.nw, e.sw⟩
  | gt {e : E4} : StepC prog w x dx l prs n 21 e ⟨e.sw, e.nw, e.se, e.ne⟩
  | sub {i : Nat} {e e' : E4} {t : Str} {fig : List Int} : i < 6 → getB prs (Txt.lower (letOf (256 + i))) (.str (Str.ofString "")) = .str t → clean itemsN (Txt.lower (letOf (256 + i))) → Fun (KF w.params) prog w 241 (n + 1) [.d (.str t)] (.lst (fig.map .int)) → fig.length ≤ 1000 →
      Fun (KF w.params) prog w 255 (n + 1) [.d (.lst ((if i % 2 = 1 then undo fig else fig).map .int)), .book 215 x dx l (prs.map pairD), .d e.d] e'.d → StepC prog w x dx l prs n (256 + i) e e'
theorem let_at {i : Nat} (h : i < 6) : itemD (.str (Str.ofString "aAbBcC")) ((256 + (i : Int)) - 256) = some (.str (letOf (256 + i))) ∧ tooLong (Txt.lower (letOf (256 + i))).length = false ∧ (Txt.lower (letOf (256 + i))).cps.size < 2 ^ 63 ∧ decide (256 ≤ (256 + (i : Int))) = true ∧ Int.fmod (256 + (i : Int)) 2 = ((i % 2 : Nat) : Int) := by
  match i, h with
  | 0, _ => refine ⟨rfl, ?_, ?_, ?_, ?_⟩ <;> decide +kernel
  | 1, _ => refine ⟨rfl, ?_, ?_, ?_, ?_⟩ <;> decide +kernel
  | 2, _ => refine ⟨rfl, ?_, ?_, ?_, ?_⟩ <;> decide +kernel
  | 3, _ => refine ⟨rfl, ?_, ?_, ?_, ?_⟩ <;> decide +kernel
  | 4, _ => refine ⟨rfl, ?_, ?_, ?_, ?_⟩ <;> decide +kernel
  | 5, _ => refine ⟨rfl, ?_, ?_, ?_, ?_⟩ <;> decide +kernel
theorem danced_ok {x dx l : Addr} {prs : List (Str × Str)} {n : Nat} {ws : List Int} {es : Nat → E4} (hl : ∀ p ∈ prs, tooLong (Txt.lower p.1).length = false) (hstep : ∀ i s, ws[i]? = some s → StepC prog w x dx l prs n s (es i) (es (i + 1))) :
    Fun (KF w.params) prog w 255 (n + 3) [.d (.lst (ws.map .int)), .book 215 x dx l (prs.map pairD), .d (es 0).d] (es ws.length).d := by
  intro A H st rs hh hd hu G hk hr
  have hb : bindArgs fd255 ⟨rs, []⟩ = pure ((["word", "book", "ends"] : List Str).zip rs) := by cases hr with | cons _ hr => cases hr with | cons _ hr => cases hr with | cons _ hr => cases hr; kernel_rfl
  refine fn_enterZ (o := o255) (fd := fd255) (xs := ["word", "book", "ends"]) (N := fun _ => False) hr rfl hh (by omega) (by omega) G hk rfl rfl (by kernel_rfl) rfl rfl rfl rfl rfl rfl rfl hb (by decide) (by decide) ?_ (fun h ⟨_, f⟩ => f.elim)
  refine' xs_for (ds := ws.map .int) (tp := true) (hid := false) (σs := fun i => [("ends", .d (es i).d), ("word", .d (.lst (ws.map .int))), ("book", .book 215 x dx l (prs.map pairD))]) (Inv := fun _ => True) (bd := fun d => [("symbol", .d d)]) (fun h hk k => evIt_data ?a1 (.inl rfl)) ?a2 ?a3 trivial ?a4 ?a5 (by intro h; cases h) ?a6 fun _ => ?a7
  case a1 => walk_at "ev"
  case a2 => exact fun _ => rfl
  case a3 => exact .cons rfl (.cons rfl (.cons rfl .nil))
  case a4 => exact fun i y v e => FpLe.get (τ := [("ends", .d (es i).d), ("word", .d (.lst (ws.map .int))), ("book", .book 215 x dx l (prs.map pairD))]) ⟨.inl rfl, .inl rfl, .inr ⟨"book", _, rfl, rfl⟩, trivial⟩ e
  case a5 => exact fun d hd => tgf_name (.inl rfl)
  case a6 =>
    intro I i d hi _
    rw [List.getElem?_map] at hi
    obtain ⟨y, hy, rfl⟩ := Option.map_eq_some_iff.mp hi
    have hs := hstep i y hy
    generalize es (i + 1) = e1 at hs
    generalize es i = e0 at hs
    have Ci := fun m => isnt_ok (prog := prog) (w := w) (n := m)
    refine' xs_unpackD (d := e0.d) (ds := [F3 e0.nw, F3 e0.ne, F3 e0.sw, F3 e0.se]) (.cons (.cons (.cons (.cons .nil)))) (fun h hk k => ?c1) rfl rfl ?c2 rfl rfl rfl rfl rfl ?c3
    case c1 => walk_at "ev"
    case c2 => intro x hx; simp only [List.mem_cons, List.not_mem_nil, or_false] at hx; rcases hx with rfl | rfl | rfl | rfl <;> exact .inl rfl
    case c3 =>
    cases hs with
    | plus hc =>
      have C := cross_ok (prog := prog) (w := w) hc
      refine' xs_if_f (fun h hk k => et_val rfl (ev_fnX k (Ci 14) rfl rfl rfl rfl rfl (rm_of hd hu (by omega)) ?d1)) (xs_if_t (fun h hk k => ?d2) (xs_assignD rfl (.inl rfl) (fun h hk k => ?d3) (xs_nil rfl)) (xs_nil rfl)) (xs_nil ⟨.cons ?d4 (.cons rfl (.cons rfl .nil)), trivial⟩)
      case d1 => walk_at "evs"
      case d2 => walk_at "et"
      case d3 => walk_at "ev"
      case d4 => rfl
    | minus hc =>
      have C := cross_ok (prog := prog) (w := w) hc
      refine' xs_if_f (fun h hk k => et_val rfl (ev_fnX k (Ci 15) rfl rfl rfl rfl rfl (rm_of hd hu (by omega)) ?d1)) (xs_if_f (fun h hk k => ?d2) (xs_if_f (fun h hk k => ?d5) (xs_if_f (fun h hk k => ?d6) (xs_assignD rfl (.inl rfl) (fun h hk k => ?d3) (xs_nil rfl)) (xs_nil rfl)) (xs_nil rfl)) (xs_nil rfl)) (xs_nil ⟨.cons ?d4 (.cons rfl (.cons rfl .nil)), trivial⟩)
      case d1 => walk_at "evs"
      case d2 => walk_at "et"
      case d5 => walk_at "et"
      case d6 => walk_at "et"
      case d3 => walk_at "ev"
      case d4 => rfl
    | lt =>
      refine' xs_if_f (fun h hk k => et_val rfl (ev_fnX k (Ci 20) rfl rfl rfl rfl rfl (rm_of hd hu (by omega)) ?d1)) (xs_if_f (fun h hk k => ?d2) (xs_if_f (fun h hk k => ?d5) (xs_if_t (fun h hk k => ?d6) (xs_assignD rfl (.inl rfl) (fun h hk k => ?d3) (xs_nil rfl)) (xs_nil rfl)) (xs_nil rfl)) (xs_nil rfl)) (xs_nil ⟨.cons ?d4 (.cons rfl (.cons rfl .nil)), trivial⟩)
      case d1 => walk_at "evs"
      case d2 => walk_at "et"
      case d5 => walk_at "et"
      case d6 => walk_at "et"
      case d3 => walk_at "ev"
      case d4 => rfl
    | gt =>
      refine' xs_if_f (fun h hk k => et_val rfl (ev_fnX k (Ci 21) rfl rfl rfl rfl rfl (rm_of hd hu (by omega)) ?d1)) (xs_if_f (fun h hk k => ?d2) (xs_if_t (fun h hk k => ?d5) (xs_assignD rfl (.inl rfl) (fun h hk k => ?d3) (xs_nil rfl)) (xs_nil rfl)) (xs_nil rfl)) (xs_nil ⟨.cons ?d4 (.cons rfl (.cons rfl .nil)), trivial⟩)
      case d1 => walk_at "evs"
      case d2 => walk_at "et"
      case d5 => walk_at "et"
      case d3 => walk_at "ev"
      case d4 => rfl
    | @sub i' _ _ t fig hi6 hg hcl Cs hfl Cd =>
      obtain ⟨l1, l2, l3, l4, l5⟩ := let_at hi6
      have C0 := Ci (256 + (i' : Int))
      rw [l4] at C0
      have Cu := undone_ok (prog := prog) (w := w) (ws := fig) (by have : seqMax = 100000 := rfl; omega)
      refine' xs_if_t (fun h hk k => et_val rfl (ev_fnX k C0 rfl rfl rfl rfl rfl (rm_of hd hu (by omega)) ?d1)) (xs_assignD (d := .lst (fig.map .int)) rfl (.inl rfl) (fun h hk k => ev_fnX k Cs rfl rfl rfl rfl rfl (rm_of hd hu (by omega)) (.cons rfl ?d2 .nil)) (xs_assignD (d := e1.d) rfl (.inl rfl) (fun h hk k => ev_fnX k Cd rfl rfl rfl rfl rfl (rm_of hd hu (by omega)) (.cons rfl ?d3 (.cons rfl ?d4 (.cons rfl ?d5 .nil)))) (xs_nil rfl))) (xs_nil ⟨.cons ?d6 (.cons rfl (.cons rfl .nil)), trivial⟩)
      case d1 => walk_at "evs"
      case d2 =>
        refine ev_methB (v := .d (.str (letOf (256 + i')))) (vs := [.d (.str (Str.ofString ""))]) (f := 162) (pl := _) k (ev_nm k rfl rfl rfl) (.cons rfl ?x1 (.cons rfl ?x2 .nil)) rfl ?x3 ?x4 ?x5 ?x6 rfl fun s rs hI q => ?x7
        case x1 => exact ev_index rfl ev_str (ev_bin (a := .int (256 + (i' : Int))) (b := .int 256) (d := .int (256 + (i' : Int) - 256)) (ev_nmD k rfl rfl rfl) (ev_gint k rfl rfl rfl) rfl) l1
        case x2 => exact ev_str
        case x3 => kernel_rfl
        case x4 => kernel_rfl
        case x5 => kernel_rfl
        case x6 => kernel_rfl
        case x7 =>
          cases q with | cons q0 q => cases q with | cons q1 q => cases q with | cons q2 q =>
          cases q
          have e := q0.1
          subst e
          have := get_ok (prog := prog) (w := w) (A := A.deeper (callEnvC fd255 st.heap.objs.size 255)) (st := s) hh (by show A.depth + 1 + 2 ≤ 900; omega) (by show A.units + 3 + 3 * 2 + 100 < cLine; omega) (k.gd _ hI) (hk.mono hI) q0 q1 q2 hl l2 l3 hcl
          rw [hg] at this
          exact this
      case d3 =>
        have hpar : (Int.fmod (256 + (i' : Int)) 2 == 1) = decide (i' % 2 = 1) := by
          rw [l5]
          have : i' % 2 = 0 ∨ i' % 2 = 1 := by omega
          rcases this with h | h <;> rw [h] <;> rfl
        refine ev_ite (b := decide (i' % 2 = 1)) (et_cast (et_cmp (a := .int (Int.fmod (256 + (i' : Int)) 2)) (b := .int 1) rfl (ev_bin (a := .int (256 + (i' : Int))) (b := .int 2) (ev_nmD k rfl rfl rfl) ev_int rfl) ev_int rfl) hpar) (fun hq => ?y1) (fun hq => ?y2)
        case y1 =>
          rw [if_pos (of_decide_eq_true hq)]
          exact ev_fnX k Cu rfl rfl rfl rfl rfl (rm_of hd hu (by omega)) (.cons rfl (ev_toV (ev_nmD k rfl rfl rfl)) .nil)
        case y2 =>
          rw [if_neg (of_decide_eq_false hq)]
          exact ev_nmD k rfl rfl rfl
      case d4 => exact ev_nm k rfl rfl rfl
      case d5 => exact ev_nm k rfl rfl rfl
      case d6 => rfl
  case a7 =>
    refine' xs_retD (fun _ h => h) (fun h hk k => ?b1) ?b2
    case b1 => walk_at "ev"
    case b2 => rw [List.length_map]
end
end
section
open PySem PySem.W PySem.Calls PyProof.Rows

noncomputable def q64 (k : Nat) : UInt64 := Float64.ofFrac false k 64
noncomputable def q4 (k : Nat) : UInt64 := Float64.ofFrac false k 4
noncomputable def colF (i a b : Nat) : C3 := (hsvF (q64 i) (q4 a) (q4 b)).getD (0, 0, 0)
noncomputable def hx (i j : Nat) : UInt64 := Float64.add (Float64.sub (Float64.mul (Float64.ofInt 2) (q64 i)) (q64 j)) (Float64.ofInt 1)
/-- k at n, n reckoned first -/
noncomputable def forceN (n : Nat) (k : Nat → Bool) : Bool := Nat.rec (k 0) (fun m _ => k (m + 1)) n
theorem forceN_eq (n : Nat) (k : Nat → Bool) : forceN n k = k n := by cases n <;> rfl
/-- what hsvF asks of the hue -/
noncomputable def hueP (h : UInt64) : Bool × Int × UInt64 := (Float64.isFinite (Float64.mul h f6) && small (PySem.Flt.toInt Float64.truncOf (Float64.mul h f6)), (PySem.Flt.toInt Float64.truncOf (Float64.mul h f6)).fmod 6, Float64.sub (Float64.mul h f6) (Float64.ofInt (PySem.Flt.toInt Float64.truncOf (Float64.mul h f6))))
noncomputable def hueG (x : Bool × Int × UInt64) (s v : UInt64) : Option (UInt64 × UInt64 × UInt64) :=
  bif feq s f0 then some (v, v, v) else
  bif x.1 then
    let f := x.2.2
    let p := Float64.mul v (Float64.sub f1 s)
    let q := Float64.mul v (Float64.sub f1 (Float64.mul s f))
    let t := Float64.mul v (Float64.sub f1 (Float64.mul s (Float64.sub f1 f)))
    bif x.2.1 == 0 then some (v, t, p) else
    bif x.2.1 == 1 then some (q, v, p) else
    bif x.2.1 == 2 then some (p, v, t) else
    bif x.2.1 == 3 then some (p, q, v) else
    bif x.2.1 == 4 then some (t, p, v) else
    bif x.2.1 == 5 then some (v, p, q) else none
  else none
theorem hue_eq (h s v : UInt64) : hsvF h s v = hueG (hueP h) s v := rfl
noncomputable def kA (op : UInt64 → UInt64 → UInt64) (x y : Nat) (k : Nat → Bool) : Bool := forceN (op (UInt64.ofNat x) (UInt64.ofNat y)).toNat k
noncomputable abbrev F1 : Nat := 4607182418800017408
theorem kA_eq (op : UInt64 → UInt64 → UInt64) (x y : UInt64) (k : Nat → Bool) : kA op x.toNat y.toNat k = k (op x y).toNat := by
  unfold kA; rw [forceN_eq]; simp only [UInt64.ofNat_toNat]
/-- hueG, step by step -/
noncomputable def hueK (b : Bool) (n : Int) (f s v : Nat) (k : Nat → Nat → Nat → Bool) : Bool :=
  bif feq (UInt64.ofNat s) f0 then k v v v else
  bif b then
    kA Float64.sub f1.toNat s fun a => kA Float64.mul v a fun p =>
    bif n == 0 || n == 2 || n == 4 then
      kA Float64.sub f1.toNat f fun c => kA Float64.mul s c fun d => kA Float64.sub f1.toNat d fun e => kA Float64.mul v e fun t =>
      bif n == 0 then k v t p else bif n == 2 then k p v t else k t p v
    else bif n == 1 || n == 3 || n == 5 then
      kA Float64.mul s f fun d => kA Float64.sub f1.toNat d fun e => kA Float64.mul v e fun q =>
      bif n == 1 then k q v p else bif n == 3 then k p q v else k v p q
    else false
  else false
theorem hueK_eq (b : Bool) (n : Int) (f s v : UInt64) (k : Nat → Nat → Nat → Bool) : hueK b n f.toNat s.toNat v.toNat k = true → ∃ c, hueG (b, n, f) s v = some c ∧ k c.1.toNat c.2.1.toNat c.2.2.toNat = true := by
  unfold hueK hueG
  simp only [UInt64.ofNat_toNat]
  cases feq s f0 with
  | true => intro h; exact ⟨_, rfl, h⟩
  | false =>
    cases b with
    | false => intro h; cases h
    | true =>
      simp only [cond_true, cond_false, kA_eq]
      intro h
      by_cases h0 : n = 0
      · subst h0; exact ⟨_, rfl, h⟩
      by_cases h1 : n = 1
      · subst h1; exact ⟨_, rfl, h⟩
      by_cases h2 : n = 2
      · subst h2; exact ⟨_, rfl, h⟩
      by_cases h3 : n = 3
      · subst h3; exact ⟨_, rfl, h⟩
      by_cases h4 : n = 4
      · subst h4; exact ⟨_, rfl, h⟩
      by_cases h5 : n = 5
      · subst h5; exact ⟨_, rfl, h⟩
      · exfalso
        have z : ∀ a : Int, n ≠ a → (n == a) = false := fun a h => beq_eq_false_iff_ne.mpr h
        rw [z 0 h0, z 1 h1, z 2 h2, z 3 h3, z 4 h4, z 5 h5] at h
        exact Bool.false_ne_true h
/-- rgbF, step by step -/
noncomputable def rgbK (r g b : Nat) (k : Nat → Nat → Nat → Bool) : Bool :=
  forceN (maxF (UInt64.ofNat r) (UInt64.ofNat g) (UInt64.ofNat b)).toNat fun mx => forceN (minF (UInt64.ofNat r) (UInt64.ofNat g) (UInt64.ofNat b)).toNat fun mn =>
  bif feq (UInt64.ofNat mn) (UInt64.ofNat mx) then k f0.toNat f0.toNat mx else
  kA Float64.sub mx mn fun rg =>
  bif Float64.isZero (UInt64.ofNat rg) || Float64.isZero (UInt64.ofNat mx) then false else
  kA Float64.div rg mx fun s =>
  (fun (kk : Nat → Bool) => bif feq (UInt64.ofNat r) (UInt64.ofNat mx) then
      (kA Float64.sub mx b fun x => kA Float64.div x rg fun bc => kA Float64.sub mx g fun y => kA Float64.div y rg fun gc => kA Float64.sub bc gc kk)
    else bif feq (UInt64.ofNat g) (UInt64.ofNat mx) then
      (kA Float64.sub mx r fun x => kA Float64.div x rg fun rc => kA Float64.sub mx b fun y => kA Float64.div y rg fun bc => kA Float64.add f2.toNat rc fun z => kA Float64.sub z bc kk)
    else (kA Float64.sub mx g fun x => kA Float64.div x rg fun gc => kA Float64.sub mx r fun y => kA Float64.div y rg fun rc => kA Float64.add f4.toNat gc fun z => kA Float64.sub z rc kk))
  fun h => kA Float64.div h f6.toNat fun h6 => kA (fun a b => (Float64.divmod a b).2) h6 f1.toNat fun hh => k hh s mx
theorem rgbK_eq (r g b : UInt64) (k : Nat → Nat → Nat → Bool) : rgbK r.toNat g.toNat b.toNat k = true → ∃ c, rgbF r g b = some c ∧ k c.1.toNat c.2.1.toNat c.2.2.toNat = true := by
  unfold rgbK rgbF
  simp only [forceN_eq, UInt64.ofNat_toNat, kA_eq]
  cases feq (minF r g b) (maxF r g b) with
  | true => intro h; exact ⟨_, rfl, h⟩
  | false =>
    cases Float64.isZero (Float64.sub (maxF r g b) (minF r g b)) || Float64.isZero (maxF r g b) with
    | true => intro h; cases h
    | false =>
      cases feq r (maxF r g b) with
      | true => intro h; exact ⟨_, rfl, h⟩
      | false =>
        cases feq g (maxF r g b) with
        | true => intro h; exact ⟨_, rfl, h⟩
        | false => intro h; exact ⟨_, rfl, h⟩
noncomputable def t1i (i : Nat) : Bool := forceN (q64 i).toNat fun H => forceN (hueP (UInt64.ofNat H)).2.2.toNat fun F => (List.range 4).all fun a => forceN (q4 (a + 1)).toNat fun A => (List.range 4).all fun b => forceN (q4 (b + 1)).toNat fun B =>
  hueK (hueP (UInt64.ofNat H)).1 (hueP (UInt64.ofNat H)).2.1 F A B fun x y z => rgbK x y z fun h s v => h == H && (s == A && v == B)
theorem t1_spec {i a b : Nat} (h : t1i i = true) (ha : a < 4) (hb : b < 4) : hsvF (q64 i) (q4 (a + 1)) (q4 (b + 1)) = some (colF i (a + 1) (b + 1)) ∧ rgbF (colF i (a + 1) (b + 1)).1 (colF i (a + 1) (b + 1)).2.1 (colF i (a + 1) (b + 1)).2.2 = some (q64 i, q4 (a + 1), q4 (b + 1)) := by
  unfold t1i at h
  rw [forceN_eq, forceN_eq] at h
  have h1 := List.all_eq_true.mp h a (List.mem_range.mpr ha)
  rw [forceN_eq] at h1
  have h2 := List.all_eq_true.mp h1 b (List.mem_range.mpr hb)
  rw [forceN_eq] at h2
  simp only [UInt64.ofNat_toNat] at h2
  obtain ⟨c, e1, h3⟩ := hueK_eq _ _ _ _ _ _ h2
  obtain ⟨r, e2, h4⟩ := rgbK_eq _ _ _ _ h3
  have e0 : hsvF (q64 i) (q4 (a + 1)) (q4 (b + 1)) = some c := by rw [hue_eq]; exact e1
  have e3 : colF i (a + 1) (b + 1) = c := by unfold colF; rw [e0]; rfl
  rw [e3, e0, e2]
  simp only [Bool.and_eq_true, beq_iff_eq, UInt64.toNat_inj] at h4
  obtain ⟨q1, q2, q3⟩ := h4
  rw [← q1, ← q2, ← q3]
  exact ⟨rfl, rfl⟩
noncomputable def t2 (n : Nat) : Bool := hueP (q64 n) == hueP (q64 (n % 64))
noncomputable def t3 (i : Nat) : Bool := forceN (Float64.mul (Float64.ofInt 2) (q64 i)).toNat fun x => (List.range 64).all fun j => forceN (q64 j).toNat fun y => kA Float64.sub x y fun z => kA Float64.add z F1 fun u => u == (q64 (2 * i + 64 - j)).toNat
theorem t3_spec {i j : Nat} (h : t3 i = true) (hj : j < 64) : hx i j = q64 (2 * i + 64 - j) := by
  unfold t3 at h
  rw [forceN_eq] at h
  have h1 := List.all_eq_true.mp h j (List.mem_range.mpr hj)
  rw [forceN_eq, kA_eq] at h1
  have e : F1 = (Float64.ofInt 1).toNat := by decide +kernel
  rw [e, kA_eq] at h1
  exact UInt64.toNat_inj.mp (beq_iff_eq.mp h1)
theorem c1 : ((List.range 64).all t1i) = true := by decide +kernel
theorem c2p0 : ((List.range' 0 8).all t3) = true := by decide +kernel
theorem c2p1 : ((List.range' 8 8).all t3) = true := by decide +kernel
theorem c2p2 : ((List.range' 16 8).all t3) = true := by decide +kernel
theorem c2p3 : ((List.range' 24 8).all t3) = true := by decide +kernel
theorem c2p4 : ((List.range' 32 8).all t3) = true := by decide +kernel
theorem c2p5 : ((List.range' 40 8).all t3) = true := by decide +kernel
theorem c2p6 : ((List.range' 48 8).all t3) = true := by decide +kernel
theorem c2p7 : ((List.range' 56 8).all t3) = true := by decide +kernel
theorem c2 : ((List.range 64).all t3) = true := by
  rw [show List.range 64 = List.range' 0 8 ++ (List.range' 8 8 ++ (List.range' 16 8 ++ (List.range' 24 8 ++ (List.range' 32 8 ++ (List.range' 40 8 ++ (List.range' 48 8 ++ List.range' 56 8)))))) by decide]
  rw [List.all_append, List.all_append, List.all_append, List.all_append, List.all_append, List.all_append, List.all_append, c2p0, c2p1, c2p2, c2p3, c2p4, c2p5, c2p6, c2p7]
  rfl
theorem c3 : ((List.range 192).all t2) = true := by decide +kernel
theorem c4 : (((List.range 64).all fun i => okF (q64 i) && !Float64.isInf (q64 i)) && ((List.range 5).all fun i => okF (q4 i) && !Float64.isInf (q4 i))) = true := by decide +kernel
noncomputable abbrev Q4 (a : Nat) : Prop := 1 ≤ a ∧ a ≤ 4
theorem col_hsv {i a b : Nat} (hi : i < 64) (ha : Q4 a) (hb : Q4 b) : hsvF (q64 i) (q4 a) (q4 b) = some (colF i a b) := by
  have h := t1_spec (List.all_eq_true.mp c1 i (List.mem_range.mpr hi)) (a := a - 1) (b := b - 1) (by omega) (by omega)
  rw [Nat.sub_add_cancel ha.1, Nat.sub_add_cancel hb.1] at h
  exact h.1
theorem col_rgb {i a b : Nat} (hi : i < 64) (ha : Q4 a) (hb : Q4 b) : rgbF (colF i a b).1 (colF i a b).2.1 (colF i a b).2.2 = some (q64 i, q4 a, q4 b) := by
  have h := t1_spec (List.all_eq_true.mp c1 i (List.mem_range.mpr hi)) (a := a - 1) (b := b - 1) (by omega) (by omega)
  rw [Nat.sub_add_cancel ha.1, Nat.sub_add_cancel hb.1] at h
  exact h.2
theorem hx_eq {i j : Nat} (hi : i < 64) (hj : j < 64) : hx i j = q64 (2 * i + 64 - j) := by
  exact t3_spec (List.all_eq_true.mp c2 i (List.mem_range.mpr hi)) hj
/-- a crossing -/
theorem col_cross {i a b j c d : Nat} (hi : i < 64) (ha : Q4 a) (hb : Q4 b) (hj : j < 64) (hc : Q4 c) (hd : Q4 d) : crossF (colF i a b) (colF j c d) = some (colF ((2 * i + 64 - j) % 64) c d) := by
  unfold crossF
  rw [col_rgb hi ha hb, Option.bind_some, col_rgb hj hc hd, Option.bind_some]
  show hsvF (hx i j) (q4 c) (q4 d) = _
  rw [hx_eq hi hj]
  have h := List.all_eq_true.mp c3 (2 * i + 64 - j) (List.mem_range.mpr (by omega))
  rw [hue_eq, beq_iff_eq.mp h, ← hue_eq]
  exact col_hsv (Nat.mod_lt _ (by decide)) hc hd
theorem ok_q64 {i : Nat} (hi : i < 64) : okF (q64 i) = true ∧ Float64.isInf (q64 i) = false := by
  have h := List.all_eq_true.mp (Bool.and_eq_true_iff.mp c4).1 i (List.mem_range.mpr hi)
  simpa using h
theorem ok_q4 {i : Nat} (hi : i < 5) : okF (q4 i) = true ∧ Float64.isInf (q4 i) = false := by
  have h := List.all_eq_true.mp (Bool.and_eq_true_iff.mp c4).2 i (List.mem_range.mpr hi)
  simpa using h
end
section
open PySem PySem.W PySem.Calls PyProof.Rows PySem.Builtin PySem.Builtin.Str
section
variable {prog : Program} {w : World}
/-- what a text must be to be kept -/
structure Okn (nm : Str) : Prop where
  c : clean itemsN nm
  z : nm.cps.size < 2 ^ 63
  lc : clean itemsN (Txt.lower nm)
  lz : (Txt.lower nm).cps.size < 2 ^ 63
  ll : tooLong (Txt.lower nm).length = false
structure Okv (tx : Str) : Prop where
  c : clean itemsV tx
  z : tx.cps.size < 2 ^ 63
theorem noL_KF (P : Params) : noL (KF P) = true := by rfl
noncomputable def setB (prs : List (Str × Str)) (nm tx : Str) : List (Str × Str) := match getB prs (Txt.lower nm) .none with
  | .none => prs ++ [(nm, tx)]
  | _ => prs
noncomputable def retB (prs : List (Str × Str)) (nm tx : Str) : D := match getB prs (Txt.lower nm) .none with
  | .none => .str tx
  | d => d
theorem getB_cases (prs : List (Str × Str)) (nm : Str) : getB prs nm .none = .none ∨ ∃ t, getB prs nm .none = .str t := by
  unfold getB
  split
  · exact .inr ⟨_, rfl⟩
  · exact .inl rfl
theorem ev_conv {K : Frag} {σ : Sig} {c : Cx} {n : Str} {np apos pos : Pos} {kws : List Keyword} {e : Expr} {b : Bool} {a dx l : Addr} {ds : List D} {x : Str} {pl : Sem Bool} (hK : K = KF c.w.params) (k : CK K σ c) (rm : Rm c 1) (ho : EvV c (.Name n np) (.book 215 a dx l ds)) (hs : starEach [e] c.env = [(false, eval e c.env)]) (he : EvD c e (.str x))
    (hev : eval (.Call (.Attribute (.Name n np) (Str.ofString "_convert_string_type") apos) [e] kws pos) c.env = (do
      let ov ← eval (.Name n np) c.env
      standAt apos.atName
      let (f, first) ← holding [ov] (getMethod ov (Str.ofString "_convert_string_type") pl)
      callWith pos f first (backTo pos (starEach [e] c.env)) (backToKw pos (keywordEach kws c.env))))
    (hkw : (backToKw pos (keywordEach kws c.env)).filterMap (·.1) = [Str.ofString "name"]) (hall : (backToKw pos (keywordEach kws c.env)).all (·.1.isSome) = true) (hpl : ((backTo pos (starEach [e] c.env)).any (·.1) || (backToKw pos (keywordEach kws c.env)).any (·.1.isNone)) = false)
    (hkv : ∀ (s : Shared) (Q : List Value → Shared → Prop) (E : Value → Shared → Prop), Q [.bool b] s → wpAny c.M c.A (evalAll ((backToKw pos (keywordEach kws c.env)).map (·.2))) Q E s)
    (hx : x.cps.size < 2 ^ 63) (hc : clean (bif b then itemsN else itemsV) x) : EvD c (.Call (.Attribute (.Name n np) (Str.ofString "_convert_string_type") apos) [e] kws pos) (.str x) := by
  subst hK
  exact ev_methK (b := b) (kn := Str.ofString "name") (v := .d (.str x)) (f := 114) (pl := pl) k ho hs he hev hkw hall hpl hkv (by kernel_rfl) (by kernel_rfl) (by kernel_rfl) (by kernel_rfl) rfl
    fun s r hI hr hb => conv_ok (prog := c.prog) (w := c.w) (b := b) c.hh rm.d rm.u (k.gd _ hI) (c.hok hI) hb hr hx hc
theorem setdef_ok {A : Around} {H : List Addr} {x dx l : Addr} {prs : List (Str × Str)} {nm tx : Str} (hh : A.handled = none) (hd : A.depth + 4 ≤ 900) (hu : A.units + 3 * 4 + 100 < cLine) (hH : l ∈ H) (hl : ∀ p ∈ prs, tooLong (Txt.lower p.1).length = false) (on : Okn nm) (ov : Okv tx) (hz : prs.length < seqMax) :
    ChA prog w A (KF w.params) H 205 215 x dx l ((setB prs nm tx).map pairD) [.book 215 x dx l (prs.map pairD), .d (.str nm), .d (.str tx)] (fun h r => Rep H h r (retB prs nm tx)) := by
  intro s rs G hk q
  cases q with | @cons r0 _ _ _ q0 q => cases q with | @cons r1 _ _ _ q1 q => cases q with | @cons r2 _ _ _ q2 q =>
  cases q
  have hb : bindArgs fd205 ⟨[r0, r1, r2], []⟩ = pure ([(Str.ofString "self", r0), (Str.ofString "name", r1), (Str.ofString "value", r2)] : List (Str × Value)) := by kernel_rfl
  obtain ⟨xs, hp⟩ := (q0.2 : BookIs 215 x dx l (prs.map pairD) H s.heap).pl
  refine fn_enterM (o := o205) (fd := fd205) (σ := [("self", .book 215 x dx l (prs.map pairD)), ("name", .d (.str nm)), ("value", .d (.str tx))]) (N := fun _ => False) hh (by omega) (by omega) G hk hH (G.hide (noL_KF _) hp) rfl rfl (by kernel_rfl) rfl rfl rfl rfl rfl rfl rfl
    (fun Q E k => wpAny_of_eq hb (k _ _ (Kp.refl _) (Nat.le_refl _) (.cons q0 (.cons q1 (.cons q2 .nil))))) (by rfl) (show (["self", "name", "value"] : List Str).Nodup by decide) (fun L => ?_) (fun L σ' s' f => f.elim)
  have hd' : A.depth + 4 ≤ 900 := hd
  have hu' : A.units + 3 * 4 + 100 < cLine := hu
  refine' xs_assignD (d := getB prs (Txt.lower nm) .none) rfl (.inl rfl) (fun h hk k => ?a1) ?a2
  case a1 =>
    refine ev_methB (v := .d (.str nm)) (vs := []) (f := 162) (pl := _) k (ev_nm k rfl rfl rfl) (.cons rfl (ev_nm k rfl rfl rfl) .nil) rfl ?x3 ?x4 ?x5 ?x6 rfl fun s rs hI q => ?x7
    case x3 => kernel_rfl
    case x4 => kernel_rfl
    case x5 => kernel_rfl
    case x6 => kernel_rfl
    case x7 =>
      cases q with | cons q0 q => cases q with | cons q1 q =>
      cases q
      have e := q0.1
      subst e
      exact get_ok2 (prog := prog) (w := w) hh (by show A.depth + 1 + 2 ≤ 900; omega) (by show A.units + 3 + 3 * 2 + 100 < cLine; omega) (k.gd _ hI) (hk.mono hI) q0 q1 hl on.ll on.lz on.lc
  case a2 =>
  rcases getB_cases prs (Txt.lower nm) with hg | ⟨t, hg⟩
  · rw [hg]
    have e1 : setB prs nm tx = prs ++ [(nm, tx)] := by unfold setB; rw [hg]
    have e2 : retB prs nm tx = .str tx := by unfold retB; rw [hg]
    rw [e1, e2]
    refine' xs_if_ret (fun h hk k => ?b1) (xs_appendA (attr := none) (ds := prs.map pairD) (d := .tup [.str nm, .str tx]) (σ' := [("name", .d (.str nm)), ("value", .d (.str tx))]) rfl List.mem_cons_self rfl rfl ?c1 ?c2 ?c3 ?c4 (fun h hk k => ev_tuple (.cons rfl ?c5 (.cons rfl ?c6 .nil)) ?c7) (.cons rfl (.cons rfl .nil)) (fp_none (by simp [V.fp])) ?c8 rfl rfl rfl rfl rfl (xs_retB (x := "self") rfl (fun h hk k => ?c9) rfl ?c10))
    case b1 => exact et_cmp rfl (ev_nmD k rfl rfl rfl) ev_none rfl
    case c1 => kernel_rfl
    case c2 => kernel_rfl
    case c3 => kernel_rfl
    case c4 => kernel_rfl
    case c5 => exact ev_conv (b := true) (pl := _) rfl k (rm_of hd' hu' (by omega)) (ev_nm k rfl rfl rfl) rfl (ev_nmD k rfl rfl rfl) rfl rfl rfl rfl (fun s Q E q => kwAll_cons (wpAny_Constant_bool (kwAll_nil q))) on.z on.c
    case c6 => exact ev_conv (b := false) (pl := _) rfl k (rm_of hd' hu' (by omega)) (ev_nm k rfl rfl rfl) rfl (ev_nmD k rfl rfl rfl) rfl rfl rfl rfl (fun s Q E q => kwAll_cons (wpAny_Constant_bool (kwAll_nil q))) ov.z ov.c
    case c7 => exact Nat.le_of_ble_eq_true rfl
    case c8 => rw [List.length_map]; exact hz
    case c9 => exact ev_nmD k rfl rfl rfl
    case c10 => rw [List.map_append]; rfl
  · rw [hg]
    have e1 : setB prs nm tx = prs := by unfold setB; rw [hg]
    have e2 : retB prs nm tx = .str t := by unfold retB; rw [hg]
    rw [e1, e2]
    refine' xs_else_ret (fun h hk k => ?b1) (xs_retB (x := "self") rfl (fun h hk k => ?c9) rfl rfl)
    case b1 => exact et_cmp rfl (ev_nmD k rfl rfl rfl) ev_none rfl
    case c9 => exact ev_nmD k rfl rfl rfl
end
end
section
open PySem PySem.W PySem.Calls PyProof.Rows PySem.Builtin PySem.Builtin.Str
section
variable {prog : Program} {w : World}
noncomputable def keepP (nm : Str) : D → Bool
  | .tup [.str a, _] => !(same (Txt.lower a) (Txt.lower nm))
  | _ => true
noncomputable def delB (prs : List (Str × Str)) (nm : Str) : List (Str × Str) := prs.filter fun p => !(same (Txt.lower p.1) (Txt.lower nm))
theorem delB_map (prs : List (Str × Str)) (nm : Str) : ((prs.map pairD).filter (keepP nm)).map (fun d => d) = (delB prs nm).map pairD := by
  unfold delB
  rw [List.map_id', List.filter_map]
  rfl
theorem delB_len (prs : List (Str × Str)) (nm : Str) : (delB prs nm).length ≤ prs.length := List.length_filter_le ..
theorem delitem_ok {A : Around} {H : List Addr} {x dx l : Addr} {prs : List (Str × Str)} {nm : Str} (hh : A.handled = none) (hd : A.depth + 2 ≤ 900) (hu : A.units + 3 * 2 + 100 < cLine) (hH : l ∈ H) (hl : ∀ p ∈ prs, tooLong (Txt.lower p.1).length = false) (on : Okn nm) (hz : prs.length < seqMax) :
    ChA prog w A (KF w.params) H 133 215 x dx l ((delB prs nm).map pairD) [.book 215 x dx l (prs.map pairD), .d (.str nm)] anyR := by
  intro s rs G hk q
  cases q with | @cons r0 _ _ _ q0 q => cases q with | @cons r1 _ _ _ q1 q =>
  cases q
  have hb : bindArgs fd133 ⟨[r0, r1], []⟩ = pure ([(Str.ofString "self", r0), (Str.ofString "name", r1)] : List (Str × Value)) := by kernel_rfl
  obtain ⟨xs, hp⟩ := (q0.2 : BookIs 215 x dx l (prs.map pairD) H s.heap).pl
  refine fn_enterM (o := o133) (fd := fd133) (σ := [("self", .book 215 x dx l (prs.map pairD)), ("name", .d (.str nm))]) (N := fun σ => σ.lookup (Str.ofString "self") = some (V.book 215 x dx l ((delB prs nm).map pairD))) hh (by omega) (by omega) G hk hH (G.hide (noL_KF _) hp) rfl rfl (by kernel_rfl) rfl rfl rfl rfl rfl rfl rfl
    (fun Q E k => wpAny_of_eq hb (k _ _ (Kp.refl _) (Nat.le_refl _) (.cons q0 (.cons q1 .nil)))) (by rfl) (show (["self", "name"] : List Str).Nodup by decide) (fun L => ?_) (fun L σ' s' n f => ⟨trivial, f.book n⟩)
  have hd' : A.depth + 2 ≤ 900 := hd
  have hu' : A.units + 3 * 2 + 100 < cLine := hu
  have hsq : seqMax = 100000 := rfl
  refine' xs_assignD (d := .str (Txt.lower nm)) rfl (.inr ⟨rfl, _, rfl⟩) (fun h hk k => ?a1) (xs_setall (attr := none) (ds := prs.map pairD) (ds' := (delB prs nm).map pairD) (σ' := []) (x := "self") rfl List.mem_cons_self rfl rfl ?c1 ?c2 ?c3 ?c4 (fun h hk k => ev_cast (ev_comp (tp := true) (hid := true) (ds := prs.map pairD) (keepP nm) (fun d => d) (evIt_own (ev_hdr (attr := none) k (ev_nm k rfl rfl rfl) ?d1 ?d2 ?d3 ?d4)) ?b1 ?b2 ?b3 ?b4 ?b5 ?b6 ?b7 ?b8) ?b9) (fun _ _ e => by cases e) (fun _ _ e => by cases e) ?c5 ?c6 ?c7 (xs_nil rfl))
  case a1 => exact ev_conv (b := true) (pl := _) rfl k (rm_of hd' hu' (by omega)) (ev_nm k rfl rfl rfl) rfl (ev_lower rfl rfl (ev_nmD k rfl rfl rfl) on.ll) rfl rfl rfl rfl (fun s Q E q => kwAll_cons (wpAny_Constant_bool (kwAll_nil q))) on.lz on.lc
  case c1 => kernel_rfl
  case c2 => kernel_rfl
  case c3 => kernel_rfl
  case c4 => kernel_rfl
  case d1 => kernel_rfl
  case d2 => kernel_rfl
  case d3 => kernel_rfl
  case d4 => kernel_rfl
  case c5 => rw [List.length_map]; omega
  case c6 => have := delB_len prs nm; rw [List.length_map]; omega
  case c7 => rfl
  case b1 => rfl
  case b2 => decide
  case b3 => rfl
  case b4 => decide
  case b5 => exact fun _ => rfl
  case b6 => rw [List.length_map]; omega
  case b7 => exact fun C H d hd => tgt_name rfl rfl
  case b8 =>
    intro C H' hb h3 m d hd hI kp tr hk hn b
    obtain ⟨p, hpm, rfl⟩ := List.mem_map.mp hd
    have hp := hl p hpm
    refine' ⟨eifs_with (k.inner (σ₁ := [(Str.ofString "kv", .d (pairD p))]) (σ₂ := [(Str.ofString "name", .d (.str (Txt.lower nm)))]) hI kp tr hk rfl hn b ?l1 ?l2 ?l3) fun k' => eifs_one (et_cmp (a := .str (Txt.lower p.1)) (b := .str (Txt.lower nm)) rfl (ev_lower rfl rfl (ev_index (a := pairD p) (i := 0) rfl (ev_nmD k' rfl rfl rfl) ev_int rfl) hp) (ev_nmD k' rfl rfl rfl) rfl),
      fun _ => ev_with (k.inner (σ₁ := [(Str.ofString "kv", .d (pairD p))]) (σ₂ := []) hI kp tr hk rfl hn b ?l4 ?l5 ?l6) fun k' => ev_nmD k' rfl rfl rfl⟩
    case l1 => rfl
    case l2 => exact ⟨rfl, trivial⟩
    case l3 => exact ⟨⟨rfl, .inl rfl, .inl rfl, rfl⟩, trivial⟩
    case l4 => rfl
    case l5 => exact ⟨rfl, trivial⟩
    case l6 => trivial
  case b9 => rw [delB_map]
theorem setitem_ok {A : Around} {H : List Addr} {x dx l : Addr} {prs : List (Str × Str)} {nm tx : Str} (hh : A.handled = none) (hd : A.depth + 4 ≤ 900) (hu : A.units + 3 * 4 + 100 < cLine) (hH : l ∈ H) (hl : ∀ p ∈ prs, tooLong (Txt.lower p.1).length = false) (on : Okn nm) (ov : Okv tx) (hz : prs.length < seqMax) :
    ChA prog w A (KF w.params) H 128 215 x dx l ((delB prs nm ++ [(nm, tx)]).map pairD) [.book 215 x dx l (prs.map pairD), .d (.str nm), .d (.str tx)] anyR := by
  intro s rs G hk q
  cases q with | @cons r0 _ _ _ q0 q => cases q with | @cons r1 _ _ _ q1 q => cases q with | @cons r2 _ _ _ q2 q =>
  cases q
  have hb : bindArgs fd128 ⟨[r0, r1, r2], []⟩ = pure ([(Str.ofString "self", r0), (Str.ofString "name", r1), (Str.ofString "val", r2)] : List (Str × Value)) := by kernel_rfl
  obtain ⟨xs, hp⟩ := (q0.2 : BookIs 215 x dx l (prs.map pairD) H s.heap).pl
  refine fn_enterM (o := o128) (fd := fd128) (σ := [("self", .book 215 x dx l (prs.map pairD)), ("name", .d (.str nm)), ("val", .d (.str tx))]) (N := fun σ => σ.lookup (Str.ofString "self") = some (V.book 215 x dx l ((delB prs nm ++ [(nm, tx)]).map pairD))) hh (by omega) (by omega) G hk hH (G.hide (noL_KF _) hp) rfl rfl (by kernel_rfl) rfl rfl rfl rfl rfl rfl rfl
    (fun Q E k => wpAny_of_eq hb (k _ _ (Kp.refl _) (Nat.le_refl _) (.cons q0 (.cons q1 (.cons q2 .nil))))) (by rfl) (show (["self", "name", "val"] : List Str).Nodup by decide) (fun L => ?_) (fun L σ' s' n f => ⟨trivial, f.book n⟩)
  have hd' : A.depth + 4 ≤ 900 := hd
  have hu' : A.units + 3 * 4 + 100 < cLine := hu
  have hsq : seqMax = 100000 := rfl
  refine' xs_delitemM (fa := 133) (ds' := (delB prs nm).map pairD) (x := "self") (R' := anyR) (vi := .d (.str nm)) (σ' := [("name", .d (.str nm)), ("val", .d (.str tx))]) rfl List.mem_cons_self rfl rfl (fun h hk k => ev_nm k rfl rfl rfl) ?e1 ?e2 ?e3 (delitem_ok hh (by show A.depth + 1 + 2 ≤ 900; omega) (by show A.units + 3 + 3 * 2 + 100 < cLine; omega) hH hl on hz) (.cons rfl (.cons rfl .nil)) (fp_none (by simp [V.fp]))
    (xs_appendA (attr := none) (ds := (delB prs nm).map pairD) (d := .tup [.str nm, .str tx]) (σ' := []) rfl List.mem_cons_self rfl rfl ?c1 ?c2 ?c3 ?c4 (fun h hk k => ev_tuple (.cons rfl ?c5 (.cons rfl ?c6 .nil)) ?c7) (fun _ _ e => by cases e) (fun _ _ e => by cases e) ?c8 rfl rfl rfl rfl rfl (xs_nil ?c9))
  case e1 => kernel_rfl
  case e2 => kernel_rfl
  case e3 => kernel_rfl
  case c1 => kernel_rfl
  case c2 => kernel_rfl
  case c3 => kernel_rfl
  case c4 => kernel_rfl
  case c5 => exact ev_conv (b := true) (pl := _) rfl k (rm_of hd' hu' (by omega)) (ev_nm k rfl rfl rfl) rfl (ev_nmD k rfl rfl rfl) rfl rfl rfl rfl (fun s Q E q => kwAll_cons (wpAny_Constant_bool (kwAll_nil q))) on.z on.c
  case c6 => exact ev_conv (b := false) (pl := _) rfl k (rm_of hd' hu' (by omega)) (ev_nm k rfl rfl rfl) rfl (ev_nmD k rfl rfl rfl) rfl rfl rfl rfl (fun s Q E q => kwAll_cons (wpAny_Constant_bool (kwAll_nil q))) ov.z ov.c
  case c7 => exact Nat.le_of_ble_eq_true rfl
  case c8 => have := delB_len prs nm; rw [List.length_map]; omega
  case c9 => show some _ = some _; rw [List.map_append]; rfl
end
end
section
open PySem PySem.W PySem.Calls PyProof.Rows PySem.Builtin PySem.Builtin.Str
section
variable {prog : Program} {w : World}
theorem join_one (sep tx : Str) (h : tx.length + sep.length ≤ seqMax) : joinD sep [.str tx] = some tx := by
  have e : strs? [D.str tx] = some [tx] := rfl
  unfold joinD
  rw [e]
  dsimp only
  rw [if_pos (by simpa using h)]
  rfl
theorem addh_ok {A : Around} {H : List Addr} {x dx l : Addr} {prs : List (Str × Str)} {nm tx : Str} (hh : A.handled = none) (hd : A.depth + 4 ≤ 900) (hu : A.units + 3 * 4 + 100 < cLine) (hH : l ∈ H) (on : Okn nm) (ov : Okv tx) (hz : prs.length < seqMax) (ht : tx.length ≤ 1000) :
    ChA prog w A (KF w.params) H 212 215 x dx l ((prs ++ [(nm, tx)]).map pairD) [.book 215 x dx l (prs.map pairD), .d (.str nm), .d (.str tx)] anyR := by
  intro s rs G hk q
  cases q with | @cons r0 _ _ _ q0 q => cases q with | @cons r1 _ _ _ q1 q => cases q with | @cons r2 _ _ _ q2 q =>
  cases q
  have hb : bindArgs fd212 ⟨[r0, r1, r2], []⟩ = (alloc { cls := .type "dict", data := .dict #[] } >>= fun d => pure ([(Str.ofString "self", r0), (Str.ofString "_name", r1), (Str.ofString "_value", r2), (Str.ofString "_params", .ref d)] : List (Str × Value))) := by kernel_rfl
  have B0 : BookIs 215 x dx l (prs.map pairD) H s.heap := q0.2
  obtain ⟨xs, hp⟩ := B0.pl
  have hD : (s.heap.objs.size == sysModules) = false := by
    obtain ⟨m, n⟩ := G.g
    have := n.lt
    have h3 : mainGlobals = 3 := rfl
    rw [h3] at this
    have h4 : sysModules = 1 := rfl
    rw [h4]
    exact beq_eq_false_iff_ne.mpr (Nat.ne_of_gt (Nat.lt_trans (by decide) this))
  refine fn_enterM (o := o212) (fd := fd212) (σ := [("self", .book 215 x dx l (prs.map pairD)), ("_name", .d (.str nm)), ("_value", .d (.str tx)), ("_params", .dct prog w s.heap.objs.size [])]) (N := fun σ => σ.lookup (Str.ofString "self") = some (V.book 215 x dx l ((prs ++ [(nm, tx)]).map pairD))) hh (by omega) (by omega) G hk hH (G.hide (noL_KF _) hp) rfl rfl (by kernel_rfl) rfl rfl rfl rfl rfl rfl rfl
    (fun Q E k => by
      rw [hb]
      have k1 := Kp.push s.heap { cls := .type "dict", data := .dict #[] }
      exact wpAny_bind (wpAny_alloc (wpAny_pure (k _ _ k1 (by rw [Heap.size_push]; exact Nat.le_succ _) (.cons (q0.mono k1) (.cons (q1.mono k1) (.cons (q2.mono k1) (.cons ⟨rfl, [], Heap.DictOf.new _, rfl, .nil⟩ .nil)))))))) (by rfl) (show (["self", "_name", "_value", "_params"] : List Str).Nodup by decide) (fun L => ?_) (fun L σ' s' n f => ⟨trivial, f.book n⟩)
  have hd' : A.depth + 4 ≤ 900 := hd
  have hu' : A.units + 3 * 4 + 100 < cLine := hu
  have hsq : seqMax = 100000 := rfl
  refine' xs_newlistF (.inl rfl) (fun a hfa haH => xs_if_t (fun h hk k => ?a1) (xs_assignD (d := .str tx) rfl (.inl rfl) (fun h hk k => ?a2) (xs_append (x := "parts") (a := a) (ds := []) (d := .str tx) (σ' := [("self", .book 215 x dx l (prs.map pairD)), ("_name", .d (.str nm)), ("_params", .dct prog w s.heap.objs.size [])]) ?a3 List.mem_cons_self (fun h hk k => ev_nmD k rfl rfl rfl) ?a4 ?a5 ?a6 rfl rfl rfl rfl rfl rfl rfl (xs_nil rfl)))
    (xs_for_nil (fun h hk k => evNil_items (ev_nm k rfl rfl rfl) hD rfl rfl) (fun _ => rfl) (xs_appendA (attr := none) (ds := prs.map pairD) (d := .tup [.str nm, .str tx]) (σ' := []) (x := "self") rfl (List.mem_cons_of_mem _ List.mem_cons_self) rfl rfl ?c1 ?c2 ?c3 ?c4 (fun h hk k => ev_tuple (.cons rfl ?c5 (.cons rfl (ev_joinO rfl rfl rfl ev_str (ev_nm k rfl rfl rfl) (join_one _ _ ?c6)) .nil)) ?c7) (fun _ _ e => by cases e) (fun _ _ e => by cases e) ?c8 rfl rfl rfl rfl rfl (xs_nil ?c9)))) rfl
  case a1 => exact et_cmp rfl (ev_nmD k rfl rfl rfl) ev_none rfl
  case a2 => exact ev_conv (b := false) (pl := _) rfl k (rm_of hd' hu' (by omega)) (ev_nm k rfl rfl rfl) rfl (ev_nmD k rfl rfl rfl) rfl rfl rfl rfl (fun s Q E q => kwAll_cons (wpAny_Constant_bool (kwAll_nil q))) ov.z ov.c
  case a3 => rfl
  case a4 => exact .cons rfl (.cons rfl (.cons rfl .nil))
  case a5 =>
    refine fp_out fun p hp => ?_
    simp only [List.mem_cons, List.not_mem_nil, or_false] at hp
    rcases hp with rfl | rfl | rfl
    · exact hfa "self" _ rfl
    · exact hfa "_name" _ rfl
    · exact hfa "_params" _ rfl
  case a6 => show 0 < seqMax; omega
  case c1 => kernel_rfl
  case c2 => kernel_rfl
  case c3 => kernel_rfl
  case c4 => kernel_rfl
  case c5 => exact ev_conv (b := true) (pl := _) rfl k (rm_of hd' hu' (by omega)) (ev_nm k rfl rfl rfl) rfl (ev_nmD k rfl rfl rfl) rfl rfl rfl rfl (fun s Q E q => kwAll_cons (wpAny_Constant_bool (kwAll_nil q))) on.z on.c
  case c6 => show tx.length + 2 ≤ seqMax; omega
  case c7 => exact Nat.le_of_ble_eq_true rfl
  case c8 => rw [List.length_map]; omega
  case c9 => show some _ = some _; rw [List.map_append]; rfl
end
end
section
open PySem PySem.W PySem.Calls PyProof.Rows PySem.Builtin PySem.Builtin.Str
section
variable {prog : Program} {w : World}
/-- the signs that a text or a name may hold -/
noncomputable def goodc : List Nat := [39, 43, 45, 60, 62, 65, 66, 67, 97, 98, 99]
theorem inset_ok {items : List Value} (h : items = itemsN ∨ items = itemsV) {c : Nat} (hc : c ∈ goodc) (seen : Sre.Seen) : ∃ s', Sre.inSet (codeOf items) c (codeOf items).size 5 true seen = .ok (false, s') := by
  have e : (match Sre.inSet (codeOf items) c (codeOf items).size 5 true seen with | .ok (b, _) => some b | .error _ => none) = some false := by
    simp only [goodc, List.mem_cons, List.not_mem_nil, or_false] at hc
    rcases h with rfl | rfl <;> rcases hc with rfl | rfl | rfl | rfl | rfl | rfl | rfl | rfl | rfl | rfl | rfl <;> kernel_rfl
  split at e
  · rename_i b s' q
    cases e
    exact ⟨s', q⟩
  · cases e
theorem admitted_ok {items : List Value} (h : items = itemsN ∨ items = itemsV) (m : Sre.M) (hm : m.code = codeOf items) (ht : ∀ i, i < m.lim → m.text.getD i 0 ∈ goodc) : ∀ (fuel s : Nat) (seen : Sre.Seen), ∃ s', Sre.M.admitted m fuel s seen = .ok (none, s')
  | 0, _, seen => ⟨seen, rfl⟩
  | fuel + 1, s, seen => by
    unfold Sre.M.admitted
    by_cases hs : s ≥ m.lim
    · rw [if_pos hs]; exact ⟨_, rfl⟩
    · rw [if_neg hs]
      obtain ⟨s', e⟩ := inset_ok h (ht s (Nat.not_le.mp hs)) seen
      rw [hm, e]
      exact admitted_ok h m hm ht fuel (s + 1) s'
theorem clean_ok {items : List Value} (h : items = itemsN ∨ items = itemsV) {x : Str} (hx : ∀ c ∈ x.cps.toList, c ∈ goodc) : clean items x := by
  refine ⟨0, by decide, ?_⟩
  have say : ∀ m : Sre.M, m.outcome = none → m.frames = [] → (Sre.M.runFor (4 * (0 + 1)) (m.say false)).outcome = some .failed := by
    intro m h1 h2
    obtain ⟨code, text, lim, start, ls, wt, ma, pc, pos, handed, om, marks, lm, li, loops, inner, frames, weight, answer, seen, outcome⟩ := m
    dsimp only at h1 h2
    subst h1 h2
    rfl
  have key : ∀ m : Sre.M, m.code = codeOf items → m.text = x.cps → m.lim = x.cps.size → m.outcome = none → m.frames = [] → (Sre.M.runFor (4 * (0 + 1)) (m.attemptFrom 0 true)).outcome = some .failed := by
    intro m h1 h2 h3 h4 h5
    have hf : m.hasFirstSet = true := by
      unfold Sre.M.hasFirstSet
      rw [h1]
      rcases h with rfl | rfl <;> kernel_rfl
    unfold Sre.M.attemptFrom
    rw [hf]
    simp only [Bool.not_true, Bool.false_eq_true, if_false]
    obtain ⟨s', e'⟩ := admitted_ok h m h1 (fun i hi => by
      rw [h3] at hi
      rw [h2, Array.getD_eq_getD_getElem?, Array.getElem?_eq_getElem hi]
      exact hx _ (Array.getElem_mem_toList hi)) (m.lim + 1 - 0) 0 m.seen
    rw [e']
    exact say _ h4 h5
  unfold Sre.forSearch
  dsimp only
  split
  · exact say _ rfl rfl
  · exact key _ rfl rfl rfl rfl rfl
end
end
section
open PySem PySem.W PySem.Calls PyProof.Rows PySem.Builtin PySem.Builtin.Str
section
variable {prog : Program} {w : World}
structure Ent where
  (nm fm a b c : Nat)
  deriving Inhabited
noncomputable def names6 : List Nat := [97, 98, 99, 65, 66, 67]
noncomputable def signs8 : List Nat := [43, 45, 60, 62, 97, 65, 98, 66]
structure Ent.Ok (e : Ent) : Prop where
  n : e.nm ∈ names6
  f : e.fm < 5
  a : e.a ∈ signs8
  b : e.b ∈ signs8
  c : e.c ∈ signs8
noncomputable def lowc (n : Nat) : Nat := if n < 97 then n + 32 else n
noncomputable def txtL (fm a b c : Nat) : List Nat := match fm with
  | 0 => [a, b, c]
  | 1 => [a, 39, b, 39, c]
  | 2 => [a, 39, b, 39]
  | 3 => [a, 39, b, c]
  | _ => [a, 39, b, 39, c, 39]
noncomputable def txtS (l : List Nat) : Str := ⟨l.toArray⟩
noncomputable def Ent.txt (e : Ent) : Str := txtS (txtL e.fm e.a e.b e.c)
noncomputable def Ent.pair (e : Ent) : Str × Str := (ch1 e.nm, e.txt)
noncomputable def Ent.parts (e : Ent) : List Str := partsD e.fm (ch1 e.a) (ch1 e.b) (ch1 e.c)
noncomputable def Ent.d (e : Ent) : D := .tup [.str (ch1 e.nm), .lst (e.parts.map .str)]
theorem join_parts (e : Ent) : joinD (Str.ofString "'") (e.parts.map .str) = some e.txt := by
  obtain ⟨nm, fm, a, b, c⟩ := e
  match fm with
  | 0 => rfl
  | 1 => rfl
  | 2 => rfl
  | 3 => rfl
  | n + 4 => rfl
theorem low_name {n : Nat} (h : n ∈ names6) : Txt.lower (ch1 n) = ch1 (lowc n) := by
  simp only [names6, List.mem_cons, List.not_mem_nil, or_false] at h
  rcases h with rfl | rfl | rfl | rfl | rfl | rfl <;> decide +kernel
theorem low_low {n : Nat} (h : n ∈ names6) : lowc n ∈ names6 := by
  simp only [names6, List.mem_cons, List.not_mem_nil, or_false] at h
  rcases h with rfl | rfl | rfl | rfl | rfl | rfl <;> decide
theorem same_ch (a b : Nat) : same (ch1 a) (ch1 b) = (a == b) := by
  unfold same ch1
  simp
theorem good_name {n : Nat} (h : n ∈ names6) : n ∈ goodc := by
  simp only [names6, List.mem_cons, List.not_mem_nil, or_false] at h
  rcases h with rfl | rfl | rfl | rfl | rfl | rfl <;> decide
theorem good_sign {n : Nat} (h : n ∈ signs8) : n ∈ goodc := by
  simp only [signs8, List.mem_cons, List.not_mem_nil, or_false] at h
  rcases h with rfl | rfl | rfl | rfl | rfl | rfl | rfl | rfl <;> decide
theorem clean_name {n : Nat} (h : n ∈ names6) : clean itemsN (ch1 n) := clean_ok (.inl rfl) fun c hc => by
  have : c = n := by simpa [ch1] using hc
  rw [this]; exact good_name h
theorem okn {n : Nat} (h : n ∈ names6) : Okn (ch1 n) where
  c := clean_name h
  z := by show (1 : Nat) < _; decide
  lc := by rw [low_name h]; exact clean_name (low_low h)
  lz := by rw [low_name h]; show (1 : Nat) < _; decide
  ll := by rw [low_name h]; rfl
theorem txt_good {e : Ent} (h : e.Ok) : ∀ c ∈ e.txt.cps.toList, c ∈ goodc := by
  obtain ⟨nm, fm, a, b, c⟩ := e
  obtain ⟨h1, h2, h3, h4, h5⟩ := h
  have g1 := good_sign h3
  have g2 := good_sign h4
  have g3 := good_sign h5
  have gt : 39 ∈ goodc := by decide
  intro x hx
  have hx : x ∈ txtL fm a b c := hx
  match fm, hx with
  | 0, hx | 1, hx | 2, hx | 3, hx | n + 4, hx =>
    simp only [txtL, List.mem_cons, List.not_mem_nil, or_false] at hx
    rcases hx with rfl | hx
    · assumption
    all_goals (first | (rcases hx with rfl | rfl | rfl | rfl | rfl) | (rcases hx with rfl | rfl | rfl | rfl) | (rcases hx with rfl | rfl | rfl) | (rcases hx with rfl | rfl)) <;> assumption
theorem txt_len (e : Ent) : e.txt.length ≤ 6 := by
  obtain ⟨nm, fm, a, b, c⟩ := e
  show (txtL fm a b c).toArray.size ≤ 6
  match fm with
  | 0 | 1 | 2 | 3 | n + 4 => simp [txtL]
theorem okv {e : Ent} (h : e.Ok) : Okv e.txt where
  c := clean_ok (.inr rfl) (txt_good h)
  z := Nat.lt_of_le_of_lt (txt_len e) (by decide)

noncomputable def nmc (n : Nat) : Nat := ((Str.ofString "abcABC").cps[n / 4 % 3 + 3 * (n / 30720)]?).getD 0
noncomputable def entOf (n : Nat) : Ent := ⟨nmc n, cform n, sg (cdig n 0), sg (cdig n 1), sg (cdig n 2)⟩
noncomputable def keepE (es : List Ent) (e : Ent) : List Ent := es.filter fun p => !(lowc p.nm == lowc e.nm)
noncomputable def deedE (es : List Ent) (n : Nat) : List Ent :=
  if n % 4 = 0 then es ++ [entOf n] else
  if n % 4 = 1 then (if (keepE es (entOf n)).length = es.length then es ++ [entOf n] else es) else
  if n % 4 = 2 then keepE es (entOf n) ++ [entOf n] else keepE es (entOf n)
noncomputable def AllOk (es : List Ent) : Prop := ∀ e ∈ es, e.Ok
theorem nmc_ok {n : Nat} (h : n < 61440) : nmc n ∈ names6 := by
  have h1 : n / 4 % 3 < 3 := Nat.mod_lt _ (by decide)
  have h2 : n / 30720 < 2 := Nat.div_lt_of_lt_mul (by omega)
  unfold nmc
  generalize n / 4 % 3 = i at *
  generalize n / 30720 = j at *
  match i, j, h1, h2 with
  | 0, 0, _, _ => decide
  | 1, 0, _, _ => decide
  | 2, 0, _, _ => decide
  | 0, 1, _, _ => decide
  | 1, 1, _, _ => decide
  | 2, 1, _, _ => decide
theorem sg_ok {i : Nat} (h : i < 8) : sg i ∈ signs8 := by
  match i, h with
  | 0, _ | 1, _ | 2, _ | 3, _ | 4, _ | 5, _ | 6, _ | 7, _ => decide
theorem cdig_lt (n k : Nat) : cdig n k < 8 := by
  have h1 : cl n < 3 := Nat.mod_lt _ (by decide)
  have : cdig n k < 4 + 2 * cl n := Nat.mod_lt _ (by omega)
  omega
theorem ent_ok {n : Nat} (h : n < 61440) : (entOf n).Ok := ⟨nmc_ok h, Nat.mod_lt _ (by decide), sg_ok (cdig_lt _ _), sg_ok (cdig_lt _ _), sg_ok (cdig_lt _ _)⟩
theorem keepE_ok {es : List Ent} {e : Ent} (h : AllOk es) : AllOk (keepE es e) := fun x hx => h x (List.mem_filter.mp hx).1
theorem deedE_ok {es : List Ent} {n : Nat} (h : AllOk es) (hn : n < 61440) : AllOk (deedE es n) := by
  have e1 := ent_ok hn
  have app : ∀ l, AllOk l → AllOk (l ++ [entOf n]) := fun l hl x hx => by
    rcases List.mem_append.mp hx with hx | hx
    · exact hl x hx
    · rw [List.mem_singleton.mp hx]; exact e1
  unfold deedE
  split
  · exact app _ h
  · split
    · split
      · exact app _ h
      · exact h
    · split
      · exact app _ (keepE_ok h)
      · exact keepE_ok h
theorem deedE_len (es : List Ent) (n : Nat) : (deedE es n).length ≤ es.length + 1 := by
  have := List.length_filter_le (fun p : Ent => !(lowc p.nm == lowc (entOf n).nm)) es
  unfold deedE keepE
  split
  · simp
  · split
    · split
      · simp
      · omega
    · split
      · simp; omega
      · omega
theorem low_pair {e : Ent} (h : e.Ok) (nm : Nat) (hn : nm ∈ names6) : same (Txt.lower e.pair.1) (Txt.lower (ch1 nm)) = (lowc e.nm == lowc nm) := by
  rw [show e.pair.1 = ch1 e.nm from rfl, low_name h.n, low_name hn, same_ch]
theorem delB_pairs {es : List Ent} {e : Ent} (h : AllOk es) (he : e.Ok) : delB (es.map Ent.pair) (ch1 e.nm) = (keepE es e).map Ent.pair := by
  unfold delB keepE
  rw [List.filter_map]
  congr 1
  apply List.filter_congr
  intro x hx
  show (!(same (Txt.lower x.pair.1) (Txt.lower (ch1 e.nm)))) = _
  rw [low_pair (h x hx) _ he.n]
theorem getB_pairs {es : List Ent} (h : AllOk es) {nm : Nat} (hn : nm ∈ names6) (d : D) : getB (es.map Ent.pair) (Txt.lower (ch1 nm)) d = match es.find? (fun p => lowc p.nm == lowc nm) with | some p => .str p.txt | none => d := by
  unfold getB
  rw [List.find?_map]
  have : es.find? ((fun p : Str × Str => same (Txt.lower p.1) (Txt.lower (ch1 nm))) ∘ Ent.pair) = es.find? (fun p => lowc p.nm == lowc nm) := by
    induction es with
    | nil => rfl
    | cons x xs ih =>
      rw [List.find?_cons, List.find?_cons]
      have e1 : ((fun p : Str × Str => same (Txt.lower p.1) (Txt.lower (ch1 nm))) ∘ Ent.pair) x = (lowc x.nm == lowc nm) := low_pair (h x List.mem_cons_self) _ hn
      rw [e1, ih fun y hy => h y (List.mem_cons_of_mem _ hy)]
  rw [this]
  cases es.find? (fun p => lowc p.nm == lowc nm) with
  | none => rfl
  | some p => rfl
theorem setB_pairs {es : List Ent} {e : Ent} (h : AllOk es) (he : e.Ok) : setB (es.map Ent.pair) (ch1 e.nm) e.txt = (if (keepE es e).length = es.length then es ++ [e] else es).map Ent.pair := by
  unfold setB
  rw [getB_pairs h he.n]
  have hk : (keepE es e).length = es.length ↔ es.find? (fun p => lowc p.nm == lowc e.nm) = none := by
    unfold keepE
    rw [List.length_filter_eq_length_iff, List.find?_eq_none]
    constructor
    · intro q x hx; simpa using q x hx
    · intro q x hx; simpa using q x hx
  cases q : es.find? (fun p => lowc p.nm == lowc e.nm) with
  | none => rw [if_pos (hk.mpr q)]; simp [Ent.pair]
  | some p => rw [if_neg (fun z => by rw [hk.mp z] at q; cases q)]
end
end
section
open PySem PySem.W PySem.Calls PyProof.Rows PySem.Builtin PySem.Builtin.Str
section
variable {prog : Program} {w : World}
theorem keepE_map {es : List Ent} {e : Ent} (h : AllOk es) (he : e.Ok) : ((es.map Ent.d).filter (keepP (ch1 e.nm))).map (fun d => d) = (keepE es e).map Ent.d := by
  unfold keepE
  rw [List.map_id', List.filter_map]
  congr 1
  apply List.filter_congr
  intro x hx
  show (!(same (Txt.lower x.pair.1) (Txt.lower (ch1 e.nm)))) = _
  rw [low_pair (h x hx) _ he.n]
theorem name_at {n : Nat} (h : n < 61440) : itemD (.str (Str.ofString "abcABC")) ((n / 4 % 3 + 3 * (n / 30720) : Nat) : Int) = some (.str (ch1 (nmc n))) := by
  have h1 : n / 4 % 3 < 3 := Nat.mod_lt _ (by decide)
  have h2 : n / 30720 < 2 := Nat.div_lt_of_lt_mul (by omega)
  unfold nmc
  generalize n / 4 % 3 = i at *
  generalize n / 30720 = j at *
  match i, j, h1, h2 with
  | 0, 0, _, _ => rfl
  | 1, 0, _, _ => rfl
  | 2, 0, _, _ => rfl
  | 0, 1, _, _ => rfl
  | 1, 1, _, _ => rfl
  | 2, 1, _, _ => rfl
theorem len_lst {xs : List D} (h : xs.length ≤ seqMax) : lenD (.lst xs) = some (xs.length : Int) := if_pos h
theorem deed_ok {A : Around} {H : List Addr} {x dx l : Addr} {es : List Ent} {n : Nat} (hh : A.handled = none) (hd : A.depth + 6 ≤ 900) (hu : A.units + 3 * 6 + 100 < cLine) (hH : l ∈ H) (hok : AllOk es) (hn : n < 61440) (hz : es.length ≤ 100) :
    ChA prog w A (KF w.params) H 229 215 x dx l (((deedE es n).map Ent.pair).map pairD) [.book 215 x dx l ((es.map Ent.pair).map pairD), .d (.lst (es.map Ent.d)), .d (.int n)] (fun h r => Rep H h r (.lst ((deedE es n).map Ent.d))) := by
  intro s rs G hk q
  cases q with | @cons r0 _ _ _ q0 q => cases q with | @cons r1 _ _ _ q1 q => cases q with | @cons r2 _ _ _ q2 q =>
  cases q
  have hb : bindArgs fd229 ⟨[r0, r1, r2], []⟩ = pure ([(Str.ofString "book", r0), (Str.ofString "pairs", r1), (Str.ofString "cell", r2)] : List (Str × Value)) := by kernel_rfl
  obtain ⟨xs, hp⟩ := (q0.2 : BookIs 215 x dx l ((es.map Ent.pair).map pairD) H s.heap).pl
  refine fn_enterM (o := o229) (fd := fd229) (σ := [("book", .book 215 x dx l ((es.map Ent.pair).map pairD)), ("pairs", .d (.lst (es.map Ent.d))), ("cell", .d (.int n))]) (N := fun _ => False) hh (by omega) (by omega) G hk hH (G.hide (noL_KF _) hp) rfl rfl (by kernel_rfl) rfl rfl rfl rfl rfl rfl rfl
    (fun Q E k => wpAny_of_eq hb (k _ _ (Kp.refl _) (Nat.le_refl _) (.cons q0 (.cons q1 (.cons q2 .nil))))) (by rfl) (show (["book", "pairs", "cell"] : List Str).Nodup by decide) (fun L => ?_) (fun L σ' s' f => f.elim)
  have hd' : A.depth + 6 ≤ 900 := hd
  have hu' : A.units + 3 * 6 + 100 < cLine := hu
  have hsq : seqMax = 100000 := rfl
  have he := ent_ok hn
  have on := okn he.n
  have ov := okv he
  have hl : ∀ p ∈ es.map Ent.pair, tooLong (Txt.lower p.1).length = false := by
    intro p hp
    obtain ⟨e, hm, rfl⟩ := List.mem_map.mp hp
    exact (okn (hok e hm).n).ll
  have C := parts_ok (prog := prog) (w := w) (n := n)
  have hm3 : SmallM 3 := SmallM.of_lt 64 (by decide) (by decide)
  have hidx : Int.fmod (Int.fdiv (n : Int) 4) 3 + 3 * Int.fdiv (n : Int) 30720 = ((n / 4 % 3 + 3 * (n / 30720) : Nat) : Int) := by
    have e1 : Int.fmod (Int.fdiv (n : Int) ((4 : Nat) : Int)) ((3 : Nat) : Int) = ((n / 4 % 3 : Nat) : Int) := by rw [fd, fm]
    have e2 : Int.fdiv (n : Int) ((30720 : Nat) : Int) = ((n / 30720 : Nat) : Int) := by rw [fd]
    have e1 : Int.fmod (Int.fdiv (n : Int) 4) 3 = ((n / 4 % 3 : Nat) : Int) := e1
    have e2 : Int.fdiv (n : Int) 30720 = ((n / 30720 : Nat) : Int) := e2
    rw [e1, e2]; omega
  have hmq : SmallM (Int.fdiv (n : Int) 30720) := by
    have e2 : Int.fdiv (n : Int) ((30720 : Nat) : Int) = ((n / 30720 : Nat) : Int) := by rw [fd]
    have e2 : Int.fdiv (n : Int) 30720 = ((n / 30720 : Nat) : Int) := e2
    rw [e2]; exact SmallM.of_lt 64 (by omega) (by decide)
  have hcm : Int.fmod (n : Int) 4 = ((n % 4 : Nat) : Int) := fm n 4
  have hkl := List.length_filter_le (fun p : Ent => !(lowc p.nm == lowc (entOf n).nm)) es
  have hkl : (keepE es (entOf n)).length ≤ es.length := hkl
  refine' xs_assignD (d := .str (ch1 (nmc n))) rfl (.inr ⟨rfl, _, rfl⟩) (fun h hk k => ev_index rfl ev_str (ev_cast ?a1 (congrArg D.int hidx)) (name_at hn)) (xs_assignD (d := .lst ((entOf n).parts.map .str)) rfl (.inl rfl) (fun h hk k => ?a2)
    (xs_comp (tp := true) (hid := false) (ds := es.map Ent.d) (keepP (ch1 (entOf n).nm)) (fun d => d) rfl (fun h hk k => evIt_data ?b0 (.inl rfl)) ?b1 ?b2 ?b3 ?b4 ?b5 ?b6 ?b7 (.inl rfl) ?b8 ?b9))
  case a1 => walk_at "ev"
  case a2 => walk_at "ev"
  case b0 => exact ev_nmD k rfl rfl rfl
  case b1 => rfl
  case b2 => decide
  case b3 => rfl
  case b4 => decide
  case b5 => exact fun _ => rfl
  case b6 => rw [List.length_map]; omega
  case b7 => exact fun C H d hd => tgt_name rfl rfl
  case b8 =>
    intro h hk k C H' hb h3 m d hd hI kp tr hk' hn b
    obtain ⟨p, hpm, rfl⟩ := List.mem_map.mp hd
    have hp := (okn (hok p hpm).n).ll
    refine' ⟨eifs_with (k.inner (σ₁ := [(Str.ofString "pair", .d p.d)]) (σ₂ := [(Str.ofString "name", .d (.str (ch1 (nmc n))))]) hI kp tr hk' rfl hn b ?l1 ?l2 ?l3) fun k' => eifs_one (et_cmp (a := .str (Txt.lower (ch1 p.nm))) (b := .str (Txt.lower (ch1 (nmc n)))) rfl (ev_lower rfl rfl (ev_index (a := p.d) (i := 0) rfl (ev_nmD k' rfl rfl rfl) ev_int rfl) hp) (ev_lower rfl rfl (ev_nmD k' rfl rfl rfl) on.ll) rfl),
      fun _ => ev_with (k.inner (σ₁ := [(Str.ofString "pair", .d p.d)]) (σ₂ := []) hI kp tr hk' rfl hn b ?l4 ?l5 ?l6) fun k' => ev_nmD k' rfl rfl rfl⟩
    case l1 => rfl
    case l2 => exact ⟨rfl, trivial⟩
    case l3 => exact ⟨⟨rfl, .inl rfl, .inl rfl, rfl⟩, trivial⟩
    case l4 => rfl
    case l5 => exact ⟨rfl, trivial⟩
    case l6 => trivial
  case b9 =>
  rw [keepE_map hok he]
  have rA : ∀ {σ : Sig} {es' : List Ent} {e : Expr} {h : Heap} {hk : HOK H h}, True := trivial
  have t4 : n % 4 = 0 ∨ n % 4 = 1 ∨ n % 4 = 2 ∨ n % 4 = 3 := by omega
  have eqb : ∀ a : Int, (Int.fmod (n : Int) 4 == a) = decide (((n % 4 : Nat) : Int) = a) := fun a => by rw [hcm]; rfl
  have hn1 : es.length < seqMax := by omega
  have hlm : (es.map Ent.pair).length < seqMax := by rw [List.length_map]; omega
  have sz : (entOf n).txt.length ≤ 1000 := Nat.le_trans (txt_len _) (by decide)
  have dup : ∀ l : List Ent, ((l ++ [entOf n]).map Ent.pair).map pairD = (l.map Ent.pair ++ [(ch1 (entOf n).nm, (entOf n).txt)]).map pairD := fun l => by rw [List.map_append]; rfl
  have dd : ∀ l : List Ent, (D.lst (l.map Ent.d ++ [.tup [.str (ch1 (nmc n)), .lst ((entOf n).parts.map .str)]])) = D.lst ((l ++ [entOf n]).map Ent.d) := fun l => by rw [List.map_append]; rfl
  rcases t4 with h4 | h4 | h4 | h4
  · have e0 : deedE es n = es ++ [entOf n] := by unfold deedE; rw [if_pos h4]
    rw [e0]
    have c0 : (Int.fmod (n : Int) 4 == 0) = true := by rw [eqb, h4]; rfl
    refine' xs_if_ret (fun h hk k => et_cast (et_cmp (a := .int (Int.fmod (n : Int) 4)) (b := .int 0) rfl ?c1 ev_int rfl) c0) (xs_methM (fa := 212) (pl := _) (ds' := ((es ++ [entOf n]).map Ent.pair).map pairD) (R' := anyR) (vs := [.d (.str (entOf n).txt)]) (v := .d (.str (ch1 (nmc n)))) (x := "book") (σ' := [("name", .d (.str (ch1 (nmc n)))), ("parts", .d (.lst ((entOf n).parts.map .str))), ("pairs", .d (.lst (es.map Ent.d)))]) rfl List.mem_cons_self rfl rfl
      (fun h hk k => .cons rfl (ev_nm k rfl rfl rfl) (.cons rfl (ev_join rfl rfl rfl ev_str (ev_nmD k rfl rfl rfl) (join_parts _)) .nil)) rfl ?c3 ?c4 ?c5 ?c6 rfl ?c7 (.cons rfl (.cons rfl (.cons rfl .nil))) (fp_none (by simp [V.fp])) rfl rfl
      (xs_retB (x := "book") rfl (fun h hk k => ev_bin (ev_nmD k rfl rfl rfl) (ev_list (.cons rfl (ev_tuple (.cons rfl (ev_nmD k rfl rfl rfl) (.cons rfl (ev_nmD k rfl rfl rfl) .nil)) ?c8) .nil) ?c9) (lst_add ?c10)) (dd _) rfl))
    case c1 => walk_at "ev"
    case c3 => kernel_rfl
    case c4 => kernel_rfl
    case c5 => kernel_rfl
    case c6 => kernel_rfl
    case c7 => rw [dup]; exact addh_ok hh (by show A.depth + 1 + 4 ≤ 900; omega) (by show A.units + 3 + 3 * 4 + 100 < cLine; omega) hH on ov hlm sz
    case c8 => exact Nat.le_of_ble_eq_true rfl
    case c9 => exact Nat.le_of_ble_eq_true rfl
    case c10 => rw [List.length_map]; simp; omega
  · have e0 : deedE es n = if (keepE es (entOf n)).length = es.length then es ++ [entOf n] else es := by unfold deedE; rw [if_neg (by omega), if_pos h4]
    have c0 : (Int.fmod (n : Int) 4 == 0) = false := by rw [eqb, h4]; rfl
    have c1 : (Int.fmod (n : Int) 4 == 1) = true := by rw [eqb, h4]; rfl
    rw [e0]
    have hlen : (((keepE es (entOf n)).length : Int) == (es.length : Int)) = decide ((keepE es (entOf n)).length = es.length) := by
      by_cases q : (keepE es (entOf n)).length = es.length
      · rw [q]; simp
      · rw [decide_eq_false q]; exact beq_eq_false_iff_ne.mpr fun z => q (by omega)
    refine' xs_if_skip (fun h hk k => et_cast (et_cmp (a := .int (Int.fmod (n : Int) 4)) (b := .int 0) rfl ?d1 ev_int rfl) c0) (xs_if_ret (fun h hk k => et_cast (et_cmp (a := .int (Int.fmod (n : Int) 4)) (b := .int 1) rfl ?c1 ev_int rfl) c1) (xs_methM (fa := 205) (pl := _) (ds' := ((if (keepE es (entOf n)).length = es.length then es ++ [entOf n] else es).map Ent.pair).map pairD) (R' := fun h r => Rep H h r (retB (es.map Ent.pair) (ch1 (entOf n).nm) (entOf n).txt)) (vs := [.d (.str (entOf n).txt)]) (v := .d (.str (ch1 (nmc n)))) (x := "book") (σ' := [("name", .d (.str (ch1 (nmc n)))), ("parts", .d (.lst ((entOf n).parts.map .str))), ("pairs", .d (.lst (es.map Ent.d))), ("others", .d (.lst ((keepE es (entOf n)).map Ent.d)))]) rfl List.mem_cons_self rfl rfl
      (fun h hk k => .cons rfl (ev_nm k rfl rfl rfl) (.cons rfl (ev_join rfl rfl rfl ev_str (ev_nmD k rfl rfl rfl) (join_parts _)) .nil)) rfl ?c3 ?c4 ?c5 ?c6 rfl ?c7 (.cons rfl (.cons rfl (.cons rfl (.cons rfl .nil)))) (fp_none (by simp [V.fp])) rfl rfl
      (xs_retB (x := "book") (d := .lst ((if (keepE es (entOf n)).length = es.length then es ++ [entOf n] else es).map Ent.d)) rfl (fun h hk k => ev_ite (b := decide ((keepE es (entOf n)).length = es.length)) (et_cast (et_cmp (a := .int ((keepE es (entOf n)).length : Int)) (b := .int (es.length : Int)) rfl (ev_lenof k ⟨rfl, rfl, by decide, rfl, rfl⟩ rfl (ev_nmD k rfl rfl rfl) ?c11) (ev_lenof k ⟨rfl, rfl, by decide, rfl, rfl⟩ rfl (ev_nmD k rfl rfl rfl) ?c12) rfl) hlen) (fun q => ?c13) (fun q => ?c14)) rfl rfl)))
    case d1 => walk_at "ev"
    case c1 => walk_at "ev"
    case c3 => kernel_rfl
    case c4 => kernel_rfl
    case c5 => kernel_rfl
    case c6 => kernel_rfl
    case c7 =>
      have := setdef_ok (prog := prog) (w := w) (A := A.deeper (callEnvC fd229 L 229)) (H := H) (x := x) (dx := dx) (l := l) (prs := es.map Ent.pair) (nm := ch1 (entOf n).nm) (tx := (entOf n).txt) hh (by show A.depth + 1 + 4 ≤ 900; omega) (by show A.units + 3 + 3 * 4 + 100 < cLine; omega) hH hl on ov hlm
      rw [setB_pairs hok he] at this
      exact this
    case c11 => rw [len_lst (by rw [List.length_map]; omega), List.length_map]
    case c12 => rw [len_lst (by rw [List.length_map]; omega), List.length_map]
    case c13 =>
      rw [if_pos (of_decide_eq_true q), ← dd]
      refine' ev_bin (ev_nmD k rfl rfl rfl) (ev_list (.cons rfl (ev_tuple (.cons rfl (ev_nmD k rfl rfl rfl) (.cons rfl (ev_nmD k rfl rfl rfl) .nil)) ?c8) .nil) ?c9) (lst_add ?c10)
      case c8 => exact Nat.le_of_ble_eq_true rfl
      case c9 => exact Nat.le_of_ble_eq_true rfl
      case c10 => rw [List.length_map]; simp; omega
    case c14 =>
      rw [if_neg (of_decide_eq_false q)]
      exact ev_nmD k rfl rfl rfl
  · have e0 : deedE es n = keepE es (entOf n) ++ [entOf n] := by unfold deedE; rw [if_neg (by omega), if_neg (by omega), if_pos h4]
    have c0 : (Int.fmod (n : Int) 4 == 0) = false := by rw [eqb, h4]; rfl
    have c1 : (Int.fmod (n : Int) 4 == 1) = false := by rw [eqb, h4]; rfl
    have c2 : (Int.fmod (n : Int) 4 == 2) = true := by rw [eqb, h4]; rfl
    rw [e0]
    refine' xs_if_skip (fun h hk k => et_cast (et_cmp (a := .int (Int.fmod (n : Int) 4)) (b := .int 0) rfl ?d1 ev_int rfl) c0) (xs_if_skip (fun h hk k => et_cast (et_cmp (a := .int (Int.fmod (n : Int) 4)) (b := .int 1) rfl ?d2 ev_int rfl) c1) (xs_if_ret (fun h hk k => et_cast (et_cmp (a := .int (Int.fmod (n : Int) 4)) (b := .int 2) rfl ?d3 ev_int rfl) c2)
      (xs_setitemM (fa := 128) (ds' := ((keepE es (entOf n) ++ [entOf n]).map Ent.pair).map pairD) (R' := anyR) (vv := .d (.str (entOf n).txt)) (vi := .d (.str (ch1 (nmc n)))) (x := "book") (σ' := [("name", .d (.str (ch1 (nmc n)))), ("parts", .d (.lst ((entOf n).parts.map .str))), ("others", .d (.lst ((keepE es (entOf n)).map Ent.d)))]) rfl List.mem_cons_self rfl rfl
      (fun h hk k => ev_join rfl rfl rfl ev_str (ev_nmD k rfl rfl rfl) (join_parts _)) (fun h hk k => ev_nm k rfl rfl rfl) ?c3 ?c4 ?c5 ?c7 (.cons rfl (.cons rfl (.cons rfl .nil))) (fp_none (by simp [V.fp])) rfl
      (xs_retB (x := "book") rfl (fun h hk k => ev_bin (ev_nmD k rfl rfl rfl) (ev_list (.cons rfl (ev_tuple (.cons rfl (ev_nmD k rfl rfl rfl) (.cons rfl (ev_nmD k rfl rfl rfl) .nil)) ?c8) .nil) ?c9) (lst_add ?c10)) (dd _) rfl))))
    case d1 => walk_at "ev"
    case d2 => walk_at "ev"
    case d3 => walk_at "ev"
    case c3 => kernel_rfl
    case c4 => kernel_rfl
    case c5 => kernel_rfl
    case c7 =>
      have := setitem_ok (prog := prog) (w := w) (A := A.deeper (callEnvC fd229 L 229)) (H := H) (x := x) (dx := dx) (l := l) (prs := es.map Ent.pair) (nm := ch1 (entOf n).nm) (tx := (entOf n).txt) hh (by show A.depth + 1 + 4 ≤ 900; omega) (by show A.units + 3 + 3 * 4 + 100 < cLine; omega) hH hl on ov hlm
      rw [delB_pairs hok he] at this
      rw [dup]
      exact this
    case c8 => exact Nat.le_of_ble_eq_true rfl
    case c9 => exact Nat.le_of_ble_eq_true rfl
    case c10 => rw [List.length_map]; simp; omega
  · have e0 : deedE es n = keepE es (entOf n) := by unfold deedE; rw [if_neg (by omega), if_neg (by omega), if_neg (by omega)]
    have c0 : (Int.fmod (n : Int) 4 == 0) = false := by rw [eqb, h4]; rfl
    have c1 : (Int.fmod (n : Int) 4 == 1) = false := by rw [eqb, h4]; rfl
    have c2 : (Int.fmod (n : Int) 4 == 2) = false := by rw [eqb, h4]; rfl
    rw [e0]
    refine' xs_if_skip (fun h hk k => et_cast (et_cmp (a := .int (Int.fmod (n : Int) 4)) (b := .int 0) rfl ?d1 ev_int rfl) c0) (xs_if_skip (fun h hk k => et_cast (et_cmp (a := .int (Int.fmod (n : Int) 4)) (b := .int 1) rfl ?d2 ev_int rfl) c1) (xs_if_skip (fun h hk k => et_cast (et_cmp (a := .int (Int.fmod (n : Int) 4)) (b := .int 2) rfl ?d3 ev_int rfl) c2)
      (xs_delitemM (fa := 133) (ds' := ((keepE es (entOf n)).map Ent.pair).map pairD) (R' := anyR) (vi := .d (.str (ch1 (nmc n)))) (x := "book") (σ' := [("others", .d (.lst ((keepE es (entOf n)).map Ent.d)))]) rfl List.mem_cons_self rfl rfl
      (fun h hk k => ev_nm k rfl rfl rfl) ?c3 ?c4 ?c5 ?c7 (.cons rfl .nil) (fp_none (by simp [V.fp]))
      (xs_retB (x := "book") rfl (fun h hk k => ev_nmD k rfl rfl rfl) rfl rfl))))
    case d1 => walk_at "ev"
    case d2 => walk_at "ev"
    case d3 => walk_at "ev"
    case c3 => kernel_rfl
    case c4 => kernel_rfl
    case c5 => kernel_rfl
    case c7 =>
      have := delitem_ok (prog := prog) (w := w) (A := A.deeper (callEnvC fd229 L 229)) (H := H) (x := x) (dx := dx) (l := l) (prs := es.map Ent.pair) (nm := ch1 (entOf n).nm) hh (by show A.depth + 1 + 2 ≤ 900; omega) (by show A.units + 3 + 3 * 2 + 100 < cLine; omega) hH hl on hlm
      rw [delB_pairs hok he] at this
      exact this
end
end
section
open PySem PySem.W PySem.Calls PyProof.Rows PySem.Builtin PySem.Builtin.Str
section
variable {prog : Program} {w : World}
/-- all six below 2^k -/
structure M6.Bd (m : M6) (k : Nat) : Prop where
  (a : m.a.natAbs < 2 ^ k) (b : m.b.natAbs < 2 ^ k) (c : m.c.natAbs < 2 ^ k) (d : m.d.natAbs < 2 ^ k) (e : m.e.natAbs < 2 ^ k) (f : m.f.natAbs < 2 ^ k)
theorem M6.Bd.sm {m : M6} {k : Nat} (h : m.Bd k) (hk : k ≤ 1000000) : m.Sm := ⟨.of_lt k h.a hk, .of_lt k h.b hk, .of_lt k h.c hk, .of_lt k h.d hk, .of_lt k h.e hk, .of_lt k h.f hk⟩
theorem M6.Bd.up {m : M6} {j k : Nat} (h : m.Bd j) (hk : j ≤ k) : m.Bd k := by
  have p : 2 ^ j ≤ 2 ^ k := Nat.pow_le_pow_right (by decide) hk
  exact ⟨Nat.lt_of_lt_of_le h.a p, Nat.lt_of_lt_of_le h.b p, Nat.lt_of_lt_of_le h.c p, Nat.lt_of_lt_of_le h.d p, Nat.lt_of_lt_of_le h.e p, Nat.lt_of_lt_of_le h.f p⟩
theorem abs_mul_lt {x y : Int} {j k : Nat} (hx : x.natAbs < 2 ^ j) (hy : y.natAbs < 2 ^ k) : (x * y).natAbs < 2 ^ (j + k) := by
  rw [Int.natAbs_mul, Nat.pow_add]
  exact Nat.mul_lt_mul'' hx hy
theorem abs_add3 {x y z : Int} {n : Nat} (hx : x.natAbs < n) (hy : y.natAbs < n) (hz : z.natAbs < n) : (x + y + z).natAbs < 4 * n := by omega
theorem abs_add2 {x y : Int} {n : Nat} (hx : x.natAbs < n) (hy : y.natAbs < n) : (x + y).natAbs < 4 * n := by omega
theorem abs_sub2 {x y : Int} {n : Nat} (hx : x.natAbs < n) (hy : y.natAbs < n) : (x - y).natAbs < 2 * n := by omega
theorem M6.Bd.then {m n : M6} {j k : Nat} (hm : m.Bd j) (hn : n.Bd k) : (m.then n).Bd (j + k + 2) := by
  have e : 2 ^ (j + k + 2) = 4 * 2 ^ (j + k) := by rw [Nat.pow_add]; omega
  have up : ∀ {x : Int}, x.natAbs < 2 ^ j → x.natAbs < 2 ^ (j + k) := fun h => Nat.lt_of_lt_of_le h (Nat.pow_le_pow_right (by decide) (Nat.le_add_right _ _))
  have mu : ∀ {x y : Int}, x.natAbs < 2 ^ k → y.natAbs < 2 ^ j → (x * y).natAbs < 2 ^ (j + k) := fun hx hy => by rw [Nat.add_comm]; exact abs_mul_lt hx hy
  refine ⟨?_, ?_, ?_, ?_, ?_, ?_⟩ <;> rw [e]
  · exact abs_add3 (up hm.a) (mu hn.a hm.c) (mu hn.b hm.e)
  · exact abs_add3 (up hm.b) (mu hn.a hm.d) (mu hn.b hm.f)
  · exact abs_add2 (mu hn.c hm.c) (mu hn.d hm.e)
  · exact abs_add2 (mu hn.c hm.d) (mu hn.d hm.f)
  · exact abs_add2 (mu hn.e hm.c) (mu hn.f hm.e)
  · exact abs_add2 (mu hn.e hm.d) (mu hn.f hm.f)
theorem M6.Bd.back {m : M6} {k : Nat} (hm : m.Bd k) : m.back.Bd (2 * k + 1) := by
  have e : 2 ^ (2 * k + 1) = 2 * 2 ^ (k + k) := by rw [Nat.pow_succ, show 2 * k = k + k by omega]; omega
  have up : ∀ {x : Int}, x.natAbs < 2 ^ k → x.natAbs < 2 ^ (2 * k + 1) := fun h => Nat.lt_of_lt_of_le h (Nat.pow_le_pow_right (by decide) (by omega))
  refine ⟨?_, ?_, up hm.f, ?_, ?_, up hm.c⟩
  · rw [e]; exact abs_sub2 (abs_mul_lt hm.b hm.e) (abs_mul_lt hm.a hm.f)
  · rw [e]; exact abs_sub2 (abs_mul_lt hm.a hm.d) (abs_mul_lt hm.b hm.c)
  · show (-m.d).natAbs < _; rw [Int.natAbs_neg]; exact up hm.d
  · show (-m.e).natAbs < _; rw [Int.natAbs_neg]; exact up hm.e
theorem one_bd : M6.one.Bd 1 := by constructor <;> decide
theorem foldl_bd {f : Nat → M6} {k : Nat} : ∀ {cs : List Nat} {m : M6} {j : Nat}, m.Bd j → (∀ c ∈ cs, (f c).Bd k) → (cs.foldl (fun m c => m.then (f c)) m).Bd (j + cs.length * (k + 2))
  | [], m, j, hm, _ => hm.up (by omega)
  | c :: cs, m, j, hm, h => by
    have := foldl_bd (hm.then (h c List.mem_cons_self)) fun x hx => h x (List.mem_cons_of_mem _ hx)
    exact this.up (by rw [List.length_cons, Nat.add_mul]; omega)
theorem word_bd {f : Nat → M6} {k : Nat} {cs : List Nat} (h : ∀ c ∈ cs, (f c).Bd k) : (wordM f cs).Bd (1 + cs.length * (k + 2)) := foldl_bd one_bd h

noncomputable def wholeM : List M6 → M6
  | [a, b] => a.back.then b
  | [a, b, c] => (a.then b).then (a.back.then c)
  | a :: b :: c :: _ => (a.then b).then (a.back.then c.back)
  | a :: _ => a
  | [] => M6.one
noncomputable def partsAt (es : List Ent) (c : Nat) : List Str := match es.find? (fun e => lowc e.nm == c) with
  | some e => e.parts
  | none => [Str.ofString ""]
noncomputable def figM (es : List Ent) (f : Nat → M6) (c : Nat) : M6 := wholeM ((partsAt es c).map fun p => wordM f p.cps.toList)
noncomputable def f0M (c : Nat) : M6 := if c = 43 then ⟨0, 0, 1, -1, 0, 1⟩ else if c = 45 then ⟨0, 0, 1, 1, 0, 1⟩ else if c = 62 then ⟨0, -1, 0, 1, -1, 0⟩ else ⟨1, 0, 0, -1, 1, 0⟩
noncomputable def fK (es : List Ent) : Nat → Nat → M6
  | 0 => f0M
  | i + 1 => fun c => if c = 97 + i then figM es (fK es i) (97 + i) else if c = 65 + i then (figM es (fK es i) (97 + i)).back else fK es i c
noncomputable def chs (i : Nat) : List Nat := [43, 45, 62, 60, 97, 65, 98, 66, 99, 67].take (4 + 2 * i)
/-- a letter's texts hold the earlier letters alone -/
noncomputable def Ent.Lv (e : Ent) : Prop := ∀ c ∈ [e.a, e.b, e.c], c ∈ chs (lowc e.nm - 97)
theorem chs_sub {i : Nat} (h : i < 3) : ∀ k < 4 + 2 * i, sg k ∈ chs i := by
  match i, h with
  | 0, _ => decide
  | 1, _ => decide
  | 2, _ => decide
theorem nmc_lv {n : Nat} (h : n < 61440) : lowc (nmc n) - 97 = cl n := by
  have h1 : n / 4 % 3 < 3 := Nat.mod_lt _ (by decide)
  have h2 : n / 30720 < 2 := Nat.div_lt_of_lt_mul (by omega)
  unfold nmc cl
  generalize n / 4 % 3 = i at *
  generalize n / 30720 = j at *
  match i, j, h1, h2 with
  | 0, 0, _, _ => decide
  | 1, 0, _, _ => decide
  | 2, 0, _, _ => decide
  | 0, 1, _, _ => decide
  | 1, 1, _, _ => decide
  | 2, 1, _, _ => decide
theorem ent_lv {n : Nat} (h : n < 61440) : (entOf n).Lv := by
  have h1 : cl n < 3 := Nat.mod_lt _ (by decide)
  have d : ∀ k, cdig n k < 4 + 2 * cl n := fun k => Nat.mod_lt _ (by omega)
  intro c hc
  rw [show lowc (entOf n).nm - 97 = cl n from nmc_lv h]
  simp only [List.mem_cons, List.not_mem_nil, or_false] at hc
  rcases hc with rfl | rfl | rfl <;> exact chs_sub h1 _ (d _)
noncomputable def AllLv (es : List Ent) : Prop := ∀ e ∈ es, e.Lv
theorem deedE_mem {es : List Ent} {n : Nat} {e : Ent} (h : e ∈ deedE es n) : e ∈ es ∨ e = entOf n := by
  have kp : ∀ {x}, x ∈ keepE es (entOf n) → x ∈ es := fun hx => (List.mem_filter.mp hx).1
  unfold deedE at h
  split at h
  · simpa using h
  · split at h
    · split at h
      · simpa using h
      · exact .inl h
    · split at h
      · rcases List.mem_append.mp h with h | h
        · exact .inl (kp h)
        · exact .inr (by simpa using h)
      · exact .inl (kp h)
theorem deedE_lv {es : List Ent} {n : Nat} (h : AllLv es) (hn : n < 61440) : AllLv (deedE es n) := fun e he => by
  rcases deedE_mem he with q | rfl
  · exact h e q
  · exact ent_lv hn
theorem parts_chars {e : Ent} : ∀ p ∈ e.parts, p.cps.toList.length ≤ 3 ∧ ∀ c ∈ p.cps.toList, c ∈ [e.a, e.b, e.c] := by
  obtain ⟨nm, fm, a, b, c⟩ := e
  intro p hp
  have hp : p ∈ partsD fm (ch1 a) (ch1 b) (ch1 c) := hp
  have l0 : (Str.ofString "").cps.toList = [] := by decide
  match fm, hp with
  | 0, hp =>
    simp only [partsD, List.mem_cons, List.not_mem_nil, or_false] at hp
    subst hp
    exact ⟨Nat.le_refl 3, fun x hx => hx⟩
  | 1, hp =>
    simp only [partsD, List.mem_cons, List.not_mem_nil, or_false] at hp
    rcases hp with rfl | rfl | rfl <;> exact ⟨(by decide : 1 ≤ 3), fun x hx => by have : x ∈ [_] := hx; rw [List.mem_singleton.mp this]; simp⟩
  | 2, hp =>
    simp only [partsD, List.mem_cons, List.not_mem_nil, or_false] at hp
    rcases hp with rfl | rfl | rfl
    · exact ⟨(by decide : 1 ≤ 3), fun x hx => by have : x ∈ [_] := hx; rw [List.mem_singleton.mp this]; simp⟩
    · exact ⟨(by decide : 1 ≤ 3), fun x hx => by have : x ∈ [_] := hx; rw [List.mem_singleton.mp this]; simp⟩
    · rw [l0]; exact ⟨by decide, fun x hx => by cases hx⟩
  | 3, hp =>
    simp only [partsD, List.mem_cons, List.not_mem_nil, or_false] at hp
    rcases hp with rfl | rfl
    · exact ⟨(by decide : 1 ≤ 3), fun x hx => by have : x ∈ [_] := hx; rw [List.mem_singleton.mp this]; simp⟩
    · exact ⟨(by decide : 2 ≤ 3), fun x hx => by have : x ∈ [b, c] := hx; simp at this ⊢; omega⟩
  | n + 4, hp =>
    simp only [partsD, List.mem_cons, List.not_mem_nil, or_false] at hp
    rcases hp with rfl | rfl | rfl | rfl
    · exact ⟨(by decide : 1 ≤ 3), fun x hx => by have : x ∈ [_] := hx; rw [List.mem_singleton.mp this]; simp⟩
    · exact ⟨(by decide : 1 ≤ 3), fun x hx => by have : x ∈ [_] := hx; rw [List.mem_singleton.mp this]; simp⟩
    · exact ⟨(by decide : 1 ≤ 3), fun x hx => by have : x ∈ [_] := hx; rw [List.mem_singleton.mp this]; simp⟩
    · rw [l0]; exact ⟨by decide, fun x hx => by cases hx⟩
theorem partsAt_chars {es : List Ent} (h : AllLv es) (i : Nat) : ∀ p ∈ partsAt es (97 + i), p.cps.toList.length ≤ 3 ∧ ∀ c ∈ p.cps.toList, c ∈ chs i := by
  intro p hp
  unfold partsAt at hp
  split at hp
  · rename_i e q
    have hm := List.mem_of_find?_eq_some q
    have hn : lowc e.nm = 97 + i := by simpa using List.find?_some q
    obtain ⟨h1, h2⟩ := parts_chars p hp
    refine ⟨h1, fun c hc => ?_⟩
    have := h e hm c (h2 c hc)
    rwa [hn, Nat.add_sub_cancel_left] at this
  · rw [List.mem_singleton.mp hp]
    rw [show (Str.ofString "").cps.toList = [] by decide]
    exact ⟨by decide, fun c hc => by cases hc⟩
theorem partsAt_len (es : List Ent) (c : Nat) : (partsAt es c).length = 1 ∨ (partsAt es c).length = 2 ∨ (partsAt es c).length = 3 ∨ (partsAt es c).length = 4 := by
  unfold partsAt
  split
  · rename_i e _
    obtain ⟨nm, fm, a, b, c⟩ := e
    match fm with
    | 0 => exact .inl rfl
    | 1 => exact .inr (.inr (.inl rfl))
    | 2 => exact .inr (.inr (.inl rfl))
    | 3 => exact .inr (.inl rfl)
    | n + 4 => exact .inr (.inr (.inr rfl))
  · exact .inl rfl
noncomputable def kBd : Nat → Nat
  | 0 => 1
  | i + 1 => 36 * kBd i + 200
theorem whole_bd {ws : List M6} {k : Nat} (h : ∀ m ∈ ws, m.Bd k) : (wholeM ws).Bd (6 * k + 8 + 1) := by
  match ws, h with
  | [], _ => exact one_bd.up (by omega)
  | [a], h => exact (h a (by simp)).up (by omega)
  | [a, b], h => exact (((h a (by simp)).back).then (h b (by simp))).up (by omega)
  | [a, b, c], h => exact (((h a (by simp)).then (h b (by simp))).then ((h a (by simp)).back.then (h c (by simp)))).up (by omega)
  | a :: b :: c :: d :: r, h => exact (((h a (by simp)).then (h b (by simp))).then ((h a (by simp)).back.then (h c (by simp)).back)).up (by omega)
theorem chs_succ : ∀ {i c : Nat}, c ∈ chs (i + 1) → c ≠ 97 + i → c ≠ 65 + i → c ∈ chs i
  | 0, c, hc, n1, n2 => by
    unfold chs at hc ⊢
    simp [List.take] at hc ⊢
    omega
  | 1, c, hc, n1, n2 => by
    unfold chs at hc ⊢
    simp [List.take] at hc ⊢
    omega
  | 2, c, hc, n1, n2 => by
    unfold chs at hc ⊢
    simp [List.take] at hc ⊢
    omega
  | n + 3, c, hc, n1, n2 => by
    unfold chs at hc ⊢
    rw [List.take_of_length_le (by simp; omega)] at hc ⊢
    exact hc
theorem fK_bd {es : List Ent} (h : AllLv es) : ∀ i, ∀ c ∈ chs i, (fK es i c).Bd (kBd i)
  | 0, c, hc => by
    have hc : c ∈ [43, 45, 62, 60] := hc
    simp only [List.mem_cons, List.not_mem_nil, or_false] at hc
    show (f0M c).Bd 1
    rcases hc with rfl | rfl | rfl | rfl <;> constructor <;> decide
  | i + 1, c, hc => by
    have ih := fK_bd h i
    have hw : ∀ m ∈ (partsAt es (97 + i)).map fun p => wordM (fK es i) p.cps.toList, m.Bd (3 * kBd i + 7) := by
      intro m hm
      obtain ⟨p, hp, rfl⟩ := List.mem_map.mp hm
      obtain ⟨h1, h2⟩ := partsAt_chars h i p hp
      refine (word_bd fun c hc => ih c (h2 c hc)).up ?_
      have : p.cps.toList.length * (kBd i + 2) ≤ 3 * (kBd i + 2) := Nat.mul_le_mul_right _ h1
      omega
    have hf := whole_bd hw
    show (if c = 97 + i then figM es (fK es i) (97 + i) else if c = 65 + i then (figM es (fK es i) (97 + i)).back else fK es i c).Bd (36 * kBd i + 200)
    split
    · exact M6.Bd.up hf (by omega)
    · split
      · exact (M6.Bd.back hf).up (by omega)
      · rename_i n1 n2
        have := chs_succ hc n1 n2
        exact (ih c this).up (by omega)
end
end
section
open PySem PySem.W PySem.Calls PyProof.Rows PySem.Builtin PySem.Builtin.Str
section
variable {prog : Program} {w : World}
noncomputable def kdsOf (f : Nat → M6) (cs : List Nat) : List (Str × D) := cs.map fun c => (ch1 c, (f c).tup)
theorem ch1_inj {a b : Nat} (h : ch1 a = ch1 b) : a = b := by
  have : (ch1 a).cps = (ch1 b).cps := congrArg _ h
  simpa [ch1] using this
theorem kds_look {f : Nat → M6} {c : Nat} : ∀ {cs : List Nat}, c ∈ cs → (kdsOf f cs).lookup (ch1 c) = some (f c).tup
  | [], h => by cases h
  | x :: cs, h => by
    unfold kdsOf
    rw [List.map_cons, List.lookup_cons]
    split
    · rename_i q
      rw [ch1_inj (beq_iff_eq.mp q)]
    · rename_i q
      rcases List.mem_cons.mp h with rfl | h
      · rw [beq_self_eq_true] at q; cases q
      · exact kds_look h
theorem putD_new {f : Nat → M6} {cs : List Nat} {c : Nat} {d : D} (h : c ∉ cs) (l : List (Str × D)) (hl : l = kdsOf f cs) : putD l (ch1 c) d = l ++ [(ch1 c, d)] := by
  subst hl
  unfold putD
  rw [if_neg]
  intro q
  obtain ⟨p, hp, e⟩ := List.any_eq_true.mp q
  obtain ⟨x, hx, rfl⟩ := List.mem_map.mp hp
  exact h ((ch1_inj (of_decide_eq_true e)) ▸ hx)
theorem stage {es : List Ent} {i : Nat} (h : i < 3) {m : M6} (hm : m = figM es (fK es i) (97 + i)) : putD (putD (kdsOf (fK es i) (chs i)) (ch1 (97 + i)) m.tup) (ch1 (65 + i)) m.back.tup = kdsOf (fK es (i + 1)) (chs (i + 1)) := by
  subst hm
  have h1 : 97 + i ∉ chs i ∧ 65 + i ∉ chs i ++ [97 + i] ∧ chs (i + 1) = chs i ++ [97 + i, 65 + i] := by
    match i, h with
    | 0, _ => decide
    | 1, _ => decide
    | 2, _ => decide
  obtain ⟨n1, n2, e⟩ := h1
  have agree : ∀ c ∈ chs i, fK es (i + 1) c = fK es i c := fun c hc => by
    show (if c = 97 + i then _ else if c = 65 + i then _ else _) = _
    have q1 : c ≠ 97 + i := by rintro rfl; exact n1 hc
    have q2 : c ≠ 65 + i := by rintro rfl; exact n2 (List.mem_append_left _ hc)
    rw [if_neg q1, if_neg q2]
  have e1 : kdsOf (fK es i) (chs i) = kdsOf (fK es (i + 1)) (chs i) := List.map_congr_left fun c hc => by rw [agree c hc]
  have w1 : fK es (i + 1) (97 + i) = figM es (fK es i) (97 + i) := if_pos rfl
  have w2 : fK es (i + 1) (65 + i) = (figM es (fK es i) (97 + i)).back := by
    show (if 65 + i = 97 + i then _ else if 65 + i = 65 + i then _ else _) = _
    rw [if_neg (by omega), if_pos rfl]
  rw [e1, putD_new n1 _ rfl]
  have e2 : kdsOf (fK es (i + 1)) (chs i) ++ [(ch1 (97 + i), (figM es (fK es i) (97 + i)).tup)] = kdsOf (fK es (i + 1)) (chs i ++ [97 + i]) := by
    unfold kdsOf; rw [List.map_append, List.map_singleton, w1]
  rw [e2, putD_new n2 _ rfl, e]
  unfold kdsOf
  rw [show chs i ++ [97 + i, 65 + i] = (chs i ++ [97 + i]) ++ [65 + i] by simp, List.map_append (l₁ := chs i ++ [97 + i]), List.map_singleton, w2]
noncomputable def nameP (c : Nat) : D → Bool
  | .tup [.str a, _] => same (Txt.lower a) (ch1 c)
  | _ => false
noncomputable def sndD : D → D
  | .tup [_, b] => b
  | d => d
theorem texts_at {es : List Ent} {c : Nat} (h : AllOk es) (hz : es.length ≤ 100) : itemD (.lst (((es.map Ent.d).filter (nameP c)).map sndD ++ [.lst [.str (Str.ofString "")]])) 0 = some (.lst ((partsAt es c).map .str)) := by
  have key : ∀ l : List Ent, (∀ e ∈ l, e.Ok) → (((l.map Ent.d).filter (nameP c)).map sndD ++ [D.lst [.str (Str.ofString "")]])[0]? = some (D.lst ((partsAt l c).map .str)) ∧ ((l.map Ent.d).filter (nameP c)).length ≤ l.length := by
    intro l
    induction l with
    | nil => intro _; exact ⟨rfl, Nat.le_refl _⟩
    | cons e l ih =>
      intro hl
      have e1 : nameP c e.d = (lowc e.nm == c) := by
        show same (Txt.lower (ch1 e.nm)) (ch1 c) = _
        rw [low_name (hl e List.mem_cons_self).n, same_ch]
      obtain ⟨h1, h2⟩ := ih fun x hx => hl x (List.mem_cons_of_mem _ hx)
      rw [List.map_cons, List.filter_cons, e1]
      unfold partsAt at h1 ⊢
      rw [List.find?_cons]
      cases q : lowc e.nm == c with
      | true => exact ⟨rfl, by simp only [if_true, List.length_cons]; omega⟩
      | false => exact ⟨h1, by simp only [Bool.false_eq_true, if_false, List.length_cons]; omega⟩
  obtain ⟨k1, k2⟩ := key es h
  have hb : (decide ((0 : Int) ≤ 0) && decide ((((es.map Ent.d).filter (nameP c)).map sndD ++ [D.lst [.str (Str.ofString "")]]).length ≤ seqMax)) = true := by
    have hsq : seqMax = 100000 := rfl
    have : (((es.map Ent.d).filter (nameP c)).map sndD ++ [D.lst [.str (Str.ofString "")]]).length ≤ seqMax := by rw [List.length_append, List.length_map, List.length_singleton]; omega
    rw [decide_eq_true this]; rfl
  show (if _ then _ else _) = _
  rw [if_pos hb]
  exact k1
noncomputable def wordD (f : Nat → M6) : D → D
  | .str p => (wordM f p.cps.toList).tup
  | d => d
theorem low_upper {i : Nat} (h : i < 3) : Txt.upper (ch1 (97 + i)) = ch1 (65 + i) ∧ tooLong (Txt.upper (ch1 (97 + i))).length = false := by
  match i, h with
  | 0, _ => decide +kernel
  | 1, _ => decide +kernel
  | 2, _ => decide +kernel
end
end
section
open PySem PySem.W PySem.Calls PyProof.Rows PySem.Builtin PySem.Builtin.Str
set_option maxHeartbeats 4000000
section
variable {prog : Program} {w : World}
noncomputable def known0 : List (Str × D) := [(Str.ofString "+", M6.tup ⟨0, 0, 1, -1, 0, 1⟩), (Str.ofString "-", M6.tup ⟨0, 0, 1, 1, 0, 1⟩), (Str.ofString ">", M6.tup ⟨0, -1, 0, 1, -1, 0⟩), (Str.ofString "<", M6.tup ⟨1, 0, 0, -1, 1, 0⟩)]
theorem letter_at {i : Nat} {d : D} (h : (signs (Str.ofString "abc"))[i]? = some d) : i < 3 ∧ d = .str (ch1 (97 + i)) := by
  match i, h with
  | 0, h => exact ⟨by decide, (Option.some.inj h).symm⟩
  | 1, h => exact ⟨by decide, (Option.some.inj h).symm⟩
  | 2, h => exact ⟨by decide, (Option.some.inj h).symm⟩
  | n + 3, h => cases h
noncomputable def forBody : Stmt → List Stmt
  | .For _ _ b _ _ => b
  | _ => []
/-- the stores at the end of a turn -/
noncomputable def forTail (l : List Stmt) : List Stmt := (forBody (stAt l 1)).drop 5
theorem known_ok {es : List Ent} (hok : AllOk es) (hlv : AllLv es) (hz : es.length ≤ 100) {A : Around} {H : List Addr} {s : Shared} {rs : List Value} (hh : A.handled = none) (hd : A.depth + 4 ≤ 900) (hu : A.units + 3 * 4 + 100 < cLine) (G : Gd (KF w.params) s.heap) (hk : HOK H s.heap)
    (hr : RVs H s.heap rs [.d (.lst (es.map Ent.d))]) : Ylds (model prog w) A (call (.ref 281) rs) (fun h v => ∃ a, RV H h v (.dct prog w a (kdsOf (fK es 3) (chs 3)))) s := by
  have hb : bindArgs fd281 ⟨rs, []⟩ = pure ((["pairs"] : List Str).zip rs) := by cases hr with | cons _ hr => cases hr; kernel_rfl
  refine fn_enterZ (o := o281) (fd := fd281) (xs := ["pairs"]) (N := fun _ => False) hr rfl hh (by omega) (by omega) G hk rfl rfl (by kernel_rfl) rfl rfl rfl rfl rfl rfl rfl hb (by decide) (by decide) ?_ (fun h ⟨_, f⟩ => f.elim)
  have hsq : seqMax = 100000 := rfl
  have hd0 := hd
  obtain ⟨kd, hkd⟩ : ∃ kd : Nat → List (Str × D), ∀ i, kd i = kdsOf (fK es i) (chs i) := ⟨_, fun _ => rfl⟩
  have kd0 : known0 = kd 0 := by rw [hkd]; rfl
  rw [← hkd]
  refine' xs_newdct (x := Str.ofString "known") (kds := ?kds) ?hp ?r1 ?r2 ?r3 ?r4 ?a0 ?st ?a5 ?sw
  case kds => exact known0
  case r1 => rfl
  case r2 => rfl
  case r3 => exact List.cons_ne_nil _ _
  case r4 => exact Nat.le_of_ble_eq_true rfl
  case st => exact .inr ⟨rfl, _, rfl⟩
  case sw => rfl
  case hp =>
    intro H' h hk k
    refine' .cons ev_str ?a1 (.cons ev_str ?a2 (.cons ev_str ?a3 (.cons ev_str ?a4 .nil)))
    case a1 => refine' ev_cast ?e ?h; (case e => walk_at "ev"); (case h => rfl)
    case a2 => refine' ev_cast ?e ?h; (case e => walk_at "ev"); (case h => rfl)
    case a3 => refine' ev_cast ?e ?h; (case e => walk_at "ev"); (case h => rfl)
    case a4 => refine' ev_cast ?e ?h; (case e => walk_at "ev"); (case h => rfl)
  case a0 => show ([Str.ofString "+", Str.ofString "-", Str.ofString ">", Str.ofString "<"] : List Str).Nodup; decide
  case a5 =>
  intro a hfa haH
  rw [kd0]
  refine' xs_for (ds := signs (Str.ofString "abc")) (tp := false) (hid := false) (σs := fun i => [("known", .dct prog w a (kd i)), ("pairs", .d (.lst (es.map Ent.d)))]) (Inv := fun _ => True) (bd := fun d => [("letter", .d d)]) (fun h hk k => evIt_data ev_str (.inr (.inr ⟨_, rfl, rfl, rfl⟩))) ?b3 ?b4 trivial ?b5 ?b6 (by intro h; cases h) ?b7 fun _ => ?b8
  case b3 => exact fun _ => rfl
  case b4 => exact .cons rfl (.cons rfl .nil)
  case b5 => exact fun i y v e => FpLe.get (τ := [("known", .dct prog w a (kd i)), ("pairs", .d (.lst (es.map Ent.d)))]) ⟨.inr ⟨"known", .dct prog w a (kd 0), rfl, rfl⟩, .inl rfl, trivial⟩ e
  case b6 => exact fun d hd => tgf_name (.inr ⟨rfl, _, rfl⟩)
  case b7 =>
    intro I i d hi _
    obtain ⟨i3, rfl⟩ := letter_at hi
    have bdi := fK_bd hlv i
    have kk : kBd i ≤ 8696 := by
      match i, i3 with
      | 0, _ => decide
      | 1, _ => decide
      | 2, _ => decide
    have kdl : (kd i).length ≤ 10 := by
      rw [hkd]; unfold kdsOf chs; rw [List.length_map, List.length_take]; exact Nat.le_trans (Nat.min_le_right _ _) (by decide)
    have hwb : ∀ m ∈ (partsAt es (97 + i)).map fun p => wordM (fK es i) p.cps.toList, m.Bd 30000 := by
      intro m hm
      obtain ⟨p, hp, rfl⟩ := List.mem_map.mp hm
      obtain ⟨h1, h2⟩ := partsAt_chars hlv i p hp
      refine (word_bd fun c hc => bdi c (h2 c hc)).up ?_
      have : p.cps.toList.length * (kBd i + 2) ≤ 3 * (kBd i + 2) := Nat.mul_le_mul_right _ h1
      omega
    have hwl : ((partsAt es (97 + i)).map fun p => wordM (fK es i) p.cps.toList).length = (partsAt es (97 + i)).length := List.length_map ..
    have hpl := partsAt_len es (97 + i)
    have hplen : (partsAt es (97 + i)).length ≤ 4 := by omega
    have hfl := List.length_filter_le (nameP (97 + i)) (es.map Ent.d)
    rw [List.length_map] at hfl
    refine' xs_assignD (d := .lst (((es.map Ent.d).filter (nameP (97 + i))).map sndD ++ [.lst [.str (Str.ofString "")]])) rfl (.inl rfl) (fun h hk k => ev_bin (ev_comp (tp := true) (hid := false) (nameP (97 + i)) sndD (evIt_data (d := .lst (es.map Ent.d)) ?c0 (.inl rfl)) ?c1 ?c2 ?c3 ?c4 ?c5 ?c6 ?c7 ?c8) ?c9 ?c10)
      (xs_comp (tp := true) (hid := false) (ds := (partsAt es (97 + i)).map .str) (fun _ => true) (wordD (fK es i)) rfl (fun h hk k => evIt_data (d := .lst ((partsAt es (97 + i)).map .str)) ?d0 (.inl rfl)) ?d1 ?d2 ?d3 ?d4 ?d5 ?d6 ?d7 (.inl rfl) ?d8 ?d9)
    case c0 => exact ev_nmD k rfl rfl rfl
    case c1 => rfl
    case c2 => decide
    case c3 => rfl
    case c4 => decide
    case c5 => exact fun _ => rfl
    case c6 => rw [List.length_map]; omega
    case c7 =>
      intro C H d hd
      obtain ⟨e, he, rfl⟩ := List.mem_map.mp hd
      exact tgt_pair hh rfl rfl (by decide) rfl
    case c8 =>
      intro C H' hb h3 m d hd hI kp tr hk' hn b
      obtain ⟨e, he, rfl⟩ := List.mem_map.mp hd
      have on := okn (hok e he).n
      refine' ⟨eifs_with (k.inner (σ₁ := [(Str.ofString "parts", .d (.lst (e.parts.map .str))), (Str.ofString "name", .d (.str (ch1 e.nm)))].reverse) (σ₂ := [(Str.ofString "letter", .d (.str (ch1 (97 + i))))]) hI kp tr hk' rfl hn b ?l1 ?l2 ?l3) fun k' => eifs_one (et_cmp (a := .str (Txt.lower (ch1 e.nm))) (b := .str (ch1 (97 + i))) rfl (ev_lower rfl rfl (ev_nmD k' rfl rfl rfl) on.ll) (ev_nmD k' rfl rfl rfl) rfl),
        fun _ => ev_with (k.inner (σ₁ := [(Str.ofString "parts", .d (.lst (e.parts.map .str))), (Str.ofString "name", .d (.str (ch1 e.nm)))].reverse) (σ₂ := []) hI kp tr hk' rfl hn b ?l4 ?l5 ?l6) fun k' => ev_nmD k' rfl rfl rfl⟩
      case l1 => rfl
      case l2 => exact ⟨rfl, rfl, trivial⟩
      case l3 => exact ⟨⟨rfl, .inl rfl, .inl rfl, rfl⟩, trivial⟩
      case l4 => rfl
      case l5 => exact ⟨rfl, rfl, trivial⟩
      case l6 => trivial
    case c9 => refine' ev_list (.cons rfl (ev_list (.cons rfl ev_str .nil) ?z1) .nil) ?z2; (case z1 => exact Nat.le_of_ble_eq_true rfl); (case z2 => exact Nat.le_of_ble_eq_true rfl)
    case c10 => exact lst_add (by rw [List.length_map]; simp; omega)
    case d0 => exact ev_index rfl (ev_nmD k rfl rfl rfl) ev_int (texts_at hok hz)
    case d1 => rfl
    case d2 => decide
    case d3 => rfl
    case d4 => decide
    case d5 => exact fun _ => rfl
    case d6 => rw [List.length_map]; omega
    case d7 => exact fun C H d hd => tgt_name rfl rfl
    case d8 =>
      intro h hk k C H' hb h3 m d hd hI kp tr hk' hn b
      obtain ⟨p, hpm, rfl⟩ := List.mem_map.mp hd
      obtain ⟨p1, p2⟩ := partsAt_chars hlv i p hpm
      have Cw := word_ok (prog := prog) (w := w) (x := p) (a := a) (kds := kd i) (f := fK es i) (fun c hc => ⟨(by rw [hkd]; exact kds_look (p2 c hc)), (bdi c (p2 c hc)).sm (by omega)⟩)
        (fun n => (word_bd (fun c hc => bdi c (p2 c (List.mem_of_mem_take hc)))).sm (by
          have : (p.cps.toList.take n).length * (kBd i + 2) ≤ 3 * (kBd i + 2) := Nat.mul_le_mul_right _ (Nat.le_trans (by rw [List.length_take]; exact Nat.min_le_right _ _) p1)
          omega))
      refine' ⟨.inl ⟨rfl, rfl⟩, fun _ => ev_with (k.inner (σ₁ := [(Str.ofString "part", .d (.str p))]) (σ₂ := [(Str.ofString "known", .dct prog w a (kd i))]) hI kp tr hk' rfl hn b ?l4 ?l5 ?l6) fun k' => ev_fnX k' Cw rfl rfl rfl rfl rfl (rm_inn (n := 2) (rm_of (N := 4) hd0 hu (by decide))) (.cons rfl (ev_nm k' rfl rfl rfl) (.cons rfl (ev_nm k' rfl rfl rfl) .nil))⟩
      case l4 => rfl
      case l5 => exact ⟨rfl, trivial⟩
      case l6 => exact ⟨⟨rfl, .inl rfl, .inl rfl, rfl⟩, trivial⟩
    case d9 =>
    have e1 : (((partsAt es (97 + i)).map D.str).filter fun _ => true).map (wordD (fK es i)) = ((partsAt es (97 + i)).map fun p => wordM (fK es i) p.cps.toList).map M6.tup := by
      rw [filter_true, List.map_map, List.map_map]; rfl
    rw [e1]
    have hW : figM es (fK es i) (97 + i) = wholeM ((partsAt es (97 + i)).map fun p => wordM (fK es i) p.cps.toList) := rfl
    generalize (partsAt es (97 + i)).map (fun p => wordM (fK es i) p.cps.toList) = ws at hwb hwl hW
    obtain ⟨u1, u2⟩ := low_upper i3
    have hst : putD (putD (kd i) (ch1 (97 + i)) (wholeM ws).tup) (ch1 (65 + i)) (wholeM ws).back.tup = kd (i + 1) := by
      rw [hkd, hkd]; exact stage i3 hW.symm
    have sm : ∀ m ∈ ws, m.Sm := fun m hm => (hwb m hm).sm (by decide)
    have Wsm : (wholeM ws).Sm := (whole_bd hwb).sm (by decide)
    have hlen : ws.length ≤ 4 := by omega
    have hpt : ∀ kx : Str, ∀ d : D, (putD (kd i) kx d).length ≤ 11 := by
      intro kx d
      unfold putD
      split
      · rw [List.length_map]; omega
      · rw [List.length_append, List.length_singleton]; omega
    have Cb := back_ok (prog := prog) (w := w) Wsm
    have hsq2 : seqMax = 100000 := rfl
    -- the two stores
    have fin : ∀ (σ : Sig), σ.lookup (Str.ofString "known") = some (V.dct prog w a (kd i)) → σ.lookup (Str.ofString "whole") = some (.d (wholeM ws).tup) → σ.lookup (Str.ofString "letter") = some (.d (.str (ch1 (97 + i)))) → σ.lookup (Str.ofString "pairs") = some (.d (.lst (es.map Ent.d))) →
        Exs (KF w.params) (frm prog w A fd281 s.heap.objs.size 281 hh (by omega) rfl rfl rfl) s (I :: a :: H) [a] σ (forTail (fBody (stm 76))) (fun σ' => Le [("known", .dct prog w a (kd (i + 1))), ("pairs", .d (.lst (es.map Ent.d)))] σ' ∧ True) (fun h v => ∃ a, RV H h v (.dct prog w a (kd 3))) := by
      intro σ l1 l2 l3 l4
      refine' xs_putdct (kds := kd i) (kx := ch1 (97 + i)) (d := (wholeM ws).tup) (σ' := [("whole", .d (wholeM ws).tup), ("letter", .d (.str (ch1 (97 + i)))), ("pairs", .d (.lst (es.map Ent.d)))]) ?p1 ?p2 ?p3 ?p4 ?p5 ?p6 ?p7 ?p8 ?p9 ?p10 ?p11
      case p1 => exact l1
      case p2 => exact List.mem_cons_self
      case p3 => rfl
      case p4 => rfl
      case p5 => exact fun h hk k => ev_nmD k l2 rfl rfl
      case p6 => exact fun h hk k => ev_nmD k l3 rfl rfl
      case p7 => exact .cons l2 (.cons l3 (.cons l4 .nil))
      case p8 => exact fp_none (by simp [V.fp])
      case p9 => omega
      case p10 => rfl
      case p11 =>
      refine' xs_putdct (kds := putD (kd i) (ch1 (97 + i)) (wholeM ws).tup) (kx := ch1 (65 + i)) (d := (wholeM ws).back.tup) (σ' := [("pairs", .d (.lst (es.map Ent.d)))]) ?q1 ?q2 ?q3 ?q4 ?q5 ?q6 ?q7 ?q8 ?q9 ?q10 ?q11
      case q1 => rfl
      case q2 => exact List.mem_cons_self
      case q3 => rfl
      case q4 => rfl
      case q5 => exact fun h hk k => ev_fnX k Cb rfl rfl rfl rfl rfl (rm_of (N := 4) hd0 hu (by decide)) (.cons rfl (ev_toV (ev_nmD k rfl rfl rfl)) .nil)
      case q6 => exact fun h hk k => ev_cast (ev_upper rfl rfl (ev_nmD k rfl rfl rfl) u2) (congrArg D.str u1)
      case q7 => exact .cons rfl .nil
      case q8 => exact fp_none (by simp [V.fp])
      case q9 => have := hpt (ch1 (97 + i)) (wholeM ws).tup; omega
      case q10 => rfl
      case q11 =>
        rw [hst]
        exact xs_nil ⟨.cons rfl (.cons rfl .nil), trivial⟩
    rcases hpl with h1 | h1 | h1 | h1
    · obtain ⟨m1, rfl⟩ : ∃ m, ws = [m] := by
        match ws, hwl with
        | [m], _ => exact ⟨m, rfl⟩
        | [], e => rw [h1] at e; cases e
        | _ :: _ :: _, e => rw [h1] at e; simp at e
      refine' xs_assignD (d := m1.tup) rfl (.inl rfl) (fun h hk k => ?e1) (xs_if_skip (fun h hk k => et_cast (et_cmp (a := .int 1) (b := .int 2) rfl (ev_lenof k ⟨rfl, rfl, by decide, rfl, rfl⟩ rfl (ev_nmD k rfl rfl rfl) rfl) ev_int rfl) rfl) (xs_if_skip (fun h hk k => et_cast (et_cmp (a := .int 1) (b := .int 2) rfl (ev_lenof k ⟨rfl, rfl, by decide, rfl, rfl⟩ rfl (ev_nmD k rfl rfl rfl) rfl) ev_int rfl) rfl) ?e9))
      case e1 => walk_at "ev"
      case e9 => exact fin _ rfl rfl rfl rfl
    · obtain ⟨m1, m2, rfl⟩ : ∃ m n, ws = [m, n] := by
        match ws, hwl with
        | [m, n], _ => exact ⟨m, n, rfl⟩
        | [], e => rw [h1] at e; cases e
        | [_], e => rw [h1] at e; cases e
        | _ :: _ :: _ :: _, e => rw [h1] at e; simp at e
      have C1 := back_ok (prog := prog) (w := w) (sm m1 (by simp))
      have b1 : m1.back.Sm := ((hwb m1 (by simp)).back).sm (by decide)
      have C2 := then_ok (prog := prog) (w := w) b1 (sm m2 (by simp))
      refine' xs_assignD (d := m1.tup) rfl (.inl rfl) (fun h hk k => ?e1) (xs_if_t (fun h hk k => et_cast (et_cmp (a := .int 2) (b := .int 2) rfl (ev_lenof k ⟨rfl, rfl, by decide, rfl, rfl⟩ rfl (ev_nmD k rfl rfl rfl) rfl) ev_int rfl) rfl) (xs_assignD (d := (m1.back.then m2).tup) rfl (.inl rfl) (fun h hk k => ?e2) (xs_nil rfl)) (xs_if_skip (fun h hk k => et_cast (et_cmp (a := .int 2) (b := .int 2) rfl (ev_lenof k ⟨rfl, rfl, by decide, rfl, rfl⟩ rfl (ev_nmD k rfl rfl rfl) rfl) ev_int rfl) rfl) ?e9))
      case e1 => walk_at "ev"
      case e2 => walk_at "ev"
      case e9 => exact fin _ rfl rfl rfl rfl
    · obtain ⟨m1, m2, m3, rfl⟩ : ∃ m n o, ws = [m, n, o] := by
        match ws, hwl with
        | [m, n, o], _ => exact ⟨m, n, o, rfl⟩
        | [], e => rw [h1] at e; cases e
        | [_], e => rw [h1] at e; cases e
        | [_, _], e => rw [h1] at e; cases e
        | _ :: _ :: _ :: _ :: _, e => rw [h1] at e; simp at e
      have C1 := back_ok (prog := prog) (w := w) (sm m1 (by simp))
      have b1 : m1.back.Bd 60001 := (hwb m1 (by simp)).back
      have C2 := then_ok (prog := prog) (w := w) (sm m1 (by simp)) (sm m2 (by simp))
      have C3 := then_ok (prog := prog) (w := w) (b1.sm (by decide)) (sm m3 (by simp))
      have C4 := then_ok (prog := prog) (w := w) (((hwb m1 (by simp)).then (hwb m2 (by simp))).sm (by decide)) ((b1.then (hwb m3 (by simp))).sm (by decide))
      refine' xs_assignD (d := m1.tup) rfl (.inl rfl) (fun h hk k => ?e1) (xs_if_skip (fun h hk k => et_cast (et_cmp (a := .int 3) (b := .int 2) rfl (ev_lenof k ⟨rfl, rfl, by decide, rfl, rfl⟩ rfl (ev_nmD k rfl rfl rfl) rfl) ev_int rfl) rfl) (xs_if_t (fun h hk k => et_cast (et_cmp (a := .int 3) (b := .int 2) rfl (ev_lenof k ⟨rfl, rfl, by decide, rfl, rfl⟩ rfl (ev_nmD k rfl rfl rfl) rfl) ev_int rfl) rfl) (xs_assignD (d := m3.tup) rfl (.inl rfl) (fun h hk k => ev_ite (b := true) (et_cast (et_cmp (a := .int 3) (b := .int 3) rfl (ev_lenof k ⟨rfl, rfl, by decide, rfl, rfl⟩ rfl (ev_nmD k rfl rfl rfl) rfl) ev_int rfl) rfl) (fun _ => ?e2) (fun q => by cases q)) (xs_assignD (d := ((m1.then m2).then (m1.back.then m3)).tup) rfl (.inl rfl) (fun h hk k => ?e3) (xs_nil rfl))) ?e9))
      case e1 => walk_at "ev"
      case e2 => walk_at "ev"
      case e3 => walk_at "ev"
      case e9 => exact fin _ rfl rfl rfl rfl
    · obtain ⟨m1, m2, m3, m4, rfl⟩ : ∃ m n o p, ws = [m, n, o, p] := by
        match ws, hwl with
        | [m, n, o, p], _ => exact ⟨m, n, o, p, rfl⟩
        | [], e => rw [h1] at e; cases e
        | [_], e => rw [h1] at e; cases e
        | [_, _], e => rw [h1] at e; cases e
        | [_, _, _], e => rw [h1] at e; cases e
        | _ :: _ :: _ :: _ :: _ :: _, e => rw [h1] at e; simp at e
      have C1 := back_ok (prog := prog) (w := w) (sm m1 (by simp))
      have C5 := back_ok (prog := prog) (w := w) (sm m3 (by simp))
      have b1 : m1.back.Bd 60001 := (hwb m1 (by simp)).back
      have b3 : m3.back.Bd 60001 := (hwb m3 (by simp)).back
      have C2 := then_ok (prog := prog) (w := w) (sm m1 (by simp)) (sm m2 (by simp))
      have C3 := then_ok (prog := prog) (w := w) (b1.sm (by decide)) (b3.sm (by decide))
      have C4 := then_ok (prog := prog) (w := w) (((hwb m1 (by simp)).then (hwb m2 (by simp))).sm (by decide)) ((b1.then b3).sm (by decide))
      refine' xs_assignD (d := m1.tup) rfl (.inl rfl) (fun h hk k => ?e1) (xs_if_skip (fun h hk k => et_cast (et_cmp (a := .int 4) (b := .int 2) rfl (ev_lenof k ⟨rfl, rfl, by decide, rfl, rfl⟩ rfl (ev_nmD k rfl rfl rfl) rfl) ev_int rfl) rfl) (xs_if_t (fun h hk k => et_cast (et_cmp (a := .int 4) (b := .int 2) rfl (ev_lenof k ⟨rfl, rfl, by decide, rfl, rfl⟩ rfl (ev_nmD k rfl rfl rfl) rfl) ev_int rfl) rfl) (xs_assignD (d := m3.back.tup) rfl (.inl rfl) (fun h hk k => ev_ite (b := false) (et_cast (et_cmp (a := .int 4) (b := .int 3) rfl (ev_lenof k ⟨rfl, rfl, by decide, rfl, rfl⟩ rfl (ev_nmD k rfl rfl rfl) rfl) ev_int rfl) rfl) (fun q => by cases q) (fun _ => ?e2)) (xs_assignD (d := ((m1.then m2).then (m1.back.then m3.back)).tup) rfl (.inl rfl) (fun h hk k => ?e3) (xs_nil rfl))) ?e9))
      case e1 => walk_at "ev"
      case e2 => walk_at "ev"
      case e3 => walk_at "ev"
      case e9 => exact fin _ rfl rfl rfl rfl
  case b8 =>
    refine xs_ret (fun h hk k => ?_)
    refine fun s hI => (ev_nm k rfl rfl rfl s hI).weak fun h' v _ r => ⟨a, r.mono' (fun _ _ e _ => e) fun _ _ hb _ _ hm => hb (List.mem_cons_of_mem _ hm)⟩
end
end
section
open PySem PySem.W PySem.Calls PyProof.Rows PySem.Builtin PySem.Builtin.Str
section
variable {prog : Program} {w : World}
theorem init_code {A : Around} {H : List Addr} {s : Shared} {x dx l : Addr} {R' : Result → Shared → Prop} (zs : 0 < s.toks) (hh : A.handled = none) (hroom : A.depth + 1 ≤ 900) (hu : A.units + 3 + 100 < cLine) (G : Gd (KF w.params) s.heap) (hk : HOK H s.heap) (hdx : dx ∈ H) (hG : Gd (KF w.params) (hidS s dx).heap)
    (hr : RV H s.heap (.ref x) (.ob x (rawP 215 x dx l))) (k : ∀ h' (tk : Tk), Kb dx s.heap h' → BookIs 215 x dx l [] H h' → R' (.ok (.ret .none)) { s with heap := h', toks := tk.1 }) :
    codeAny (model prog w) A (.call (.ref 107) ⟨[.ref x, .ref l], []⟩) R' s := by
  have hb : BindsTo s fd107 ⟨[.ref x, .ref l], []⟩ [(Str.ofString "self", .ref x), (Str.ofString "headers", .ref l)] := binds_K (T := 100) G.kin rfl rfl rfl rfl rfl
  obtain ⟨_, r1, r2, r3⟩ := id hr
  have nl : dx ≠ l := fun q => by
    obtain ⟨n, e⟩ := r3
    rw [← q, r2] at e
    have z : Value.type "dict" = Value.type "list" := congrArg Obj.cls (Option.some.inj e)
    exact absurd z (by decide)
  refine YlM.code (o := o107) (fd := fd107) (l := dx) (σ := [("self", .ob x (rawP 215 x dx l)), ("headers", .own l [])]) (N := fun σ => σ.lookup (Str.ofString "self") = some (V.book 215 x dx l [])) (R := fun h v => v = .none ∧ BookIs 215 x dx l [] H h) zs hh hroom hu G hk hdx hG rfl rfl (by kernel_rfl) rfl rfl rfl rfl rfl rfl rfl hb
    (.cons hr (.cons ⟨rfl, [], r3, .nil⟩ .nil)) (by rfl) (show (["self", "headers"] : List Str).Nodup by decide) (fun L => ?_) (fun L σ' s' n f => ⟨rfl, f.book n⟩) (fun v h' tk kb r => by obtain ⟨rfl, B⟩ := r; exact k h' tk kb B)
  refine' xs_assignV (v := .own l []) (y := "headers") rfl (fun h hk k => ev_ite (b := true) (et_obnn rfl (ev_nm k rfl rfl rfl) ev_none) (fun _ => ev_nm k rfl rfl rfl) (fun q => by cases q)) rfl (.inl rfl) (xs_if_skip (fun h hk k => et_typenot k ⟨rfl, rfl, by decide, rfl, rfl⟩ ⟨rfl, rfl, by decide, rfl, rfl⟩ rfl (ev_nm k rfl rfl rfl) rfl)
    (xs_setattr (x := "self") (y := "headers") (σ' := [("headers", .own l [])]) rfl rfl List.mem_cons_self rfl rfl rfl rfl ?c1 ?c2 ?c3 ?c4 (.cons rfl .nil) (fp_out ?c5) rfl (xs_if_t (fun h hk k => et_val rfl ev_bool) (xs_for_nil (fun h hk k => evNil_own (ev_nm k rfl rfl rfl)) (fun _ => rfl) (xs_nil rfl)) (xs_nil rfl))))
  case c1 => kernel_rfl
  case c2 => kernel_rfl
  case c3 => kernel_rfl
  case c4 => kernel_rfl
  case c5 =>
    intro p hp
    rw [List.mem_singleton.mp hp]
    intro hm
    exact nl (List.mem_singleton.mp hm)
section
variable {F : Fm} {s₀ : Shared} {H Wr : List Addr} {σ : Sig} {rest : List Stmt} {N : NPost} {R : Heap → Value → Prop}
/-- book = Headers([]) -/
theorem xs_newbook {x : Str} {px np lp pos spos : Pos} (hd : F.A.depth + 3 ≤ 900) (hu : F.A.units + 3 * 4 + 100 < cLine) (hkx : F.env.kindOf (Str.ofString "Headers") = some .globalImplicit) (hs : starEach [.List [] lp] F.env = [(false, eval (.List [] lp) F.env)])
    (st : Storable F.env x) (hsw : swapsWith (.Call (.Name (Str.ofString "Headers") np) [.List [] lp] [] pos) (some (.Name x px)) spos.line F.env = pure false)
    (hr : ∀ a dx l, (∀ y v, σ.lookup y = some v → a ∉ v.fp ∧ dx ∉ v.fp ∧ l ∉ v.fp) → l ∉ H → Exs (KF F.w.params) F s₀ (dx :: l :: H) (l :: Wr) ((x, .book 215 a dx l []) :: σ) rest N R) :
    Exs (KF F.w.params) F s₀ H Wr σ (.Assign [.Name x px] (.Call (.Name (Str.ofString "Headers") np) [.List [] lp] [] pos) spos :: rest) N R := fun s Q E g sub f kn kr => by
  have zs := f.tkp
  have CK := f.ck g
  refine wpAny_execs_cons (wpAny_Assign_Name (hs := hsw) (Call_Name rfl ((ev_gl (v := .ref 215) CK rfl hkx rfl s (Kp.refl _)).out _ E fun fv h₁ t₁ k₁ r => ?_)))
  subst r
  have G1 := (f.gd g).mono k₁
  have f1 : FI F s₀ H σ { s with heap := h₁, toks := t₁ } := f.grow (tk := t₁) k₁
  generalize hl : h₁.objs.size = l
  have k2 : Kp h₁ (h₁.push { cls := .type "list", data := .seq (List.toArray []) }) := Kp.push _ _
  obtain ⟨offl, newl⟩ := f1.new_off (I := l) (by rw [← hl]; exact Nat.le_refl _)
  have hlg : (h₁.push { cls := .type "list", data := .seq (List.toArray []) }).get? l = some { cls := .type "list", data := .seq (List.toArray []) } := by rw [← hl]; exact Heap.get?_push_size _ rfl
  have f2 : FI F s₀ (l :: H) σ { s with heap := h₁.push { cls := .type "list", data := .seq (List.toArray []) }, toks := t₁ } := f1.hide (I := l) (tk := t₁) k2 (by rw [← hl]; exact Nat.le_refl _) ⟨_, hlg⟩
  generalize hH2 : h₁.push { cls := .type "list", data := .seq (List.toArray []) } = H2 at *
  have hs2 : H2.objs.size = l + 1 := by rw [← hH2, Heap.size_push, hl]
  have G2 := G1.mono k2
  -- the object
  have k3 : Kp H2 ((H2.push emptyDict).push (instObj 215 H2.objs.size)) := Kp.trans (Kp.push _ _) (Kp.push _ _)
  have hs3 : (H2.push emptyDict).objs.size = l + 2 := by rw [Heap.size_push, hs2]
  have g3d : ((H2.push emptyDict).push (instObj 215 H2.objs.size)).get? (l + 1) = some (dictOf [] 0) := by
    rw [← hs2]; exact Heap.get?_push_of_some _ (Heap.get?_push_size _ rfl)
  have g3x : ((H2.push emptyDict).push (instObj 215 H2.objs.size)).get? (l + 2) = some (instObj 215 (l + 1)) := by
    rw [← hs3, ← hs2]; exact Heap.get?_push_size _ rfl
  have f3 : FI F s₀ ((l + 1) :: l :: H) σ { s with heap := (H2.push emptyDict).push (instObj 215 H2.objs.size), toks := t₁ } := f2.hide (I := l + 1) (tk := t₁) k3 (by show H2.objs.size ≤ l + 1; rw [hs2]; exact Nat.le_refl _) ⟨_, g3d⟩
  obtain ⟨offd, newd⟩ := f2.new_off (I := l + 1) (by show H2.objs.size ≤ l + 1; rw [hs2]; exact Nat.le_refl _)
  obtain ⟨offx, newx⟩ := f2.new_off (I := l + 2) (by show H2.objs.size ≤ l + 2; rw [hs2]; exact Nat.le_succ _)
  have nofp : ∀ y v, σ.lookup y = some v → ∀ b, l ≤ b → b ∉ v.fp := fun y v e b hb hm => by
    obtain ⟨o, e'⟩ := f1.fp_live e b hm
    have := Heap.lt_size e'
    rw [hl] at this
    exact absurd this (Nat.not_lt.mpr hb)
  have nH : ∀ b, l ≤ b → b ∉ H := fun b hb hm => by
    obtain ⟨o, e'⟩ := f1.hok b hm
    have := Heap.lt_size e'
    rw [hl] at this
    exact absurd this (Nat.not_lt.mpr hb)
  have hplain : H2.PlainList l #[] := ⟨_, hlg⟩
  have raw : RV ((l + 1) :: l :: H) ((H2.push emptyDict).push (instObj 215 H2.objs.size)) (.ref (l + 2)) (.ob (l + 2) (rawP 215 (l + 2) (l + 1) l)) := ⟨rfl, g3x, g3d, hplain.at fun o e => k3 _ o e⟩
  have end_ : ∀ h₄ (t₄ : Tk), Kb (l + 1) ((H2.push emptyDict).push (instObj 215 H2.objs.size)) h₄ → BookIs 215 (l + 2) (l + 1) l [] ((l + 1) :: l :: H) h₄ →
      wpAny (model F.prog F.w) F.A (storeName F.env x (.ref (l + 2))) (fun _ s' => wpAny (model F.prog F.w) F.A (execs rest F.env) Q E s') E { s with heap := h₄, toks := t₄.1 } := by
    intro h₄ t₄ kb B
    have f4 : FI F s₀ ((l + 1) :: l :: H) σ { s with heap := h₄, toks := t₄ } := f3.but (I := l + 1) (tk := t₄) kb (by simp) offd newd (fun y v e => nofp y v e _ (Nat.le_succ _)) (B.2.elim fun _ ⟨_, _, e⟩ => ⟨_, e⟩)
    refine store_ok (v := .book 215 (l + 2) (l + 1) l []) f4 st ⟨rfl, B⟩ (fun b hb => ?_) fun s' f' _ t => ?_
    · have hb : b ∈ [l + 2, l + 1, l] := hb
      simp only [List.mem_cons, List.not_mem_nil, or_false] at hb
      rcases hb with rfl | rfl | rfl
      · exact offx
      · exact offd
      · exact offl
    · refine hr (l + 2) (l + 1) l (fun y v e => ⟨nofp y v e _ (by omega), nofp y v e _ (by omega), nofp y v e _ (Nat.le_refl _)⟩) (nH l (Nat.le_refl _)) s' Q E g (fun b hb => ?_) f' (fun σ' s'' n f'' t' => kn σ' s'' n f''.bare.bare fun b o hb ho e => ?_) kr
      · rcases List.mem_cons.mp hb with rfl | hb
        · exact ⟨by simp, get_none_ge newl⟩
        · exact ⟨List.mem_cons_of_mem _ (List.mem_cons_of_mem _ (sub b hb).1), (sub b hb).2⟩
      · have e1 := k₁ b o e
        have lt : b < l := by have := Heap.lt_size e1; rw [hl] at this; exact this
        exact t' b o (fun hm => (List.mem_cons.mp hm).elim (fun q => Nat.lt_irrefl _ (q ▸ lt)) hb) ho (t b o ho (kb b o (Nat.ne_of_lt (Nat.lt_succ_of_lt lt)) (k3 b o (k2 b o e1))))
  have hmk : makesIn (KF F.w.params) 215 = true := by kernel_rfl
  have hin : findIn (KF F.w.params) (.ref 215) "__init__" = some (some (.ref 107)) := by kernel_rfl
  have hfn : typeIn (KF F.w.params) (.ref 107) = some (.type "function") := by kernel_rfl
  refine callWith_K G1.kin (f := .ref 215) (by kernel_rfl) (args_cons (List_ (args_nil (wpAny_newObj_type (args_nil ⟨?_, ?_⟩)))) hs) hs rfl
  · exact hH2 ▸ G2.kin
  have e0 : ({ heap := h₁.push { cls := .type "list", dict := none, data := .seq (List.toArray []) }, gens := s.gens, drawn := s.drawn, toks := t₁, os := s.os } : Shared) = ⟨H2, s.gens, s.drawn, t₁, s.os⟩ := by rw [← hH2]
  show wpAny _ _ (call (.ref 215) [.ref h₁.objs.size] []) _ E { heap := h₁.push { cls := .type "list", dict := none, data := .seq (List.toArray []) }, gens := s.gens, drawn := s.drawn, toks := t₁, os := s.os }
  rw [hl, e0]
  refine wpAny_call (make_core (makes_of G2.kin hmk) (looks_findIn G2.kin hin) (fun self => bind_fn G2.kin self hfn) (.inl rfl) ?_)
  have ex : H2.objs.size + 1 = l + 2 := by rw [hs2]
  rw [ex]
  have G3 := G2.mono k3
  have G3h : Gd (KF F.w.params) (hideAll ((H2.push emptyDict).push (instObj 215 H2.objs.size)) [l + 1]) := G2.mono fun b o e => hide_get (k3 b o e) (fun q => by
    have := Heap.lt_size e
    rw [q, hs2] at this
    exact Nat.lt_irrefl _ this)
  have hw0 : (Code.builtin "type.__call__" ⟨[.ref 215, .ref l], []⟩).weight = 1 := by kernel_rfl
  have hu0 : (Code.builtin "type.__call__" ⟨[.ref 215, .ref l], []⟩).cUnits = 1 := by kernel_rfl
  have hwt : (F.A.under (Code.builtin "type.__call__" ⟨[.ref 215, .ref l], []⟩)).depth = F.A.depth + 1 := by rw [← hw0]; rfl
  have hun : (F.A.under (Code.builtin "type.__call__" ⟨[.ref 215, .ref l], []⟩)).units = F.A.units + 1 := by rw [← hu0]; rfl
  refine init_code (H := (l + 1) :: l :: H) (dx := l + 1) (x := l + 2) (s := ⟨(H2.push emptyDict).push (instObj 215 H2.objs.size), s.gens, s.drawn, t₁.1, s.os⟩) t₁.2 F.hh (by rw [hwt]; omega) (by rw [hun]; omega) G3 f3.hok List.mem_cons_self G3h raw fun h' tk kb B => ?_
  · exact ⟨rfl, end_ h' tk kb B⟩
end
end
end
section
open PySem PySem.W PySem.Calls PyProof.Rows
/-- the tables' determinant -/
noncomputable def M6.det (m : M6) : Int := m.c * m.f - m.d * m.e
theorem det_then (m n : M6) : (m.then n).det = m.det * n.det := by
  obtain ⟨a, b, c, d, e, f⟩ := m
  obtain ⟨a', b', c', d', e', f'⟩ := n
  simp only [M6.det, M6.then]
  grind
theorem det_back (m : M6) : m.back.det = m.det := by
  obtain ⟨a, b, c, d, e, f⟩ := m
  simp only [M6.det, M6.back]
  grind
theorem then_assoc (m n o : M6) : (m.then n).then o = m.then (n.then o) := by
  obtain ⟨a, b, c, d, e, f⟩ := m
  obtain ⟨a', b', c', d', e', f'⟩ := n
  obtain ⟨a'', b'', c'', d'', e'', f''⟩ := o
  simp only [M6.then, M6.mk.injEq]
  refine ⟨?_, ?_, ?_, ?_, ?_, ?_⟩ <;> grind
theorem one_then (m : M6) : M6.one.then m = m := by
  obtain ⟨a, b, c, d, e, f⟩ := m
  simp [M6.then, M6.one]
theorem then_one (m : M6) : m.then M6.one = m := by
  obtain ⟨a, b, c, d, e, f⟩ := m
  simp [M6.then, M6.one]
theorem then_back {m : M6} (h : m.det = 1) : m.then m.back = M6.one := by
  obtain ⟨a, b, c, d, e, f⟩ := m
  simp only [M6.det] at h
  simp only [M6.then, M6.back, M6.one, M6.mk.injEq]
  refine ⟨?_, ?_, ?_, ?_, ?_, ?_⟩ <;> grind
theorem back_left {m : M6} (h : m.det = 1) : m.back.then m = M6.one := by
  obtain ⟨a, b, c, d, e, f⟩ := m
  simp only [M6.det] at h
  simp only [M6.then, M6.back, M6.one, M6.mk.injEq]
  refine ⟨?_, ?_, ?_, ?_, ?_, ?_⟩ <;> grind
theorem back_uniq {m n : M6} (h : m.det = 1) (e : m.then n = M6.one) : n = m.back := by
  have : m.back.then (m.then n) = m.back.then M6.one := by rw [e]
  rwa [← then_assoc, back_left h, one_then, then_one] at this
theorem back_then {m n : M6} (hm : m.det = 1) (hn : n.det = 1) : (m.then n).back = n.back.then m.back := by
  refine (back_uniq (by rw [det_then, hm, hn]; rfl) ?_).symm
  rw [then_assoc, ← then_assoc n, then_back hn, one_then, then_back hm]
theorem back_back {m : M6} (h : m.det = 1) : m.back.back = m := by
  obtain ⟨a, b, c, d, e, f⟩ := m
  simp only [M6.det] at h
  simp only [M6.back, M6.mk.injEq]
  refine ⟨?_, ?_, ?_, ?_, ?_, ?_⟩ <;> grind
end
section
open PySem PySem.W PySem.Calls PyProof.Rows
noncomputable def okcB (ws : List Int) (c : Nat) : Bool := (c == 39 && !ws.isEmpty) || ops.contains c || letters.contains c
theorem okcB_ok {ws : List Int} {c : Nat} (h : okcB ws c = true) : okc ws c := by
  unfold okcB at h
  simp only [Bool.or_eq_true, Bool.and_eq_true, beq_iff_eq, Bool.not_eq_true', List.contains_iff_mem] at h
  rcases h with (⟨h1, h2⟩ | h) | h
  · exact .inl ⟨h1, by cases ws with | nil => cases h2 | cons _ _ => simp⟩
  · exact .inr (.inl h)
  · exact .inr (.inr h)
/-- a text that is read sign by sign -/
noncomputable def flatOk (l : List Nat) : Bool := decide ((Txt.splitMax (txtS l) tick 2).length ≤ 2) && (List.range (l.length + 1)).all fun i => decide ((flatL (l.take i)).length ≤ i) && (match l[i]? with | some c => okcB (flatL (l.take i)) c | none => true)
noncomputable def threeOk (l f m r : List Nat) : Bool := Txt.splitMax (txtS l) tick 2 == [txtS f, txtS m, txtS r]
section
variable {prog : Program} {w : World}
theorem flat_fun {l : List Nat} {n : Nat} (h : flatOk l = true) (hl : l.length ≤ 1000) : Fun (KF w.params) prog w 241 (n + 2) [.d (.str (txtS l))] (.lst ((flatL l).map .int)) := by
  obtain ⟨h1, h2⟩ := Bool.and_eq_true_iff.mp h
  have h1 := of_decide_eq_true h1
  have h2 := List.all_eq_true.mp h2
  have at_ : ∀ i, i ≤ l.length → (flatL (l.take i)).length ≤ i := fun i hi => of_decide_eq_true (Bool.and_eq_true_iff.mp (h2 i (List.mem_range.mpr (by omega)))).1
  refine symbols_flat (x := txtS l) hl ?_ (by omega) (fun i c hc => ?_) (fun i => ?_)
  · unfold decD; rw [if_pos h1]
  · have hc : l[i]? = some c := hc
    have hi : i < l.length := (List.getElem?_eq_some_iff.mp hc).1
    have h3 := (Bool.and_eq_true_iff.mp (h2 i (List.mem_range.mpr (by omega)))).2
    rw [hc] at h3
    exact okcB_ok h3
  · show (flatL (l.take i)).length ≤ i
    by_cases hi : i ≤ l.length
    · exact at_ i hi
    · rw [List.take_of_length_le (by omega)]
      have := at_ l.length (Nat.le_refl _)
      rw [List.take_of_length_le (Nat.le_refl _)] at this
      omega
end
noncomputable def each (p : Nat → Bool) : Bool := signs8.all p
theorem each_at {p : Nat → Bool} (h : each p = true) {a : Nat} (ha : a ∈ signs8) : p a = true := List.all_eq_true.mp h a ha
theorem k0 : (each fun a => each fun b => each fun c => flatOk [a, b, c]) = true := by decide +kernel
theorem k3 : (each fun a => each fun b => each fun c => flatOk [a, 39, b, c]) = true := by decide +kernel
theorem k1 : (each fun a => each fun b => each fun c => threeOk [a, 39, b, 39, c] [a] [b] [c]) = true := by decide +kernel
theorem k2 : (each fun a => each fun b => threeOk [a, 39, b, 39] [a] [b] []) = true := by decide +kernel
theorem k4 : (each fun a => each fun b => each fun c => threeOk [a, 39, b, 39, c, 39] [a] [b] [c, 39]) = true := by decide +kernel
theorem k5 : ((each fun a => flatOk [a] && flatOk [a, 39] && PyData.canLay0 (.str (txtS [a]))) && flatOk [] && flatOk [97, 66, 99]) = true := by decide +kernel
/-- what a text's signs mean -/
noncomputable def figL (fm a b c : Nat) : List Int := match fm with
  | 0 => [symv a, symv b, symv c]
  | 1 => [symv a, symv b, turn (symv a), symv c]
  | 2 => [symv a, symv b, turn (symv a)]
  | 3 => [turn (symv a), symv b, symv c]
  | _ => [symv a, symv b, turn (symv a), turn (symv c)]
theorem ne39 {a : Nat} (h : a ∈ signs8) : a ≠ 39 := by rintro rfl; revert h; decide
theorem flat1 {a : Nat} (h : a ∈ signs8) : flatL [a] = [symv a] := by
  show stepF [] a = _
  unfold stepF; rw [if_neg (ne39 h)]; rfl
theorem flat1t {a : Nat} (h : a ∈ signs8) : flatL [a, 39] = [turn (symv a)] := by
  show stepF (stepF [] a) 39 = _
  unfold stepF; rw [if_neg (ne39 h), if_pos rfl]; rfl
theorem flat3 {a b c : Nat} (ha : a ∈ signs8) (hb : b ∈ signs8) (hc : c ∈ signs8) : flatL [a, b, c] = [symv a, symv b, symv c] := by
  show stepF (stepF (stepF [] a) b) c = _
  unfold stepF; rw [if_neg (ne39 ha), if_neg (ne39 hb), if_neg (ne39 hc)]; rfl
theorem flat4 {a b c : Nat} (ha : a ∈ signs8) (hb : b ∈ signs8) (hc : c ∈ signs8) : flatL [a, 39, b, c] = [turn (symv a), symv b, symv c] := by
  show stepF (stepF (stepF (stepF [] a) 39) b) c = _
  unfold stepF; rw [if_neg (ne39 ha), if_pos rfl, if_neg (ne39 hb), if_neg (ne39 hc)]; rfl
section
variable {prog : Program} {w : World}
theorem fun_up {f : Addr} {n m : Nat} {vs : List V} {d : D} (h : Fun (KF w.params) prog w f n vs d) (hn : n ≤ m) : Fun (KF w.params) prog w f m vs d := fun A H s rs h1 h2 h3 => h A H s rs h1 (by omega) (by omega)
theorem fig_fun {fm a b c : Nat} (ha : a ∈ signs8) (hb : b ∈ signs8) (hc : c ∈ signs8) (hf : fm < 5) : Fun (KF w.params) prog w 241 3 [.d (.str (txtS (txtL fm a b c)))] (.lst ((figL fm a b c).map .int)) := by
  have s5 := (Bool.and_eq_true_iff.mp (Bool.and_eq_true_iff.mp k5).1).1
  have one : ∀ {x}, x ∈ signs8 → flatOk [x] = true ∧ flatOk [x, 39] = true ∧ PyData.canLay0 (.str (txtS [x])) = true := fun hx => by
    have := each_at s5 hx
    simp only [Bool.and_eq_true] at this
    exact ⟨this.1.1, this.1.2, this.2⟩
  have nil : flatOk [] = true := (Bool.and_eq_true_iff.mp (Bool.and_eq_true_iff.mp k5).1).2
  have C1 : ∀ {x}, x ∈ signs8 → Fun (KF w.params) prog w 241 (0 + 2) [.d (.str (txtS [x]))] (.lst ([symv x].map .int)) := fun hx => by
    have := flat_fun (prog := prog) (w := w) (n := 0) (one hx).1 (Nat.le_of_ble_eq_true rfl)
    rwa [flat1 hx] at this
  match fm, hf with
  | 0, _ =>
    have := flat_fun (prog := prog) (w := w) (n := 1) (each_at (each_at (each_at k0 ha) hb) hc) (Nat.le_of_ble_eq_true rfl)
    rwa [flat3 ha hb hc] at this
  | 1, _ =>
    have e := beq_iff_eq.mp (each_at (each_at (each_at k1 ha) hb) hc)
    exact symbols_three (n := 0) (x := txtS [a, 39, b, 39, c]) (wf := [symv a]) (wm := [symv b]) (wr := [symv c]) (Nat.le_of_ble_eq_true rfl) e (C1 ha) (C1 hb) (C1 hc) (one ha).2.2 (one hb).2.2 (Nat.le_of_ble_eq_true rfl) (Nat.le_of_ble_eq_true rfl) (Nat.le_of_ble_eq_true rfl)
  | 2, _ =>
    have e := beq_iff_eq.mp (each_at (each_at k2 ha) hb)
    have Cn := flat_fun (prog := prog) (w := w) (n := 0) nil (Nat.le_of_ble_eq_true rfl)
    exact symbols_three (n := 0) (x := txtS [a, 39, b, 39]) (wf := [symv a]) (wm := [symv b]) (wr := []) (Nat.le_of_ble_eq_true rfl) e (C1 ha) (C1 hb) Cn (one ha).2.2 (one hb).2.2 (Nat.le_of_ble_eq_true rfl) (Nat.le_of_ble_eq_true rfl) (Nat.le_of_ble_eq_true rfl)
  | 3, _ =>
    have := flat_fun (prog := prog) (w := w) (n := 1) (each_at (each_at (each_at k3 ha) hb) hc) (Nat.le_of_ble_eq_true rfl)
    rwa [flat4 ha hb hc] at this
  | 4, _ =>
    have e := beq_iff_eq.mp (each_at (each_at (each_at k4 ha) hb) hc)
    have Ct := flat_fun (prog := prog) (w := w) (n := 0) (one hc).2.1 (Nat.le_of_ble_eq_true rfl)
    rw [flat1t hc] at Ct
    exact symbols_three (n := 0) (x := txtS [a, 39, b, 39, c, 39]) (wf := [symv a]) (wm := [symv b]) (wr := [turn (symv c)]) (Nat.le_of_ble_eq_true rfl) e (C1 ha) (C1 hb) Ct (one ha).2.2 (one hb).2.2 (Nat.le_of_ble_eq_true rfl) (Nat.le_of_ble_eq_true rfl) (Nat.le_of_ble_eq_true rfl)
end
end
section
open PySem PySem.W PySem.Calls PyProof.Rows
noncomputable def symc (s : Int) : Nat := if s = 14 then 43 else if s = 15 then 45 else if s = 20 then 60 else if s = 21 then 62 else if s = 256 then 97 else if s = 257 then 65 else if s = 258 then 98 else if s = 259 then 66 else if s = 260 then 99 else 67
/-- the symbols of a level -/
noncomputable def syms (L : Nat) : List Int := [14, 15, 20, 21, 256, 257, 258, 259, 260, 261].take (4 + 2 * L)
theorem symc_symv {L c : Nat} (hL : L ≤ 3) (h : c ∈ chs L) : symc (symv c) = c ∧ symv c ∈ syms L ∧ turn (symv c) ∈ syms L := by
  match L, hL with
  | 0, _ | 1, _ | 2, _ | 3, _ =>
    simp only [chs, List.take, List.mem_cons, List.not_mem_nil, or_false] at h
    first
      | (rcases h with rfl | rfl | rfl | rfl <;> decide)
      | (rcases h with rfl | rfl | rfl | rfl | rfl | rfl <;> decide)
      | (rcases h with rfl | rfl | rfl | rfl | rfl | rfl | rfl | rfl <;> decide)
      | (rcases h with rfl | rfl | rfl | rfl | rfl | rfl | rfl | rfl | rfl | rfl <;> decide)
theorem symc_chs {L : Nat} (hL : L ≤ 3) {s : Int} (h : s ∈ syms L) : symc s ∈ chs L ∧ symc (turn s) ∈ chs L := by
  match L, hL with
  | 0, _ | 1, _ | 2, _ | 3, _ =>
    simp only [syms, List.take, List.mem_cons, List.not_mem_nil, or_false] at h
    first
      | (rcases h with rfl | rfl | rfl | rfl <;> decide)
      | (rcases h with rfl | rfl | rfl | rfl | rfl | rfl <;> decide)
      | (rcases h with rfl | rfl | rfl | rfl | rfl | rfl | rfl | rfl <;> decide)
      | (rcases h with rfl | rfl | rfl | rfl | rfl | rfl | rfl | rfl | rfl | rfl <;> decide)
theorem chs_up {i j : Nat} (h : i ≤ j) {c : Nat} (hc : c ∈ chs i) : c ∈ chs j := by
  unfold chs at *
  rw [List.mem_take_iff_getElem] at hc ⊢
  obtain ⟨k, hk, e⟩ := hc
  exact ⟨k, by omega, e⟩
theorem syms_up {i j : Nat} (h : i ≤ j) {s : Int} (hs : s ∈ syms i) : s ∈ syms j := by
  unfold syms at *
  rw [List.mem_take_iff_getElem] at hs ⊢
  obtain ⟨k, hk, e⟩ := hs
  exact ⟨k, by omega, e⟩
section
variable (es : List Ent)
/-- later tables tell the same of earlier letters -/
theorem fK_step {i c : Nat} (hi : i < 3) (hc : c ∈ chs i) : fK es (i + 1) c = fK es i c := by
  have h1 : 97 + i ∉ chs i ∧ 65 + i ∉ chs i := by
    match i, hi with
    | 0, _ => decide
    | 1, _ => decide
    | 2, _ => decide
  show (if c = 97 + i then _ else if c = 65 + i then _ else _) = _
  rw [if_neg (by rintro rfl; exact h1.1 hc), if_neg (by rintro rfl; exact h1.2 hc)]
theorem fK_top {i c : Nat} (hi : i ≤ 3) (hc : c ∈ chs i) : fK es 3 c = fK es i c := by
  match i, hi with
  | 3, _ => rfl
  | 2, _ => exact fK_step es (by decide) hc
  | 1, _ => rw [show fK es 3 c = fK es 2 c from fK_step es (by decide) (chs_up (by decide) hc)]; exact fK_step es (by decide) hc
  | 0, _ =>
    rw [show fK es 3 c = fK es 2 c from fK_step es (by decide) (chs_up (by decide) hc), show fK es 2 c = fK es 1 c from fK_step es (by decide) (chs_up (by decide) hc)]
    exact fK_step es (by decide) hc
noncomputable abbrev sM (s : Int) : M6 := fK es 3 (symc s)
noncomputable def wordS (ws : List Int) : M6 := ws.foldl (fun m s => m.then (sM es s)) M6.one
theorem wordS_cons (s : Int) (ws : List Int) : wordS es (s :: ws) = (sM es s).then (wordS es ws) := by
  have key : ∀ (ws : List Int) (m : M6), ws.foldl (fun m s => m.then (sM es s)) m = m.then (wordS es ws) := by
    intro ws
    induction ws with
    | nil => intro m; exact (then_one m).symm
    | cons a l ih =>
      intro m
      show l.foldl _ (m.then (sM es a)) = m.then (l.foldl _ (M6.one.then (sM es a)))
      rw [ih, ih (M6.one.then (sM es a)), one_then, then_assoc]
  show ws.foldl _ (M6.one.then (sM es s)) = _
  rw [key, one_then]
theorem wordS_append (a b : List Int) : wordS es (a ++ b) = (wordS es a).then (wordS es b) := by
  induction a with
  | nil => exact (one_then _).symm
  | cons x l ih => rw [List.cons_append, wordS_cons, wordS_cons, ih, then_assoc]
end
theorem det_one : M6.one.det = 1 := by decide
theorem det_b {m : M6} (h : m.det = 1) : m.back.det = 1 := by rw [det_back, h]
theorem wordM_det {f : Nat → M6} : ∀ {cs : List Nat}, (∀ c ∈ cs, (f c).det = 1) → (wordM f cs).det = 1 := by
  have key : ∀ (cs : List Nat) (m : M6), m.det = 1 → (∀ c ∈ cs, (f c).det = 1) → (cs.foldl (fun m c => m.then (f c)) m).det = 1 := by
    intro cs
    induction cs with
    | nil => intro m hm _; exact hm
    | cons a l ih => intro m hm h; exact ih _ (by rw [det_then, hm, h a List.mem_cons_self]; rfl) fun c hc => h c (List.mem_cons_of_mem _ hc)
  intro cs h
  exact key cs _ det_one h
theorem det_t {m n : M6} (hm : m.det = 1) (hn : n.det = 1) : (m.then n).det = 1 := by rw [det_then, hm, hn]; rfl
theorem whole_det {ws : List M6} (h : ∀ m ∈ ws, m.det = 1) : (wholeM ws).det = 1 := by
  match ws, h with
  | [], _ => exact det_one
  | [a], h => exact h a (by simp)
  | [a, b], h => exact det_t (det_b (h a (by simp))) (h b (by simp))
  | [a, b, c], h => exact det_t (det_t (h a (by simp)) (h b (by simp))) (det_t (det_b (h a (by simp))) (h c (by simp)))
  | a :: b :: c :: d :: r, h => exact det_t (det_t (h a (by simp)) (h b (by simp))) (det_t (det_b (h a (by simp))) (det_b (h c (by simp))))
theorem fK_det {es : List Ent} (h : AllLv es) : ∀ i, ∀ c ∈ chs i, (fK es i c).det = 1
  | 0, c, hc => by
    have hc : c ∈ [43, 45, 62, 60] := hc
    simp only [List.mem_cons, List.not_mem_nil, or_false] at hc
    show (f0M c).det = 1
    rcases hc with rfl | rfl | rfl | rfl <;> decide
  | i + 1, c, hc => by
    have ih := fK_det h i
    have hf : (figM es (fK es i) (97 + i)).det = 1 := whole_det fun m hm => by
      obtain ⟨p, hp, rfl⟩ := List.mem_map.mp hm
      exact wordM_det fun c hc => ih c ((partsAt_chars h i p hp).2 c hc)
    show (if c = 97 + i then figM es (fK es i) (97 + i) else if c = 65 + i then (figM es (fK es i) (97 + i)).back else fK es i c).det = 1
    split
    · exact hf
    · split
      · exact det_b hf
      · rename_i n1 n2
        exact ih c (chs_succ hc n1 n2)
section
variable {es : List Ent}
theorem sM_det (h : AllLv es) {s : Int} (hs : s ∈ syms 3) : (sM es s).det = 1 := fK_det h 3 _ (symc_chs (Nat.le_refl _) hs).1
theorem sM_turn (h : AllLv es) {s : Int} (hs : s ∈ syms 3) : sM es (turn s) = (sM es s).back := by
  have hd := sM_det h hs
  simp only [syms, List.take, List.mem_cons, List.not_mem_nil, or_false] at hs
  have c4 : ∀ c ∈ chs 0, fK es 3 c = f0M c := fun c hc => fK_top es (i := 0) (by decide) hc
  have up : ∀ i, i < 3 → fK es 3 (65 + i) = (fK es 3 (97 + i)).back := by
    intro i hi
    have h1 : 97 + i ∈ chs (i + 1) ∧ 65 + i ∈ chs (i + 1) := by
      match i, hi with
      | 0, _ => decide
      | 1, _ => decide
      | 2, _ => decide
    rw [fK_top es (i := i + 1) (by omega) h1.1, fK_top es (i := i + 1) (by omega) h1.2]
    show (if 65 + i = 97 + i then _ else if 65 + i = 65 + i then _ else _) = M6.back (if 97 + i = 97 + i then _ else _)
    rw [if_neg (by omega), if_pos rfl, if_pos rfl]
  rcases hs with rfl | rfl | rfl | rfl | rfl | rfl | rfl | rfl | rfl | rfl
  · show fK es 3 45 = (fK es 3 43).back; rw [c4 _ (by decide), c4 _ (by decide)]; rfl
  · show fK es 3 43 = (fK es 3 45).back; rw [c4 _ (by decide), c4 _ (by decide)]; rfl
  · show fK es 3 62 = (fK es 3 60).back; rw [c4 _ (by decide), c4 _ (by decide)]; rfl
  · show fK es 3 60 = (fK es 3 62).back; rw [c4 _ (by decide), c4 _ (by decide)]; rfl
  · exact up 0 (by decide)
  · have e := up 0 (by decide)
    show fK es 3 97 = (fK es 3 65).back
    rw [show fK es 3 65 = (fK es 3 97).back from e, back_back]
    have : (fK es 3 65).det = 1 := hd
    rw [show fK es 3 65 = (fK es 3 97).back from e, det_back] at this
    exact this
  · exact up 1 (by decide)
  · have e := up 1 (by decide)
    show fK es 3 98 = (fK es 3 66).back
    rw [show fK es 3 66 = (fK es 3 98).back from e, back_back]
    have : (fK es 3 66).det = 1 := hd
    rw [show fK es 3 66 = (fK es 3 98).back from e, det_back] at this
    exact this
  · exact up 2 (by decide)
  · have e := up 2 (by decide)
    show fK es 3 99 = (fK es 3 67).back
    rw [show fK es 3 67 = (fK es 3 99).back from e, back_back]
    have : (fK es 3 67).det = 1 := hd
    rw [show fK es 3 67 = (fK es 3 99).back from e, det_back] at this
    exact this
theorem wordS_det (h : AllLv es) : ∀ {ws : List Int}, (∀ s ∈ ws, s ∈ syms 3) → (wordS es ws).det = 1
  | [], _ => det_one
  | s :: ws, hw => by
    rw [wordS_cons]
    exact det_t (sM_det h (hw s List.mem_cons_self)) (wordS_det h fun x hx => hw x (List.mem_cons_of_mem _ hx))
theorem wordS_undo (h : AllLv es) : ∀ {ws : List Int}, (∀ s ∈ ws, s ∈ syms 3) → wordS es (undo ws) = (wordS es ws).back
  | [], _ => rfl
  | s :: ws, hw => by
    have hs := hw s List.mem_cons_self
    have hw' := fun x hx => hw x (List.mem_cons_of_mem _ hx)
    have e : undo (s :: ws) = undo ws ++ [turn s] := by unfold undo; simp
    rw [e, wordS_append, wordS_undo h hw', wordS_cons es s ws, back_then (sM_det h hs) (wordS_det h hw'), wordS_cons es (turn s) [], sM_turn h hs]
    exact congrArg _ (then_one _)
/-- a figure's symbols tell its table -/
theorem fig_word (h : AllLv es) {e : Ent} {j : Nat} (hj : j < 3) (hl : ∀ c ∈ [e.a, e.b, e.c], c ∈ chs j) (hf : e.fm < 5) : (∀ s ∈ figL e.fm e.a e.b e.c, s ∈ syms j) ∧ wordS es (figL e.fm e.a e.b e.c) = wholeM (e.parts.map fun p => wordM (fK es j) p.cps.toList) := by
  obtain ⟨nm, fm, a, b, c⟩ := e
  have ha : a ∈ chs j := hl a (by simp)
  have hb : b ∈ chs j := hl b (by simp)
  have hc : c ∈ chs j := hl c (by simp)
  have j3 : j ≤ 3 := by omega
  obtain ⟨a1, a2, a3⟩ := symc_symv j3 ha
  obtain ⟨b1, b2, b3⟩ := symc_symv j3 hb
  obtain ⟨c1, c2, c3⟩ := symc_symv j3 hc
  have ea : sM es (symv a) = fK es j a := by show fK es 3 (symc (symv a)) = _; rw [a1]; exact fK_top es j3 ha
  have eb : sM es (symv b) = fK es j b := by show fK es 3 (symc (symv b)) = _; rw [b1]; exact fK_top es j3 hb
  have ec : sM es (symv c) = fK es j c := by show fK es 3 (symc (symv c)) = _; rw [c1]; exact fK_top es j3 hc
  have ta : sM es (turn (symv a)) = (fK es j a).back := by rw [sM_turn h (syms_up (by omega) a2), ea]
  have tc : sM es (turn (symv c)) = (fK es j c).back := by rw [sM_turn h (syms_up (by omega) c2), ec]
  have w1 : ∀ x, wordM (fK es j) [x] = fK es j x := fun x => one_then _
  have w2 : ∀ x y, wordM (fK es j) [x, y] = (fK es j x).then (fK es j y) := fun x y => by show (M6.one.then _).then _ = _; rw [one_then]
  have w3 : ∀ x y z, wordM (fK es j) [x, y, z] = ((fK es j x).then (fK es j y)).then (fK es j z) := fun x y z => by show ((M6.one.then _).then _).then _ = _; rw [one_then]
  have n1 : wordS es [] = M6.one := rfl
  have l0 : (Str.ofString "").cps.toList = [] := by decide
  match fm, hf with
  | 0, _ =>
    refine ⟨by simp only [figL, List.mem_cons, List.not_mem_nil, or_false]; rintro s (rfl | rfl | rfl) <;> assumption, ?_⟩
    show wordS es [symv a, symv b, symv c] = wordM (fK es j) [a, b, c]
    rw [w3, wordS_cons, wordS_cons, wordS_cons, n1, then_one, ea, eb, ec, then_assoc]
  | 1, _ =>
    refine ⟨by simp only [figL, List.mem_cons, List.not_mem_nil, or_false]; rintro s (rfl | rfl | rfl | rfl) <;> assumption, ?_⟩
    show wordS es [symv a, symv b, turn (symv a), symv c] = ((wordM (fK es j) [a]).then (wordM (fK es j) [b])).then ((wordM (fK es j) [a]).back.then (wordM (fK es j) [c]))
    rw [w1, w1, w1, wordS_cons, wordS_cons, wordS_cons, wordS_cons, n1, then_one, ea, eb, ec, ta, then_assoc]
  | 2, _ =>
    refine ⟨by simp only [figL, List.mem_cons, List.not_mem_nil, or_false]; rintro s (rfl | rfl | rfl) <;> assumption, ?_⟩
    show wordS es [symv a, symv b, turn (symv a)] = ((wordM (fK es j) [a]).then (wordM (fK es j) [b])).then ((wordM (fK es j) [a]).back.then (wordM (fK es j) (Str.ofString "").cps.toList))
    rw [l0, w1, w1, show wordM (fK es j) [] = M6.one from rfl, then_one, wordS_cons, wordS_cons, wordS_cons, n1, then_one, ea, eb, ta, then_assoc]
  | 3, _ =>
    refine ⟨by simp only [figL, List.mem_cons, List.not_mem_nil, or_false]; rintro s (rfl | rfl | rfl) <;> assumption, ?_⟩
    show wordS es [turn (symv a), symv b, symv c] = (wordM (fK es j) [a]).back.then (wordM (fK es j) [b, c])
    rw [w1, w2, wordS_cons, wordS_cons, wordS_cons, n1, then_one, ta, eb, ec]
  | 4, _ =>
    refine ⟨by simp only [figL, List.mem_cons, List.not_mem_nil, or_false]; rintro s (rfl | rfl | rfl | rfl) <;> assumption, ?_⟩
    show wordS es [symv a, symv b, turn (symv a), turn (symv c)] = ((wordM (fK es j) [a]).then (wordM (fK es j) [b])).then ((wordM (fK es j) [a]).back.then (wordM (fK es j) [c]).back)
    rw [w1, w1, w1, wordS_cons, wordS_cons, wordS_cons, wordS_cons, n1, then_one, ea, eb, ta, tc, then_assoc]
end
end
section
open PySem PySem.W PySem.Calls PyProof.Rows PySem.Builtin PySem.Builtin.Str
structure Par where
  (hue step : Nat)
  (sh va : Nat → Nat)
structure Par.Ok (P : Par) : Prop where
  s : ∀ i, i < 2 → Q4 (P.sh i)
  v : ∀ i, i < 2 → Q4 (P.va i)
/-- the colour of the end at a number -/
noncomputable def Par.hueAt (P : Par) (n : Int) : Nat := (((P.hue : Int) + P.step * n) % 64).toNat
noncomputable def endC (P : Par) (n : Int) : C3 := colF (P.hueAt n) (P.sh (n % 2).toNat) (P.va (n % 2).toNat)
theorem par2 (n : Int) : (n % 2).toNat < 2 := by omega
theorem hueAt_lt (P : Par) (n : Int) : P.hueAt n < 64 := by unfold Par.hueAt; omega
theorem end_cross {P : Par} (h : P.Ok) (n u : Int) : crossF (endC P n) (endC P u) = some (endC P (2 * n - u)) := by
  unfold endC
  rw [col_cross (hueAt_lt P n) (h.s _ (par2 n)) (h.v _ (par2 n)) (hueAt_lt P u) (h.s _ (par2 u)) (h.v _ (par2 u))]
  have e1 : ((2 * n - u) % 2).toNat = (u % 2).toNat := by omega
  have e2 : (2 * P.hueAt n + 64 - P.hueAt u) % 64 = P.hueAt (2 * n - u) := by
    unfold Par.hueAt
    have e : (P.step : Int) * (2 * n - u) = 2 * (P.step * n) - P.step * u := by rw [Int.mul_sub, Int.mul_left_comm]
    rw [e]
    generalize (P.step : Int) * n = x
    generalize (P.step : Int) * u = y
    omega
  rw [e1, e2]
noncomputable def E4m (P : Par) (m : M6) : E4 := ⟨endC P m.b, endC P (m.b + m.d), endC P (m.b - m.f), endC P (m.b + m.d - m.f)⟩
theorem turn_syms {L : Nat} (hL : L ≤ 3) {s : Int} (h : s ∈ syms L) : turn s ∈ syms L := by
  match L, hL with
  | 0, _ | 1, _ | 2, _ | 3, _ =>
    simp only [syms, List.take, List.mem_cons, List.not_mem_nil, or_false] at h
    first
      | (rcases h with rfl | rfl | rfl | rfl <;> decide)
      | (rcases h with rfl | rfl | rfl | rfl | rfl | rfl <;> decide)
      | (rcases h with rfl | rfl | rfl | rfl | rfl | rfl | rfl | rfl <;> decide)
      | (rcases h with rfl | rfl | rfl | rfl | rfl | rfl | rfl | rfl | rfl | rfl <;> decide)
theorem undo_syms {L : Nat} (hL : L ≤ 3) {ws : List Int} (h : ∀ s ∈ ws, s ∈ syms L) : ∀ s ∈ undo ws, s ∈ syms L := fun s hs => by
  obtain ⟨x, hx, rfl⟩ := List.mem_map.mp hs
  exact turn_syms hL (h x (List.mem_reverse.mp hx))
/-- a symbol is a step or a letter -/
theorem sym_cases {L : Nat} (hL : L ≤ 3) {s : Int} (h : s ∈ syms L) : (s = 14 ∨ s = 15 ∨ s = 20 ∨ s = 21) ∨ ∃ i : Nat, i < 2 * L ∧ s = 256 + (i : Int) := by
  match L, hL with
  | 0, _ | 1, _ | 2, _ | 3, _ =>
    simp only [syms, List.take, List.mem_cons, List.not_mem_nil, or_false] at h
    first
      | (rcases h with rfl | rfl | rfl | rfl <;> simp)
      | (rcases h with rfl | rfl | rfl | rfl | rfl | rfl <;> first | (left; simp; done) | exact .inr ⟨0, by decide, rfl⟩ | exact .inr ⟨1, by decide, rfl⟩)
      | (rcases h with rfl | rfl | rfl | rfl | rfl | rfl | rfl | rfl <;> first | (left; simp; done) | exact .inr ⟨0, by decide, rfl⟩ | exact .inr ⟨1, by decide, rfl⟩ | exact .inr ⟨2, by decide, rfl⟩ | exact .inr ⟨3, by decide, rfl⟩)
      | (rcases h with rfl | rfl | rfl | rfl | rfl | rfl | rfl | rfl | rfl | rfl <;> first | (left; simp; done) | exact .inr ⟨0, by decide, rfl⟩ | exact .inr ⟨1, by decide, rfl⟩ | exact .inr ⟨2, by decide, rfl⟩ | exact .inr ⟨3, by decide, rfl⟩ | exact .inr ⟨4, by decide, rfl⟩ | exact .inr ⟨5, by decide, rfl⟩)
theorem let_char {i : Nat} (h : i < 6) : letOf (256 + (i : Int)) = ch1 (symc (256 + (i : Int))) ∧ symc (256 + (i : Int)) ∈ names6 ∧ lowc (symc (256 + (i : Int))) = 97 + i / 2 ∧ symc (256 + (i : Int)) = (if i % 2 = 1 then 65 + i / 2 else 97 + i / 2) := by
  match i, h with
  | 0, _ | 1, _ | 2, _ | 3, _ | 4, _ | 5, _ => exact ⟨by decide +kernel, by decide, by decide, by decide⟩
noncomputable def findE (es : List Ent) (j : Nat) : Option Ent := es.find? fun p => lowc p.nm == 97 + j
noncomputable def figS (es : List Ent) (j : Nat) : List Int := match findE es j with
  | some e => figL e.fm e.a e.b e.c
  | none => []
noncomputable def txtE (es : List Ent) (j : Nat) : Str := match findE es j with
  | some e => e.txt
  | none => Str.ofString ""
theorem fig_len (es : List Ent) (j : Nat) : (figS es j).length ≤ 1000 := by
  unfold figS
  split
  · rename_i e _
    obtain ⟨nm, fm, a, b, c⟩ := e
    rcases fm with _ | _ | _ | _ | n <;> simp [figL]
  · simp
section
variable {prog : Program} {w : World} {es : List Ent}
theorem figS_ok (hok : AllOk es) (hlv : AllLv es) {j : Nat} (hj : j < 3) : (∀ s ∈ figS es j, s ∈ syms j) ∧ wordS es (figS es j) = figM es (fK es j) (97 + j) ∧ Fun (KF w.params) prog w 241 3 [.d (.str (txtE es j))] (.lst ((figS es j).map .int)) := by
  have hp : partsAt es (97 + j) = match findE es j with | some e => e.parts | none => [Str.ofString ""] := rfl
  unfold figM
  rw [hp]
  unfold figS txtE
  cases q : findE es j with
  | none =>
    refine ⟨(fun s hs => by cases hs), ?_, ?_⟩
    · show M6.one = wordM (fK es j) (Str.ofString "").cps.toList
      rw [show (Str.ofString "").cps.toList = [] by decide]; rfl
    · have nil : flatOk [] = true := (Bool.and_eq_true_iff.mp (Bool.and_eq_true_iff.mp k5).1).2
      exact flat_fun (prog := prog) (w := w) (n := 1) nil (Nat.le_of_ble_eq_true rfl)
  | some e =>
    have hm := List.mem_of_find?_eq_some q
    have hn : lowc e.nm = 97 + j := by simpa using List.find?_some q
    have ho := hok e hm
    have hl : ∀ c ∈ [e.a, e.b, e.c], c ∈ chs j := by
      have := hlv e hm
      unfold Ent.Lv at this
      rwa [hn, Nat.add_sub_cancel_left] at this
    obtain ⟨f1, f2⟩ := fig_word hlv hj hl ho.f
    exact ⟨f1, f2, fig_fun ho.a ho.b ho.c ho.f⟩
theorem sM_letter {i : Nat} (h : i < 6) : sM es (256 + (i : Int)) = if i % 2 = 1 then (figM es (fK es (i / 2)) (97 + i / 2)).back else figM es (fK es (i / 2)) (97 + i / 2) := by
  obtain ⟨_, _, _, e⟩ := let_char h
  have j3 : i / 2 < 3 := by omega
  have h1 : 97 + i / 2 ∈ chs (i / 2 + 1) ∧ 65 + i / 2 ∈ chs (i / 2 + 1) := by
    generalize i / 2 = j at j3
    match j, j3 with
    | 0, _ => decide
    | 1, _ => decide
    | 2, _ => decide
  show fK es 3 (symc (256 + (i : Int))) = _
  rw [e]
  split
  · rw [fK_top es (i := i / 2 + 1) (by omega) h1.2]
    show (if 65 + i / 2 = 97 + i / 2 then _ else if 65 + i / 2 = 65 + i / 2 then _ else _) = _
    rw [if_neg (by omega), if_pos rfl]
  · rw [fK_top es (i := i / 2 + 1) (by omega) h1.1]
    show (if 97 + i / 2 = 97 + i / 2 then _ else _) = _
    rw [if_pos rfl]
theorem opM {c : Nat} (h : c ∈ chs 0) : fK es 3 c = f0M c := fK_top es (i := 0) (by decide) h
theorem step_ok {P : Par} (hP : P.Ok) (hok : AllOk es) (hlv : AllLv es) {x dx l : Addr} {L n : Nat} (hL : L ≤ 2) (hn : 3 ≤ n + 1)
    (ih : ∀ ws : List Int, (∀ s ∈ ws, s ∈ syms L) → ∀ m, Fun (KF w.params) prog w 255 (n + 1) [.d (.lst (ws.map .int)), .book 215 x dx l ((es.map Ent.pair).map pairD), .d (E4m P m).d] (E4m P (m.then (wordS es ws))).d)
    {s : Int} (hs : s ∈ syms (L + 1)) (M : M6) : StepC prog w x dx l (es.map Ent.pair) n s (E4m P M) (E4m P (M.then (sM es s))) := by
  rcases sym_cases (by omega) hs with hs | ⟨i, hi, rfl⟩
  · obtain ⟨a, b, c, d, e, f⟩ := M
    rcases hs with rfl | rfl | rfl | rfl
    · have e1 : sM es 14 = ⟨0, 0, 1, -1, 0, 1⟩ := opM (es := es) (c := 43) (by decide)
      have := StepC.plus (prog := prog) (w := w) (x := x) (dx := dx) (l := l) (prs := es.map Ent.pair) (n := n) (e := E4m P ⟨a, b, c, d, e, f⟩) (end_cross hP (b + d - f) (b + d))
      have q : E4m P (M6.then ⟨a, b, c, d, e, f⟩ (sM es 14)) = ⟨endC P b, endC P (b + d - f), endC P (b - f), endC P (2 * (b + d - f) - (b + d))⟩ := by
        rw [e1]
        simp only [E4m, M6.then, E4.mk.injEq]
        refine ⟨?_, ?_, ?_, ?_⟩ <;> congr 1 <;> omega
      rw [q]; exact this
    · have e1 : sM es 15 = ⟨0, 0, 1, 1, 0, 1⟩ := opM (es := es) (c := 45) (by decide)
      have := StepC.minus (prog := prog) (w := w) (x := x) (dx := dx) (l := l) (prs := es.map Ent.pair) (n := n) (e := E4m P ⟨a, b, c, d, e, f⟩) (end_cross hP (b + d) (b + d - f))
      have q : E4m P (M6.then ⟨a, b, c, d, e, f⟩ (sM es 15)) = ⟨endC P b, endC P (2 * (b + d) - (b + d - f)), endC P (b - f), endC P (b + d)⟩ := by
        rw [e1]
        simp only [E4m, M6.then, E4.mk.injEq]
        refine ⟨?_, ?_, ?_, ?_⟩ <;> congr 1 <;> omega
      rw [q]; exact this
    · have e1 : sM es 20 = ⟨1, 0, 0, -1, 1, 0⟩ := opM (es := es) (c := 60) (by decide)
      have := StepC.lt (prog := prog) (w := w) (x := x) (dx := dx) (l := l) (prs := es.map Ent.pair) (n := n) (e := E4m P ⟨a, b, c, d, e, f⟩)
      have q : E4m P (M6.then ⟨a, b, c, d, e, f⟩ (sM es 20)) = ⟨endC P (b + d), endC P (b + d - f), endC P b, endC P (b - f)⟩ := by
        rw [e1]
        simp only [E4m, M6.then, E4.mk.injEq]
        refine ⟨?_, ?_, ?_, ?_⟩ <;> congr 1 <;> omega
      rw [q]; exact this
    · have e1 : sM es 21 = ⟨0, -1, 0, 1, -1, 0⟩ := opM (es := es) (c := 62) (by decide)
      have := StepC.gt (prog := prog) (w := w) (x := x) (dx := dx) (l := l) (prs := es.map Ent.pair) (n := n) (e := E4m P ⟨a, b, c, d, e, f⟩)
      have q : E4m P (M6.then ⟨a, b, c, d, e, f⟩ (sM es 21)) = ⟨endC P (b - f), endC P b, endC P (b + d - f), endC P (b + d)⟩ := by
        rw [e1]
        simp only [E4m, M6.then, E4.mk.injEq]
        refine ⟨?_, ?_, ?_, ?_⟩ <;> congr 1 <;> omega
      rw [q]; exact this
  · have i6 : i < 6 := by omega
    have j3 : i / 2 < 3 := by omega
    have jL : i / 2 ≤ L := by omega
    obtain ⟨l1, l2, l3, l4⟩ := let_char i6
    obtain ⟨g1, g2, g3⟩ := figS_ok (prog := prog) (w := w) hok hlv j3
    have g1' : ∀ s ∈ figS es (i / 2), s ∈ syms L := fun s hs => syms_up jL (g1 s hs)
    have key := ih (if i % 2 = 1 then undo (figS es (i / 2)) else figS es (i / 2)) (by split; exact undo_syms (by omega) g1'; exact g1') M
    have e : wordS es (if i % 2 = 1 then undo (figS es (i / 2)) else figS es (i / 2)) = sM es (256 + (i : Int)) := by
      rw [sM_letter i6]
      split
      · rw [wordS_undo hlv (fun s hs => syms_up (by omega) (g1 s hs)), g2]
      · exact g2
    rw [e] at key
    refine StepC.sub (t := txtE es (i / 2)) (fig := figS es (i / 2)) i6 ?_ ?_ (fun_up g3 hn) (fig_len _ _) key
    · rw [l1, getB_pairs hok l2]
      rw [l3]
      unfold txtE findE
      cases es.find? (fun p => lowc p.nm == 97 + i / 2) <;> rfl
    · rw [l1, low_name l2]
      exact clean_name (low_low l2)
theorem danced_level {P : Par} (hP : P.Ok) (hok : AllOk es) (hlv : AllLv es) {x dx l : Addr} : ∀ L, L ≤ 3 → ∀ ws : List Int, (∀ s ∈ ws, s ∈ syms L) → ∀ m,
    Fun (KF w.params) prog w 255 (3 * L + 6) [.d (.lst (ws.map .int)), .book 215 x dx l ((es.map Ent.pair).map pairD), .d (E4m P m).d] (E4m P (m.then (wordS es ws))).d := by
  have hl : ∀ p ∈ es.map Ent.pair, tooLong (Txt.lower p.1).length = false := by
    intro p hp
    obtain ⟨e, hm, rfl⟩ := List.mem_map.mp hp
    exact (okn (hok e hm).n).ll
  have run : ∀ {n : Nat} {ws : List Int} (m : M6), (∀ s ∈ ws, ∀ M, StepC prog w x dx l (es.map Ent.pair) n s (E4m P M) (E4m P (M.then (sM es s)))) →
      Fun (KF w.params) prog w 255 (n + 3) [.d (.lst (ws.map .int)), .book 215 x dx l ((es.map Ent.pair).map pairD), .d (E4m P m).d] (E4m P (m.then (wordS es ws))).d := by
    intro n ws m hs
    have := danced_ok (prog := prog) (w := w) (x := x) (dx := dx) (l := l) (prs := es.map Ent.pair) (n := n) (ws := ws) (es := fun i => E4m P (m.then (wordS es (ws.take i)))) hl (fun i s e => ?_)
    · rw [List.take_length] at this
      have e0 : E4m P (m.then (wordS es (ws.take 0))) = E4m P m := by
        rw [List.take_zero]; exact congrArg _ (then_one m)
      rw [e0] at this
      exact this
    · have e1 : ws.take (i + 1) = ws.take i ++ [s] := by rw [List.take_add_one, e]; rfl
      have e2 : wordS es (ws.take (i + 1)) = (wordS es (ws.take i)).then (sM es s) := by
        rw [e1, wordS_append, wordS_cons es s []]; exact congrArg _ (then_one _)
      show StepC prog w x dx l (es.map Ent.pair) n s (E4m P (m.then (wordS es (ws.take i)))) (E4m P (m.then (wordS es (ws.take (i + 1)))))
      rw [e2, ← then_assoc]
      exact hs s (List.mem_of_getElem? e) _
  intro L
  induction L with
  | zero =>
    intro _ ws hw m
    have h1 : ∀ s ∈ ws, s ∈ syms 1 := fun s hs => syms_up (by omega) (hw s hs)
    -- no letters: any ih will do
    refine run (n := 3) m fun s hs M => ?_
    rcases sym_cases (by omega) (hw s hs) with q | ⟨i, hi, _⟩
    · have : s ∈ syms 0 := hw s hs
      obtain ⟨a, b, c, d, e, f⟩ := M
      rcases q with rfl | rfl | rfl | rfl
      · have e1 : sM es 14 = ⟨0, 0, 1, -1, 0, 1⟩ := opM (es := es) (c := 43) (by decide)
        have := StepC.plus (prog := prog) (w := w) (x := x) (dx := dx) (l := l) (prs := es.map Ent.pair) (n := 3) (e := E4m P ⟨a, b, c, d, e, f⟩) (end_cross hP (b + d - f) (b + d))
        have q : E4m P (M6.then ⟨a, b, c, d, e, f⟩ (sM es 14)) = ⟨endC P b, endC P (b + d - f), endC P (b - f), endC P (2 * (b + d - f) - (b + d))⟩ := by
          rw [e1]
          simp only [E4m, M6.then, E4.mk.injEq]
          refine ⟨?_, ?_, ?_, ?_⟩ <;> congr 1 <;> omega
        rw [q]; exact this
      · have e1 : sM es 15 = ⟨0, 0, 1, 1, 0, 1⟩ := opM (es := es) (c := 45) (by decide)
        have := StepC.minus (prog := prog) (w := w) (x := x) (dx := dx) (l := l) (prs := es.map Ent.pair) (n := 3) (e := E4m P ⟨a, b, c, d, e, f⟩) (end_cross hP (b + d) (b + d - f))
        have q : E4m P (M6.then ⟨a, b, c, d, e, f⟩ (sM es 15)) = ⟨endC P b, endC P (2 * (b + d) - (b + d - f)), endC P (b - f), endC P (b + d)⟩ := by
          rw [e1]
          simp only [E4m, M6.then, E4.mk.injEq]
          refine ⟨?_, ?_, ?_, ?_⟩ <;> congr 1 <;> omega
        rw [q]; exact this
      · have e1 : sM es 20 = ⟨1, 0, 0, -1, 1, 0⟩ := opM (es := es) (c := 60) (by decide)
        have := StepC.lt (prog := prog) (w := w) (x := x) (dx := dx) (l := l) (prs := es.map Ent.pair) (n := 3) (e := E4m P ⟨a, b, c, d, e, f⟩)
        have q : E4m P (M6.then ⟨a, b, c, d, e, f⟩ (sM es 20)) = ⟨endC P (b + d), endC P (b + d - f), endC P b, endC P (b - f)⟩ := by
          rw [e1]
          simp only [E4m, M6.then, E4.mk.injEq]
          refine ⟨?_, ?_, ?_, ?_⟩ <;> congr 1 <;> omega
        rw [q]; exact this
      · have e1 : sM es 21 = ⟨0, -1, 0, 1, -1, 0⟩ := opM (es := es) (c := 62) (by decide)
        have := StepC.gt (prog := prog) (w := w) (x := x) (dx := dx) (l := l) (prs := es.map Ent.pair) (n := 3) (e := E4m P ⟨a, b, c, d, e, f⟩)
        have q : E4m P (M6.then ⟨a, b, c, d, e, f⟩ (sM es 21)) = ⟨endC P (b - f), endC P b, endC P (b + d - f), endC P (b + d)⟩ := by
          rw [e1]
          simp only [E4m, M6.then, E4.mk.injEq]
          refine ⟨?_, ?_, ?_, ?_⟩ <;> congr 1 <;> omega
        rw [q]; exact this
    · omega
  | succ L ih =>
    intro hL ws hw m
    refine run (n := 3 * L + 6) m fun s hs M => ?_
    exact step_ok hP hok hlv (by omega) (by omega) (fun ws hw m => fun_up (ih (by omega) ws hw m) (by omega)) (hw s hs) M
end
end
section
open PySem PySem.W PySem.Calls PyProof.Rows PySem.Builtin PySem.Builtin.Str
section
variable {prog : Program} {w : World}
section
variable {prog : Program} {w : World}
theorem flts_eq {A : Around} {H : List Addr} {s : Shared} (nb : NB s.heap) {bs : List UInt64} (hb : ∀ b ∈ bs, okF b = true) {vs us : List Value} (x : Reps H s.heap vs (bs.map .flt)) (y : Reps H s.heap us (bs.map .flt)) :
    ∀ j (h1 : j < vs.toArray.size) (h2 : j < us.toArray.size), SeqAt.EqAt A s vs.toArray[j] us.toArray[j] true := fun j h1 h2 => by
  have g1 : vs[j]? = some vs.toArray[j] := by simp at h1; simp [h1]
  have g2 : us[j]? = some us.toArray[j] := by simp at h2; simp [h2]
  obtain ⟨d, e1, r1⟩ := x.get' g1
  obtain ⟨d', e2, r2⟩ := y.get' g2
  rw [e1] at e2; cases e2
  rw [List.getElem?_map] at e1
  obtain ⟨b, hm, rfl⟩ := Option.map_eq_some_iff.mp e1
  have hk := hb b (List.mem_of_getElem? hm)
  generalize vs.toArray[j] = v at *
  generalize us.toArray[j] = u at *
  cases r1 with | flt _ t z =>
  cases r2 with | flt _ t' z' =>
  exact eqAt_flt z z' hk nb
noncomputable abbrev fT (bs : List UInt64) : D := .tup (bs.map .flt)
theorem tup_eq {A : Around} {H : List Addr} {s : Shared} (hu : A.units < cLine) (nb : NB s.heap) {bs : List UInt64} (hb : ∀ b ∈ bs, okF b = true) {v u : Value} (x : Rep H s.heap v (fT bs)) (y : Rep H s.heap u (fT bs)) : SeqAt.EqAt A s v u true := by
  cases x with | @tup a vs _ h1 h2 h3 =>
  cases y with | @tup b us _ h4 h5 h6 =>
  by_cases hab : a = b
  · subst hab; exact SeqAt.EqAt.same _
  have hl : vs.toArray.size = us.toArray.size := by simp [h3.length, h6.length]
  have := SeqAt.RcAt.tuples (A := A) (e := fun _ => true) h2 h5 hu (flts_eq nb hb h3 h6)
  rw [hl] at this
  simp only [beq_self_eq_true, Bool.and_true] at this
  rw [show (List.range (min us.toArray.size us.toArray.size)).all (fun _ => true) = true by simp] at this
  exact SeqAt.EqAt.of_refs hab this
theorem tups_eq {A : Around} {H : List Addr} {s : Shared} (hu : A.units + 100 < cLine) (nb : NB s.heap) {bss : List (List UInt64)} (hb : ∀ bs ∈ bss, ∀ b ∈ bs, okF b = true) {v u : Value} (x : Rep H s.heap v (.lst (bss.map fT))) (y : Rep H s.heap u (.lst (bss.map fT)))
    {Q : Value → Shared → Prop} {E : Value → Shared → Prop} (q : Q (.bool true) s) : wpAny (model prog w) A (compareOp .Eq v u) Q E s := by
  cases x with | @lst a vs _ h1 h2 h3 =>
  cases y with | @lst b us _ h4 h5 h6 =>
  have hl : vs.toArray.size = us.toArray.size := by simp [h3.length, h6.length]
  refine SeqAt.eq_listAt (e := fun _ => true) h2 h5 hl (by omega) (fun j g1 g2 => ?_) (by rw [show (List.range vs.toArray.size).all (fun _ => true) = true by simp]; exact q)
  have g1' : vs[j]? = some vs.toArray[j] := by simp at g1; simp [g1]
  have g2' : us[j]? = some us.toArray[j] := by simp at g2; simp [g2]
  obtain ⟨d, e1, r1⟩ := h3.get' g1'
  obtain ⟨d', e2, r2⟩ := h6.get' g2'
  rw [e1] at e2; cases e2
  rw [List.getElem?_map] at e1
  obtain ⟨bs, hm, rfl⟩ := Option.map_eq_some_iff.mp e1
  exact tup_eq (by show A.units + 1 < cLine; omega) nb (hb bs (List.mem_of_getElem? hm)) r1 r2
theorem ev_eqtups {K : Frag} {σ : Sig} {c : Cx} (k : CK K σ c) {l r : Expr} {pos : Pos} {bss : List (List UInt64)} (hm : behindInMarks .Eq r = false) (hb : ∀ bs ∈ bss, ∀ b ∈ bs, okF b = true) (hl : EvD c l (.lst (bss.map fT))) (hr : EvD c r (.lst (bss.map fT))) :
    EvD c (.Compare l [.Eq] [r] pos) (.bool true) :=
  fun s hI => Ylds.of (fun zs Q E q => wpAny_Compare1 ((hl s hI).out _ E fun va h₁ t₁ k₁ ra => (hr _ (c.mono hI k₁)).out _ E fun vb h₂ t₂ k₂ rb => by
    have G := k.gd _ (c.mono (c.mono hI k₁) k₂)
    have hu := c.hu
    exact tups_eq hu G.nb hb (ra.mono k₂) rb (q _ _ _ (k₁.trans k₂) (.bool true))) hm)
end
end
end
section
open PySem PySem.W PySem.Calls PyProof.Rows PySem.Builtin PySem.Builtin.Str
section
variable {prog : Program} {w : World}
theorem strOk_of {x : Str} (h : ∀ c ∈ x.cps.toList, c ∈ goodc) : PyData.canLay0 (.str x) = true := by
  have e : PyData.canLay0 (.str x) = x.cps.all (· < 0x110000) := by rw [PyData.canLay0]; rfl
  rw [e, ← Array.all_toList, List.all_eq_true]
  intro c hc
  have : ∀ c ∈ goodc, c < 0x110000 := by decide
  exact decide_eq_true (this c (h c hc))
theorem pairs_toP : ∀ {prs : List (Str × Str)}, (∀ p ∈ prs, PyData.canLay0 (.str p.1) = true ∧ PyData.canLay0 (.str p.2) = true) → ∃ ps, D.toPs (prs.map pairD) = some ps ∧ PyData.canLayAll0 ps = true ∧ PyData.depthAll ps ≤ 1
  | [], _ => ⟨[], by rw [List.map_nil, D.toPs], by rw [PyData.canLayAll0], by rw [PyData.depthAll]; omega⟩
  | p :: prs, h => by
    obtain ⟨ps, e1, e2, e3⟩ := pairs_toP (prs := prs) fun q hq => h q (List.mem_cons_of_mem _ hq)
    obtain ⟨h1, h2⟩ := h p List.mem_cons_self
    refine ⟨.tuple [.str p.1, .str p.2] :: ps, ?_, ?_, ?_⟩
    · have e : D.toP (pairD p) = some (.tuple [.str p.1, .str p.2]) := by
        show D.toP (.tup [.str p.1, .str p.2]) = _
        simp [D.toP, D.toPs]
      rw [List.map_cons, D.toPs, e, e1]
    · rw [PyData.canLayAll0, e2, PyData.canLay0, PyData.canLayAll0, PyData.canLayAll0, PyData.canLayAll0, h1, h2]; rfl
    · have e : PyData.depth (.tuple [.str p.1, .str p.2]) = 1 := by simp [PyData.depth, PyData.depthAll]
      rw [PyData.depthAll, e]; omega
theorem pairs_ne {prs : List (Str × Str)} (h : ∀ p ∈ prs, PyData.canLay0 (.str p.1) = true ∧ PyData.canLay0 (.str p.2) = true) : cmpD .NotEq (.lst (prs.map pairD)) (.lst (prs.map pairD)) = some false := by
  obtain ⟨ps, e1, e2, e3⟩ := pairs_toP h
  have e : D.toP (.lst (prs.map pairD)) = some (.list ps) := by rw [D.toP, e1]; rfl
  have lay : PyData.canLay0 (.list ps) = true := by rw [PyData.canLay0]; exact e2
  have sh : SeqAt.shaped (.list ps) = true := by
    unfold SeqAt.shaped
    rw [lay, PyData.depth, decide_eq_true (by omega)]; rfl
  show seqCmp .NotEq _ _ = _
  unfold seqCmp
  rw [e]
  simp only [sh, Bool.and_self, if_true]
  rw [SeqAt.eqv_refl _ lay]; rfl
theorem es_lay {es : List Ent} (h : AllOk es) : ∀ p ∈ es.map Ent.pair, PyData.canLay0 (.str p.1) = true ∧ PyData.canLay0 (.str p.2) = true := by
  intro p hp
  obtain ⟨e, he, rfl⟩ := List.mem_map.mp hp
  refine ⟨strOk_of (x := ch1 e.nm) fun c hc => ?_, strOk_of (x := e.txt) (txt_good (h e he))⟩
  have hc : c ∈ [e.nm] := hc
  rw [List.mem_singleton.mp hc]
  exact good_name (h e he).n
theorem div_ok {k m : Nat} (hm : 0 < m) (h : Float64.isInf (Float64.ofFrac false k m) = false) : binD .Div (.int (k : Int)) (.int (m : Int)) = some (.flt (Float64.ofFrac false k m)) := by
  show intBin .Div (k : Int) (m : Int) = _
  have e1 : decide ((k : Int) < 0) = false := decide_eq_false (by omega)
  have e2 : decide ((m : Int) < 0) = false := decide_eq_false (by omega)
  have e3 : ((m : Int) == 0) = false := beq_eq_false_iff_ne.mpr (by omega)
  have e4 : (k : Int).natAbs = k := rfl
  have e5 : (m : Int).natAbs = m := rfl
  show (if ((m : Int) == 0 || Float64.isInf (Float64.ofFrac (decide ((k : Int) < 0) != decide ((m : Int) < 0)) (k : Int).natAbs (m : Int).natAbs)) = true then none else some (D.flt (Float64.ofFrac (decide ((k : Int) < 0) != decide ((m : Int) < 0)) (k : Int).natAbs (m : Int).natAbs))) = _
  rw [e1, e2, e4, e5, e3]
  show (if (false || Float64.isInf (Float64.ofFrac false k m)) = true then none else some (D.flt (Float64.ofFrac false k m))) = _
  rw [h]; rfl
theorem div64 {k : Nat} (h : k < 64) : binD .Div (.int (k : Int)) (.int 64) = some (.flt (q64 k)) := div_ok (m := 64) (by decide) (ok_q64 h).2
theorem div4 {k : Nat} (h : k < 5) : binD .Div (.int (k : Int)) (.int 4) = some (.flt (q4 k)) := div_ok (m := 4) (by decide) (ok_q4 h).2
theorem mod64 (P : Par) (n : Int) : Int.fmod ((P.hue : Int) + P.step * n) 64 = (P.hueAt n : Int) := by
  unfold Par.hueAt
  rw [Int.fmod_eq_emod_of_nonneg _ (by omega)]; omega
/-- the law's cells -/
noncomputable def cellsOf (xs : List Int) : List Nat := [5280, 8417, 33094] ++ (xs.take 4).map fun x => (x % 61440).toNat
theorem cells_lt (xs : List Int) : ∀ n ∈ cellsOf xs, n < 61440 := by
  intro n hn
  rcases List.mem_append.mp hn with h | h
  · have : ∀ n ∈ [5280, 8417, 33094], n < 61440 := by decide
    exact this n h
  · obtain ⟨x, _, rfl⟩ := List.mem_map.mp h
    omega
theorem cells_len (xs : List Int) : (cellsOf xs).length ≤ 7 := by
  unfold cellsOf
  rw [List.length_append, List.length_map, List.length_take]
  simp; omega
noncomputable def modD : D → D
  | .int x => .int (Int.fmod x 61440)
  | _ => .none
theorem cells_d (xs : List Int) : ([.int 5280, .int 8417, .int 33094] : List D) ++ ((((xs.map D.int).take 4).filter fun _ => true).map modD) = (cellsOf xs).map (fun n : Nat => D.int (n : Int)) := by
  unfold cellsOf
  rw [filter_true, ← List.map_take, List.map_append, List.map_map, List.map_map]
  congr 1
  apply List.map_congr_left
  intro x _
  show D.int (Int.fmod x 61440) = D.int (((x % 61440).toNat : Nat) : Int)
  rw [Int.fmod_eq_emod_of_nonneg _ (by omega)]
  congr 1; omega
noncomputable def esAt (xs : List Int) (i : Nat) : List Ent := ((cellsOf xs).take i).foldl deedE []
theorem es_step {xs : List Int} {i n : Nat} (h : (cellsOf xs)[i]? = some n) : esAt xs (i + 1) = deedE (esAt xs i) n := by
  unfold esAt
  rw [List.take_add_one, h]
  simp [List.foldl_append]
theorem es_inv (xs : List Int) : ∀ i, AllOk (esAt xs i) ∧ AllLv (esAt xs i) ∧ (esAt xs i).length ≤ i
  | 0 => ⟨(fun e he => by cases he), (fun e he => by cases he), by simp [esAt]⟩
  | i + 1 => by
    obtain ⟨h1, h2, h3⟩ := es_inv xs i
    cases h : (cellsOf xs)[i]? with
    | none =>
      have e : esAt xs (i + 1) = esAt xs i := by
        unfold esAt
        rw [List.take_add_one, h]; simp
      rw [e]; exact ⟨h1, h2, by omega⟩
    | some n =>
      rw [es_step h]
      have hn := cells_lt xs n (List.mem_of_getElem? h)
      exact ⟨deedE_ok h1 hn, deedE_lv h2 hn, Nat.le_trans (deedE_len _ _) (by omega)⟩
/-- the colours' numbers by the cells' sum -/
noncomputable def parOf (T : Nat) : Par := ⟨T % 64, 1 + T / 64 % 63, fun i => if i = 0 then T / 5 % 4 + 1 else T / 20 % 4 + 1, fun i => if i = 0 then T / 80 % 4 + 1 else (T / 80 + 1 + T / 320 % 3) % 4 + 1⟩
noncomputable def F3p (P : Par) (n : Int) : D := fT [q64 (P.hueAt n), q4 (P.sh (n % 2).toNat), q4 (P.va (n % 2).toNat)]
noncomputable def backD : D → D
  | .tup [.flt r, .flt g, .flt b] => F3 ((rgbF r g b).getD (0, 0, 0))
  | _ => .none
noncomputable def dueD (P : Par) : D → D
  | .int n => F3p P n
  | _ => .none
theorem back_end {P : Par} (h : P.Ok) (n : Int) : backD (F3 (endC P n)) = F3p P n ∧ rgbF (endC P n).1 (endC P n).2.1 (endC P n).2.2 = some (q64 (P.hueAt n), q4 (P.sh (n % 2).toNat), q4 (P.va (n % 2).toNat)) := by
  have e := col_rgb (hueAt_lt P n) (h.s _ (par2 n)) (h.v _ (par2 n))
  refine ⟨?_, e⟩
  show F3 ((rgbF (endC P n).1 (endC P n).2.1 (endC P n).2.2).getD (0, 0, 0)) = _
  unfold endC
  rw [e]; rfl
end
end
section
open PySem PySem.W PySem.Calls PyProof.Rows PySem.Builtin PySem.Builtin.Str
section
variable {prog : Program} {w : World}
section
variable {c : Cx}
/-- a call of a def, whose second argument is known but for an address -/
theorem ev_callE {x : Str} {np pos : Pos} {e1 e2 : Expr} {v1 : V} {W : Addr → V} {f : Addr} {R : Heap → Value → Prop} (hf : EvR c (.Name x np) (fun _ r => r = .ref f))
    (hfn : ∀ h, c.I h → ∃ o fd, h.get? f = some o ∧ o.data = .func fd) (s1 : starEach [e1, e2] c.env = (false, eval e1 c.env) :: starEach [e2] c.env) (s2 : starEach [e2] c.env = (false, eval e2 c.env) :: starEach [] c.env)
    (a1 : EvV c e1 v1) (a2 : EvR c e2 (fun h v => ∃ a, RV c.H h v (W a)))
    (hc : ∀ a s rs, c.I s.heap → RVs c.H s.heap rs [v1, W a] → Ylds c.M c.A (call (.ref f) rs) R s) : EvR c (.Call (.Name x np) [e1, e2] [] pos) R := by
  intro s hI
  refine Ylds.of (fun zs Q E k => Call_Name rfl ((hf s hI).out _ E fun fv h₁ t₁ k₁ r => ?_))
  subst r
  obtain ⟨o, fd, ho, hd⟩ := hfn _ (c.mono hI k₁)
  have I1 := c.mono hI k₁
  refine callWith_def hd (args_cons ((a1 { s with heap := h₁, toks := t₁.1 } I1).out _ E fun v h₂ t₂ k₂ r => args_cons ((a2 { s with heap := h₂, toks := t₂.1 } (c.mono I1 k₂)).out _ E fun v' h₃ t₃ k₃ r' => args_nil ⟨(k₂.trans k₃) _ _ ho, ?_⟩) s2) s1) s1
  obtain ⟨a, r'⟩ := r'
  exact (hc a { s with heap := h₃, toks := t₃.1 } [v, v'] (c.mono (c.mono I1 k₂) k₃) (.cons (r.mono k₃) (.cons r' .nil))).out Q E fun r h₄ t₄ k₄ p => k r h₄ t₄ (((k₁.trans k₂).trans k₃).trans k₄) p
end
theorem sum_cast : ∀ l : List Nat, (l.map (fun n : Nat => (n : Int))).sum = ((l.sum : Nat) : Int)
  | [] => rfl
  | n :: l => by rw [List.map_cons, List.sum_cons, sum_cast l, List.sum_cons]; omega
theorem fdm (T a b : Nat) : Int.fmod (Int.fdiv (T : Int) (a : Int)) (b : Int) = ((T / a % b : Nat) : Int) := by rw [fd, fm]
theorem par_ok (T : Nat) : (parOf T).Ok where
  s := fun i _ => by unfold parOf; dsimp only; split <;> constructor <;> omega
  v := fun i _ => by unfold parOf; dsimp only; split <;> constructor <;> omega
section
variable {es : List Ent}
theorem abc_word : wordS es [256, 259, 260] = wordM (fK es 3) [97, 66, 99] := rfl
theorem abc_bd (h : AllLv es) : (wordM (fK es 3) [97, 66, 99]).Bd 939775 := (word_bd (k := 313256) (cs := [97, 66, 99]) fun c hc => fK_bd h 3 c (by
  have : ∀ c ∈ [97, 66, 99], c ∈ chs 3 := by decide
  exact this c hc)).up (by decide)
end
end
end
section
open PySem PySem.W PySem.Calls PyProof.Rows PySem.Builtin PySem.Builtin.Str
section
variable {prog : Program} {w : World}
theorem item2 (f : Nat → Nat) (n : Int) : itemD (.lst [.flt (q4 (f 0)), .flt (q4 (f 1))]) (Int.fmod n 2) = some (.flt (q4 (f (n % 2).toNat))) := by
  rw [Int.fmod_eq_emod_of_nonneg _ (by omega)]
  have : n % 2 = 0 ∨ n % 2 = 1 := by omega
  rcases this with e | e <;> rw [e] <;> rfl
theorem places_sm {M : M6} (h : M.Bd 939775) : [M.b, M.b + M.d, M.b - M.f, M.b + M.d - M.f].length = 4 ∧ ∀ n ∈ [M.b, M.b + M.d, M.b - M.f, M.b + M.d - M.f], SmallM n := by
  refine ⟨rfl, fun n hn => SmallM.of_lt (939775 + 2) ?_ (by decide)⟩
  have h1 := h.b
  have h2 := h.d
  have h3 := h.f
  rw [Nat.pow_add]
  generalize 2 ^ 939775 = N at *
  simp only [List.mem_cons, List.not_mem_nil, or_false] at hn
  have e : (2 : Nat) ^ 2 = 4 := rfl
  rw [e]
  rcases hn with rfl | rfl | rfl | rfl <;> omega
noncomputable def itemD' : D → D
  | .tup [.str n, .lst ps] => .tup [.str n, ((joinD (Str.ofString "'") ps).map D.str).getD .none]
  | _ => .none
theorem item_ent (e : Ent) : itemD' e.d = pairD e.pair := by
  show D.tup [.str (ch1 e.nm), ((joinD (Str.ofString "'") (e.parts.map .str)).map D.str).getD .none] = _
  rw [join_parts]; rfl
section
variable {prog : Program} {w : World}
theorem law_ok {A : Around} {H : List Addr} {s : Shared} {rs : List Value} {xs : List Int} (hx : xs.length ≤ 63) (hh : A.handled = none) (hd : A.depth + 20 ≤ 900) (hu : A.units + 3 * 20 + 100 < cLine) (G : Gd (KF w.params) s.heap) (hk : HOK H s.heap)
    (hr : RVs H s.heap rs [.d (.lst (xs.map .int))]) : Ylds (model prog w) A (call (.ref 286) rs) (fun h v => Rep H h v (.bool true)) s := by
  have hb : bindArgs fd286 ⟨rs, []⟩ = pure ((["script"] : List Str).zip rs) := by cases hr with | cons _ hr => cases hr; kernel_rfl
  refine fn_enterZ (o := o286) (fd := fd286) (xs := ["script"]) (N := fun _ => False) hr rfl hh (by omega) (by omega) G hk rfl rfl (by kernel_rfl) rfl rfl rfl rfl rfl rfl rfl hb (by decide) (by decide) ?_ (fun h ⟨_, f⟩ => f.elim)
  have hsq : seqMax = 100000 := rfl
  have hd' : A.depth + 20 ≤ 900 := hd
  have hu' : A.units + 3 * 20 + 100 < cLine := hu
  have hcl := cells_len xs
  refine' xs_assignD (d := .lst ((cellsOf xs).map (fun n : Nat => D.int (n : Int)))) rfl (.inl rfl) (fun h hk k => ev_cast (ev_bin (ev_list (.cons rfl ev_int (.cons rfl ev_int (.cons rfl ev_int .nil))) ?a1) (ev_comp (tp := false) (hid := false) (ds := (xs.map D.int).take 4) (fun _ => true) modD (evIt_data (ev_upto_lst (i := 4) (by decide) (ev_nmD k rfl rfl rfl) ev_int ?a2) (.inl rfl)) ?c1 ?c2 ?c3 ?c4 ?c5 ?c6 ?c7 ?c8) (lst_add ?a3)) (congrArg D.lst (cells_d xs)))
    (xs_newbook (F := frm prog w A fd286 s.heap.objs.size 286 hh _ _ _ _) ?n1 ?n2 rfl rfl (.inl rfl) rfl fun a dx l fr nl => ?b)
  case n1 => show A.depth + 1 + 3 ≤ 900; omega
  case n2 => show A.units + 3 + 3 * 4 + 100 < cLine; omega
  case a1 => exact Nat.le_of_ble_eq_true rfl
  case a2 => rw [List.length_map]; omega
  case a3 => rw [List.length_map, filter_true, List.length_take, List.length_map]; simp; omega
  case c1 => rfl
  case c2 => decide
  case c3 => rfl
  case c4 => decide
  case c5 => exact fun _ => rfl
  case c6 => rw [List.length_take, List.length_map]; omega
  case c7 => exact fun C H d hd => tgt_name rfl rfl
  case c8 =>
    intro C H' hb h3 m d hd hI kp tr hk' hn b
    obtain ⟨x, hxm, rfl⟩ := List.mem_map.mp (List.mem_of_mem_take hd)
    refine' ⟨.inl ⟨rfl, rfl⟩, fun _ => ev_with (k.inner (σ₁ := [(Str.ofString "x", .d (.int x))]) (σ₂ := []) hI kp tr hk' rfl hn b ?l4 ?l5 ?l6) fun k' => ev_bin (ev_nmD k' rfl rfl rfl) ev_int rfl⟩
    case l4 => rfl
    case l5 => exact ⟨rfl, trivial⟩
    case l6 => trivial
  case b =>
  refine' xs_assignD (d := .lst []) rfl (.inl rfl) (fun h hk k => ev_list .nil ?a1) (xs_for (ds := (cellsOf xs).map (fun n : Nat => D.int (n : Int))) (tp := false) (hid := false)
    (σs := fun i => [("book", .book 215 a dx l (((esAt xs i).map Ent.pair).map pairD)), ("pairs", .d (.lst ((esAt xs i).map Ent.d))), ("cells", .d (.lst ((cellsOf xs).map (fun n : Nat => D.int (n : Int)))))]) (Inv := fun _ => True) (bd := fun d => [("cell", .d d)]) (fun h hk k => evIt_data (ev_nmD k rfl rfl rfl) (.inl rfl)) ?b3 ?b4 trivial ?b5 ?b6 (by intro h; cases h) ?b7 fun _ => ?b8)
  case a1 => exact Nat.le_of_ble_eq_true rfl
  case b3 => exact fun _ => rfl
  case b4 => exact .cons rfl (.cons rfl (.cons rfl .nil))
  case b5 => exact fun i y v e => FpLe.get (τ := [("book", .book 215 a dx l (((esAt xs i).map Ent.pair).map pairD)), ("pairs", .d (.lst ((esAt xs i).map Ent.d))), ("cells", .d (.lst ((cellsOf xs).map (fun n : Nat => D.int (n : Int)))))]) ⟨.inr ⟨"book", .book 215 a dx l [], rfl, rfl⟩, .inl rfl, .inl rfl, trivial⟩ e
  case b6 => exact fun d hd => tgf_name (.inl rfl)
  case b7 =>
    intro I i d hi _
    rw [List.getElem?_map] at hi
    obtain ⟨n, hn, rfl⟩ := Option.map_eq_some_iff.mp hi
    obtain ⟨i1, i2, i3⟩ := es_inv xs i
    have il : i < (cellsOf xs).length := (List.getElem?_eq_some_iff.mp hn).1
    have est := es_step hn
    refine' xs_assignM (x := "book") (ds' := ((deedE (esAt xs i) n).map Ent.pair).map pairD) (d := .lst ((deedE (esAt xs i) n).map Ent.d)) (σ' := [("cells", .d (.lst ((cellsOf xs).map (fun n : Nat => D.int (n : Int)))))]) rfl List.mem_cons_self (fun h hk k => .cons rfl (ev_nm k rfl rfl rfl) (.cons rfl (ev_nm k rfl rfl rfl) (.cons rfl (ev_nm k rfl rfl rfl) .nil))) rfl rfl rfl rfl rfl
      ?d1 (.cons rfl .nil) (fp_none (by simp [V.fp])) (.inl rfl) rfl (xs_nil ⟨?d2, trivial⟩)
    case d1 => exact deed_ok hh (by show A.depth + 1 + 6 ≤ 900; omega) (by show A.units + 3 + 3 * 6 + 100 < cLine; omega) (List.mem_cons_of_mem _ (List.mem_cons_of_mem _ List.mem_cons_self)) i1 (cells_lt xs n (List.mem_of_getElem? hn)) (by omega)
    case d2 => rw [est]; exact .cons rfl (.cons rfl (.cons rfl .nil))
  case b8 =>
  obtain ⟨hok, hlv, hel⟩ := es_inv xs ((cellsOf xs).map (fun n : Nat => D.int (n : Int))).length
  rw [List.length_map] at hok hlv hel ⊢
  generalize esAt xs (cellsOf xs).length = es at hok hlv hel ⊢
  refine' xs_if_skip (fun h hk k => et_cmp (a := .lst ((es.map Ent.pair).map pairD)) (b := .lst ((es.map Ent.pair).map pairD)) rfl (ev_methB0 (pl := _) k (ev_nm k rfl rfl rfl) rfl ?e1 ?e2 ?e3 ?e4 rfl fun s hI q => items_ok hh (by show A.depth + 1 + 1 ≤ 900; omega) (by show A.units + 3 + 3 * 1 + 100 < cLine; omega) (k.gd _ hI) (hk.mono hI) q ?e5) (ev_cast (ev_comp (tp := true) (hid := false) (ds := es.map Ent.d) (fun _ => true) itemD' (evIt_data (ev_nmD k rfl rfl rfl) (.inl rfl)) ?c1 ?c2 ?c3 ?c4 ?c5 ?c6 ?c7 ?c8) ?e6) (pairs_ne (es_lay hok))) ?f
  case e1 => kernel_rfl
  case e2 => kernel_rfl
  case e3 => kernel_rfl
  case e4 => kernel_rfl
  case e5 => rw [List.length_map, List.length_map]; omega
  case e6 => rw [filter_true, List.map_map, List.map_map]; exact congrArg D.lst (List.map_congr_left fun e _ => item_ent e)
  case c1 => rfl
  case c2 => decide
  case c3 => rfl
  case c4 => decide
  case c5 => exact fun _ => rfl
  case c6 => rw [List.length_map]; omega
  case c7 =>
    intro C H d hd
    obtain ⟨e, he, rfl⟩ := List.mem_map.mp hd
    exact tgt_pair hh rfl rfl (by decide) rfl
  case c8 =>
    intro C H' hb h3 m d hd hI kp tr hk' hn b
    obtain ⟨e, he, rfl⟩ := List.mem_map.mp hd
    refine' ⟨.inl ⟨rfl, rfl⟩, fun _ => ev_with (k.inner (σ₁ := [(Str.ofString "parts", .d (.lst (e.parts.map .str))), (Str.ofString "name", .d (.str (ch1 e.nm)))].reverse) (σ₂ := []) hI kp tr hk' rfl hn b ?l4 ?l5 ?l6) fun k' => ev_cast (ev_tuple (.cons rfl (ev_nmD k' rfl rfl rfl) (.cons rfl (ev_join rfl rfl rfl ev_str (ev_nmD k' rfl rfl rfl) (join_parts e)) .nil)) ?t) (item_ent e).symm⟩
    case l4 => rfl
    case l5 => exact ⟨rfl, rfl, trivial⟩
    case l6 => trivial
    case t => exact Nat.le_of_ble_eq_true rfl
  case f =>
  obtain ⟨T, hT⟩ : ∃ T, T = (cellsOf xs).sum := ⟨_, rfl⟩
  obtain ⟨P, hPe⟩ : ∃ P, P = parOf T := ⟨_, rfl⟩
  have hP : P.Ok := by rw [hPe]; exact par_ok T
  obtain ⟨M, hM⟩ : ∃ M, M = wordM (fK es 3) [97, 66, 99] := ⟨_, rfl⟩
  have hbd : M.Bd 939775 := by rw [hM]; exact abc_bd hlv
  have hpz : P.hue < 64 := by rw [hPe]; exact Nat.mod_lt _ (by decide)
  have q1 : Int.fmod (T : Int) 64 = ((P.hue : Nat) : Int) := by rw [hPe]; exact fm T 64
  have q2 : 1 + Int.fmod (Int.fdiv (T : Int) 64) 63 = ((P.step : Nat) : Int) := by
    have e : Int.fmod (Int.fdiv (T : Int) 64) 63 = _ := fdm T 64 63
    rw [hPe, e]; show (1 : Int) + ((T / 64 % 63 : Nat) : Int) = ((1 + T / 64 % 63 : Nat) : Int); omega
  have q3 : Int.fmod (Int.fdiv (T : Int) 5) 4 + 1 = ((P.sh 0 : Nat) : Int) := by
    have e : Int.fmod (Int.fdiv (T : Int) 5) 4 = _ := fdm T 5 4
    rw [hPe, e]; show ((T / 5 % 4 : Nat) : Int) + 1 = ((T / 5 % 4 + 1 : Nat) : Int); omega
  have q4' : Int.fmod (Int.fdiv (T : Int) 20) 4 + 1 = ((P.sh 1 : Nat) : Int) := by
    have e : Int.fmod (Int.fdiv (T : Int) 20) 4 = _ := fdm T 20 4
    rw [hPe, e]; show ((T / 20 % 4 : Nat) : Int) + 1 = ((T / 20 % 4 + 1 : Nat) : Int); omega
  have q5 : Int.fmod (Int.fdiv (T : Int) 80) 4 + 1 = ((P.va 0 : Nat) : Int) := by
    have e : Int.fmod (Int.fdiv (T : Int) 80) 4 = _ := fdm T 80 4
    rw [hPe, e]; show ((T / 80 % 4 : Nat) : Int) + 1 = ((T / 80 % 4 + 1 : Nat) : Int); omega
  have q6 : Int.fmod (Int.fdiv (T : Int) 80 + 1 + Int.fmod (Int.fdiv (T : Int) 320) 3) 4 + 1 = ((P.va 1 : Nat) : Int) := by
    have e : Int.fmod (Int.fdiv (T : Int) 320) 3 = _ := fdm T 320 3
    have e' : Int.fdiv (T : Int) 80 = ((T / 80 : Nat) : Int) := fd T 80
    have e2 : Int.fmod (((T / 80 + 1 + T / 320 % 3 : Nat)) : Int) 4 = _ := fm _ 4
    have e3 : ((T / 80 : Nat) : Int) + 1 + ((T / 320 % 3 : Nat) : Int) = ((T / 80 + 1 + T / 320 % 3 : Nat) : Int) := by omega
    rw [hPe, e, e', e3, e2]; show (((T / 80 + 1 + T / 320 % 3) % 4 : Nat) : Int) + 1 = (((T / 80 + 1 + T / 320 % 3) % 4 + 1 : Nat) : Int); omega
  have s0 := hP.s 0 (by decide)
  have s1 := hP.s 1 (by decide)
  have v0 := hP.v 0 (by decide)
  have v1 := hP.v 1 (by decide)
  have q7 : Int.fmod ((P.hue : Int) - (P.step : Int)) 64 = ((P.hueAt (-1) : Nat) : Int) := by
    rw [← mod64]; congr 1; omega
  have h0 : P.hueAt 0 = P.hue := by unfold Par.hueAt; omega
  have D3 : Fun (KF w.params) prog w 255 15 [.d (.lst [.int 256, .int 259, .int 260]), .book 215 a dx l ((es.map Ent.pair).map pairD), .d (.lst [F3 (endC P 0), F3 (endC P 0), F3 (endC P (-1)), F3 (endC P (-1))])] (E4m P M).d := by
    have := danced_level (prog := prog) (w := w) hP hok hlv (x := a) (dx := dx) (l := l) 3 (Nat.le_refl _) [256, 259, 260] (by decide) M6.one
    rw [one_then, abc_word, ← hM] at this
    exact this
  have S3 : Fun (KF w.params) prog w 241 3 [.d (.str (Str.ofString "aBc"))] (.lst [.int 256, .int 259, .int 260]) := by
    have nil : flatOk [97, 66, 99] = true := (Bool.and_eq_true_iff.mp k5).2
    exact flat_fun (prog := prog) (w := w) (n := 1) nil (Nat.le_of_ble_eq_true rfl)
  have c0 : hsvF (q64 P.hue) (q4 (P.sh 0)) (q4 (P.va 0)) = some (endC P 0) := by
    have := col_hsv hpz s0 v0
    rw [this]; show some (colF P.hue (P.sh 0) (P.va 0)) = some (colF (P.hueAt 0) (P.sh 0) (P.va 0)); rw [h0]
  have c1 : hsvF (q64 (P.hueAt (-1))) (q4 (P.sh 1)) (q4 (P.va 1)) = some (endC P (-1)) := col_hsv (hueAt_lt P (-1)) s1 v1
  refine' xs_assignD (x := "total") (d := .int (T : Int)) rfl (.inl rfl) (fun h hk k => ?t1) (xs_assignD (x := "hue") (d := .int (P.hue : Int)) rfl ?u1 (fun h hk k => ev_cast (ev_bin (ev_nmD k rfl rfl rfl) ev_int rfl) (congrArg D.int q1))
    (xs_assignD (x := "step") (d := .int (P.step : Int)) rfl ?u2 (fun h hk k => ev_cast (ev_bin ev_int (ev_bin (ev_bin (ev_nmD k rfl rfl rfl) ev_int rfl) ev_int rfl) rfl) (congrArg D.int q2)) ?g))
  case t1 =>
    have e : (cellsOf xs).map (fun n : Nat => D.int (n : Int)) = ((cellsOf xs).map (fun n : Nat => (n : Int))).map D.int := by rw [List.map_map]; rfl
    exact ev_cast (ev_sumof k ⟨rfl, rfl, by decide, rfl, rfl⟩ rfl (ev_cast (ev_nmD k rfl rfl rfl) (congrArg D.lst e))) (congrArg D.int (by rw [sum_cast, hT]))
  case u1 => exact .inr ⟨rfl, _, rfl⟩
  case u2 => exact .inr ⟨rfl, _, rfl⟩
  case g =>
  refine' xs_assignD (x := "shares") (d := .lst [.flt (q4 (P.sh 0)), .flt (q4 (P.sh 1))]) rfl ?u1 (fun h hk k => ev_list (.cons rfl (ev_bin (ev_cast (ev_bin (ev_bin (ev_bin (ev_nmD k rfl rfl rfl) ev_int rfl) ev_int rfl) ev_int rfl) (congrArg D.int q3)) ev_int (div4 ?z1)) (.cons rfl (ev_bin (ev_cast (ev_bin (ev_bin (ev_bin (ev_nmD k rfl rfl rfl) ev_int rfl) ev_int rfl) ev_int rfl) (congrArg D.int q4')) ev_int (div4 ?z2)) .nil)) ?z3)
    (xs_assignD (x := "values") (d := .lst [.flt (q4 (P.va 0)), .flt (q4 (P.va 1))]) rfl ?u2 (fun h hk k => ev_list (.cons rfl (ev_bin (ev_cast (ev_bin (ev_bin (ev_bin (ev_nmD k rfl rfl rfl) ev_int rfl) ev_int rfl) ev_int rfl) (congrArg D.int q5)) ev_int (div4 ?z4)) (.cons rfl (ev_bin (ev_cast (ev_bin (ev_bin (ev_bin (ev_bin (ev_bin (ev_nmD k rfl rfl rfl) ev_int rfl) ev_int rfl) (ev_bin (ev_bin (ev_nmD k rfl rfl rfl) ev_int rfl) ev_int rfl) rfl) ev_int rfl) ev_int rfl) (congrArg D.int q6)) ev_int (div4 ?z5)) .nil)) ?z6) ?g)
  case u1 => exact .inr ⟨rfl, _, rfl⟩
  case u2 => exact .inr ⟨rfl, _, rfl⟩
  case z1 => omega
  case z2 => omega
  case z4 => omega
  case z5 => omega
  case z3 => exact Nat.le_of_ble_eq_true rfl
  case z6 => exact Nat.le_of_ble_eq_true rfl
  case g =>
  refine' xs_assignD (x := "one") (d := F3 (endC P 0)) rfl (.inl rfl) (fun h hk k => ev_fnX k (hsv_ok c0) rfl rfl rfl rfl rfl (rm_of hd' hu' (by decide)) (.cons rfl (ev_toV (ev_bin (ev_nmD k rfl rfl rfl) ev_int (div64 hpz))) (.cons rfl (ev_toV (ev_index (i := 0) rfl (ev_nmD k rfl rfl rfl) ev_int rfl)) (.cons rfl (ev_toV (ev_index (i := 0) rfl (ev_nmD k rfl rfl rfl) ev_int rfl)) .nil))))
    (xs_assignD (x := "two") (d := F3 (endC P (-1))) rfl (.inl rfl) (fun h hk k => ev_fnX k (hsv_ok c1) rfl rfl rfl rfl rfl (rm_of hd' hu' (by decide)) (.cons rfl (ev_toV (ev_bin (ev_cast (ev_bin (ev_bin (ev_nmD k rfl rfl rfl) (ev_nmD k rfl rfl rfl) rfl) ev_int rfl) (congrArg D.int q7)) ev_int (div64 (hueAt_lt P (-1))))) (.cons rfl (ev_toV (ev_index (i := 1) rfl (ev_nmD k rfl rfl rfl) ev_int rfl)) (.cons rfl (ev_toV (ev_index (i := 1) rfl (ev_nmD k rfl rfl rfl) ev_int rfl)) .nil)))) 
    (xs_assignD (x := "ends") (d := (E4m P M).d) rfl (.inl rfl) (fun h hk k => ev_fnX k D3 rfl rfl rfl rfl rfl (rm_of hd' hu' (by decide)) (.cons rfl (ev_toV (ev_fnX k S3 rfl rfl rfl rfl rfl (rm_of hd' hu' (by decide)) (.cons rfl (ev_toV ev_str) .nil))) (.cons rfl (ev_nm k rfl rfl rfl) (.cons rfl (ev_toV (ev_list (.cons rfl (ev_nmD k rfl rfl rfl) (.cons rfl (ev_nmD k rfl rfl rfl) (.cons rfl (ev_nmD k rfl rfl rfl) (.cons rfl (ev_nmD k rfl rfl rfl) .nil)))) ?z1)) .nil)))) ?g))
  case z1 => exact Nat.le_of_ble_eq_true rfl
  case g =>
  have hz : es.length ≤ 100 := by omega
  have aB : ∀ c ∈ [97, 66, 99], c ∈ chs 3 := by decide
  have f1 : ∀ c ∈ [97, 66, 99], (kdsOf (fK es 3) (chs 3)).lookup (ch1 c) = some (fK es 3 c).tup ∧ (fK es 3 c).Sm := fun c hc => ⟨kds_look (aB c hc), (fK_bd hlv 3 c (aB c hc)).sm (by decide)⟩
  have f2 : ∀ n, (wordM (fK es 3) ([97, 66, 99].take n)).Sm := fun n => (word_bd (k := 313256) fun c hc => fK_bd hlv 3 c (aB c (List.mem_of_mem_take hc))).sm (by
    have : ([97, 66, 99].take n).length ≤ 3 := by rw [List.length_take]; exact Nat.min_le_right _ _
    have := Nat.mul_le_mul_right (313256 + 2) this
    omega)
  refine' xs_assignD (x := "whole") (d := M.tup) rfl (.inl rfl) (fun h hk k => ev_callE (W := fun a' => .dct prog w a' (kdsOf (fK es 3) (chs 3))) (ev_gl (v := .ref 276) k rfl rfl rfl) ?w1 rfl rfl (ev_toV ev_str) (ev_call (f := 281) (ev_gl (v := .ref 281) k rfl rfl rfl) ?w2 (.cons rfl (ev_nm k rfl rfl rfl) .nil) ?w3) ?w4) ?g
  case w1 => exact fun h hI => ⟨o276, fd276, (k.gd h hI).kin _ _ rfl, rfl⟩
  case w2 => exact fun h hI => ⟨o281, fd281, (k.gd h hI).kin _ _ rfl, rfl⟩
  case w3 => exact fun s rs hI q => known_ok hok hlv hz hh (by show A.depth + 1 + 4 ≤ 900; omega) (by show A.units + 3 + 3 * 4 + 100 < cLine; omega) (k.gd _ hI) (hk.mono hI) q
  case w4 =>
    intro a' s rs hI q
    rw [hM]
    exact word_ok (prog := prog) (w := w) (x := Str.ofString "aBc") (a := a') (kds := kdsOf (fK es 3) (chs 3)) (f := fK es 3) f1 f2 _ _ s rs hh (by show A.depth + 1 + 2 ≤ 900; omega) (by show A.units + 3 + 3 * 2 + 100 < cLine; omega) (k.gd _ hI) (hk.mono hI) q
  case g =>
  refine' xs_assignD (x := "q") (d := .int M.d) rfl (.inl rfl) (fun h hk k => ev_index (a := M.tup) (i := 3) rfl (ev_nmD k rfl rfl rfl) ev_int rfl) (xs_assignD (x := "p") (d := .int M.f) rfl (.inl rfl) (fun h hk k => ev_index (a := M.tup) (i := 5) rfl (ev_nmD k rfl rfl rfl) ev_int rfl)
    (xs_assignD (x := "places") (d := .lst ([M.b, M.b + M.d, M.b - M.f, M.b + M.d - M.f].map D.int)) rfl (.inl rfl) (fun h hk k => ev_list (.cons rfl (ev_index (a := M.tup) (i := 1) rfl (ev_nmD k rfl rfl rfl) ev_int rfl) (.cons rfl (ev_bin (ev_index (a := M.tup) (i := 1) rfl (ev_nmD k rfl rfl rfl) ev_int rfl) (ev_nmD k rfl rfl rfl) rfl)
      (.cons rfl (ev_bin (ev_index (a := M.tup) (i := 1) rfl (ev_nmD k rfl rfl rfl) ev_int rfl) (ev_nmD k rfl rfl rfl) rfl) (.cons rfl (ev_bin (ev_bin (ev_index (a := M.tup) (i := 1) rfl (ev_nmD k rfl rfl rfl) ev_int rfl) (ev_nmD k rfl rfl rfl) rfl) (ev_nmD k rfl rfl rfl) rfl) .nil)))) ?z1) ?g))
  case z1 => exact Nat.le_of_ble_eq_true rfl
  case g =>
  have hsm := places_sm hbd
  have hends : (E4m P M).d = .lst ([M.b, M.b + M.d, M.b - M.f, M.b + M.d - M.f].map fun n => F3 (endC P n)) := rfl
  rw [hends]
  generalize [M.b, M.b + M.d, M.b - M.f, M.b + M.d - M.f] = ns at hsm ⊢
  have hst : SmallM (P.step : Int) := SmallM.of_lt 64 (by show P.step < 2 ^ 64; rw [hPe]; show 1 + T / 64 % 63 < 2 ^ 64; omega) (by decide)
  refine' xs_comp (tp := false) (hid := false) (ds := ns.map D.int) (fun _ => true) (dueD P) rfl (fun h hk k => evIt_data (ev_nmD k rfl rfl rfl) (.inl rfl)) ?c1 ?c2 ?c3 ?c4 ?c5 ?c6 ?c7 (.inl rfl) ?c8 ?c9
  case c1 => rfl
  case c2 => decide
  case c3 => rfl
  case c4 => decide
  case c5 => exact fun _ => rfl
  case c6 => rw [List.length_map]; omega
  case c7 => exact fun C H d hd => tgt_name rfl rfl
  case c8 =>
    intro h hk k C H' hb h3 m d hd hI kp tr hk' hn b
    obtain ⟨n, hnm, rfl⟩ := List.mem_map.mp hd
    have hs := hsm.2 n hnm
    refine' ⟨.inl ⟨rfl, rfl⟩, fun _ => ev_with (k.inner (σ₁ := [(Str.ofString "n", .d (.int n))]) (σ₂ := [(Str.ofString "hue", .d (.int (P.hue : Int))), (Str.ofString "step", .d (.int (P.step : Int))), (Str.ofString "shares", .d (.lst [.flt (q4 (P.sh 0)), .flt (q4 (P.sh 1))])), (Str.ofString "values", .d (.lst [.flt (q4 (P.va 0)), .flt (q4 (P.va 1))]))]) hI kp tr hk' rfl hn b ?l4 ?l5 ?l6) fun k' =>
      ev_tuple (.cons rfl (ev_bin (ev_cast (ev_bin (ev_bin (ev_nmD k' rfl rfl rfl) (ev_bin (ev_nmD k' rfl rfl rfl) (ev_nmD k' rfl rfl rfl) (mul_side hst hs)) rfl) ev_int rfl) (congrArg D.int (mod64 P n))) ev_int (div64 (hueAt_lt P n)))
        (.cons rfl (ev_index (i := Int.fmod n 2) rfl (ev_nmD k' rfl rfl rfl) (ev_bin (ev_nmD k' rfl rfl rfl) ev_int rfl) (item2 P.sh n)) (.cons rfl (ev_index (i := Int.fmod n 2) rfl (ev_nmD k' rfl rfl rfl) (ev_bin (ev_nmD k' rfl rfl rfl) ev_int rfl) (item2 P.va n)) .nil))) ?t⟩
    case l4 => rfl
    case l5 => exact ⟨rfl, trivial⟩
    case l6 => exact ⟨⟨rfl, .inl rfl, .inl rfl, rfl⟩, ⟨rfl, .inl rfl, .inl rfl, rfl⟩, ⟨rfl, .inl rfl, .inl rfl, rfl⟩, ⟨rfl, .inl rfl, .inl rfl, rfl⟩, trivial⟩
    case t => exact Nat.le_of_ble_eq_true rfl
  case c9 =>
  refine' xs_retD (d := .bool true) (fun b hb => List.mem_cons_of_mem _ (List.mem_cons_of_mem _ hb)) (fun h hk k => ev_eqtups (bss := ns.map fun n => [q64 (P.hueAt n), q4 (P.sh (n % 2).toNat), q4 (P.va (n % 2).toNat)]) k rfl ?r1 (ev_cast (ev_comp (tp := false) (hid := false) (ds := ns.map fun n => F3 (endC P n)) (fun _ => true) backD (evIt_data (ev_nmD k rfl rfl rfl) (.inl rfl)) ?c1 ?c2 ?c3 ?c4 ?c5 ?c6 ?c7 ?c8) ?r2) (ev_cast (ev_nmD k rfl rfl rfl) ?r3)) rfl
  case r1 =>
    intro bs hbs b hb
    obtain ⟨n, _, rfl⟩ := List.mem_map.mp hbs
    have e1 := (ok_q64 (hueAt_lt P n)).1
    have z1 := hP.s _ (par2 n)
    have z2 := hP.v _ (par2 n)
    have e2 := (ok_q4 (i := P.sh (n % 2).toNat) (by omega)).1
    have e3 := (ok_q4 (i := P.va (n % 2).toNat) (by omega)).1
    simp only [List.mem_cons, List.not_mem_nil, or_false] at hb
    rcases hb with rfl | rfl | rfl <;> assumption
  case r2 => rw [filter_true, List.map_map, List.map_map]; exact congrArg D.lst (List.map_congr_left fun n _ => (back_end hP n).1)
  case r3 => rw [filter_true, List.map_map, List.map_map]; rfl
  case c1 => rfl
  case c2 => decide
  case c3 => rfl
  case c4 => decide
  case c5 => exact fun _ => rfl
  case c6 => rw [List.length_map]; omega
  case c7 => exact fun C H d hd => tgt_name rfl rfl
  case c8 =>
    intro C H' hb h3 m d hd hI kp tr hk' hn b
    obtain ⟨n, hnm, rfl⟩ := List.mem_map.mp hd
    refine' ⟨.inl ⟨rfl, rfl⟩, fun _ => ev_with (k.inner (σ₁ := [(Str.ofString "colour", .d (F3 (endC P n)))]) (σ₂ := []) hI kp tr hk' rfl hn b ?l4 ?l5 ?l6) fun k' => ev_cast (ev_fnX k' (rgb_ok (back_end hP n).2) rfl rfl rfl rfl rfl (rm_inn (n := 1) (rm_of (N := 20) hd' hu' (by decide)))
      (.cons rfl (ev_toV (ev_index (a := F3 (endC P n)) (i := 0) rfl (ev_nmD k' rfl rfl rfl) ev_int rfl)) (.cons rfl (ev_toV (ev_index (a := F3 (endC P n)) (i := 1) rfl (ev_nmD k' rfl rfl rfl) ev_int rfl)) (.cons rfl (ev_toV (ev_index (a := F3 (endC P n)) (i := 2) rfl (ev_nmD k' rfl rfl rfl) ev_int rfl)) .nil)))) (back_end hP n).1.symm⟩
    case l4 => rfl
    case l5 => exact ⟨rfl, trivial⟩
    case l6 => trivial
end
end
end
section
open PySem PySem.W PySem.Calls PyProof.Rows
theorem ints_laid {R : WRecords} {cl : Str → Option Addr} {h : Heap} : ∀ {ws : List WData} {vs : List Value} {as : List Addr}, (∀ d ∈ ws, ∃ i, d = .int i) → ReadsAllW R cl h vs ws as → ∃ xs : List Int, ws.length = xs.length ∧ Reps [] h vs (xs.map .int)
  | [], _, _, _, .nil => ⟨[], rfl, .nil⟩
  | d :: ws, _, _, hd, .cons r rs => by
    obtain ⟨xs, e, q⟩ := ints_laid (fun d h => hd d (List.mem_cons_of_mem _ h)) rs
    obtain ⟨i, rfl⟩ := hd d List.mem_cons_self
    cases r with | int _ t =>
    exact ⟨i :: xs, by simp [e], .cons (.int i t) q⟩
theorem list_laid {R : WRecords} {cl : Str → Option Addr} {h : Heap} {ws : List WData} {vs : List Value} {as : List Addr} (hd : ∀ d ∈ ws, ∃ i, d = .int i) (r : ReadsAllW R cl h vs [.list ws] as) : ∃ xs : List Int, ws.length = xs.length ∧ RVs [] h vs [.d (.lst (xs.map .int))] := by
  cases r with | cons r rs =>
  cases rs
  cases r with | @list a o is n _ _ e1 e2 e3 e4 =>
  obtain ⟨xs, e, q⟩ := ints_laid hd e4
  exact ⟨xs, e, .cons (show Rep [] h (.ref a) (.lst (xs.map .int)) from .lst (by simp) ⟨o, e1, e2, n, e3⟩ q) .nil⟩
theorem int_of {d : WData} (h : WShape.has [] d .int = true) : ∃ i, d = .int i := by
  cases d with
  | int i => exact ⟨i, rfl⟩
  | _ => simp [WShape.has, WShape.arms] at h
theorem items_of : ∀ {ws : List WData}, WShape.hasItems [] ws .int = true → ∀ d ∈ ws, ∃ i, d = .int i
  | [], _, _, hd => by cases hd
  | w :: ws, h, d, hd => by
    rw [WShape.hasItems] at h
    obtain ⟨h1, h2⟩ := Bool.and_eq_true_iff.mp h
    rcases List.mem_cons.mp hd with rfl | hd
    · exact int_of h1
    · exact items_of h2 d hd
theorem shape_of {args : List WData} (h : WShape.hasAll [] args [.list .int] = true) : ∃ ws, args = [.list ws] ∧ ∀ d ∈ ws, ∃ i, d = .int i := by
  obtain ⟨d, r, rfl, h1, h2⟩ := hasAllW_cons h
  cases r with
  | cons a b => simp [WShape.hasAll] at h2
  | nil =>
    cases d with
    | list ws =>
      refine ⟨ws, rfl, ?_⟩
      have e : WShape.hasItems [] ws .int = true := by simpa [WShape.has, WShape.arms] using h1
      exact items_of e
    | _ => simp [WShape.has, WShape.arms] at h1
theorem most_of {ws : List WData} (h : (PySem.Challenge.rw_wf0089_01.pre).holds [] { args := [.list ws] } = true) : ws.length ≤ 63 := by
  have e : (PySem.Challenge.rw_wf0089_01.pre) = WTm.and (.not (.lt (.lit (.int 63)) (.len (.arg 0)))) (.lit (.bool true)) := rfl
  rw [e] at h
  have h := (holds_andW h).1
  simp [WTm.holds, WTm.value] at h
  have e2 : less? (WData.int 63) (WData.int (ws.length : Int)) = some (decide ((63 : Int) < ws.length)) := rfl
  rw [e2] at h
  by_cases q : (63 : Int) < ws.length
  · rw [decide_eq_true q] at h; simp at h
  · omega
end
section
open PySem PySem.W PySem.Calls PyProof.Rows
noncomputable abbrev rowL : OpenRow := PySem.Challenge.rw_wf0089_01.row
theorem walk_law {w : World} {s₁ : Shared} {cl : Str → Option Addr} {mean : ExcName → Option Value} {args : List WData} {vs : List Value} {as : List Addr} (G : Gd (KF w.params) s₁.heap) (z : 0 < s₁.toks) (gens : s₁.gens = #[])
    (hp : rowL.claim.pre args = true) (rd : ReadsAllW [] cl s₁.heap vs args as) :
    wpAny (model rowL.prog w) callerA (PySem.call (.ref 286) vs) (fun v s' => GoodWG rowL.claim cl mean args s₁ (.ok (.ret v)) s') (fun e s' => GoodWG rowL.claim cl mean args s₁ (.error e) s') s₁ := by
  obtain ⟨p1, p2⟩ := pre_splitW (r := rowL.toRowW) hp
  obtain ⟨ws, rfl, hi⟩ := shape_of p1
  have hl := most_of p2
  obtain ⟨xs, e, rv⟩ := list_laid hi rd
  refine (law_ok (prog := rowL.prog) (w := w) (A := callerA) (H := []) (xs := xs) (by omega) rfl (by decide) (by decide) G (by intro b hb; cases hb) rv).out0 z _ _ fun v h' tk kp r => ?_
  cases r
  exact ⟨.inl ⟨.bool true, .bool true, [], rfl, fun _ => rfl,   .bool true, (by simp only [RowW.claim]; exact Bool.and_eq_true_iff.mpr ⟨by decide, by simp [rowL, OpenLaw.row, WTm.holds, WTm.value]; rw [show W.same (WData.bool true) (WData.bool true) = true from by simp [W.same]]⟩), fun _ => ⟨List.nodup_nil, fun a ha => by cases ha⟩⟩, .of_keep kp, rfl, .of_eq (gens)⟩
end
section
open PySem PySem.W PySem.Calls PyProof.Rows
section
noncomputable abbrev sT (x : String) (t : Nat) : Value := .str (Str.ofString x) t
noncomputable abbrev iT (n t : Nat) : Value := .int (Int.ofNat n) t
noncomputable def kv (P : Params) (x : String) (t : Nat) (v : Value) : DictEntry := ⟨PyData.keyHash P (Str.ofString x), .str (Str.ofString x) t, v⟩
noncomputable def fnP (n q : String) (st : Stmt) : FuncData := { name := Str.ofString n, qualname := Str.ofString q, params := fArgs st, body := .stmts (fBody st), scope := fScope st, globals := 0, closure := [], defaults := .none, kwdefaults := .none }
noncomputable def b0 (P : Params) : Obj := ⟨(.type "dict"), none, (.dict #[kv P "__name__" (nat_lit 1) (sT "builtins" (nat_lit 160)), kv P "__doc__" (nat_lit 2) (.builtin "builtins.__doc__:str#\x6fpaque"), kv P "__package__" (nat_lit 3) (.builtin "builtins.__package__:str#\x6fpaque"), kv P "__loader__" (nat_lit 4) (.builtin "builtins.__loader__:shared#\x6fpaque"), kv P "__spec__" (nat_lit 5) (.builtin "builtins.__spec__#\x6fpaque"), kv P "__build_class__" (nat_lit 6) (.builtin "__build_class__"), kv P "__import__" (nat_lit 7) (.builtin "__import__"), kv P "abs" (nat_lit 8) (.builtin "abs"), kv P "all" (nat_lit 9) (.builtin "all"), kv P "any" (nat_lit 10) (.builtin "any"), kv P "ascii" (nat_lit 11) (.builtin "ascii"), kv P "bin" (nat_lit 12) (.builtin "bin"), kv P "breakpoint" (nat_lit 13) (.builtin "breakpoint"), kv P "callable" (nat_lit 14) (.builtin "callable"), kv P "chr" (nat_lit 15) (.builtin "chr"), kv P "compile" (nat_lit 16) (.builtin "compile"), kv P "delattr" (nat_lit 17) (.builtin "delattr"), kv P "dir" (nat_lit 18) (.builtin "dir"), kv P "divmod" (nat_lit 19) (.builtin "divmod"), kv P "eval" (nat_lit 20) (.builtin "eval"), kv P "exec" (nat_lit 21) (.builtin "exec"), kv P "format" (nat_lit 22) (.builtin "format"), kv P "getattr" (nat_lit 23) (.builtin "getattr"), kv P "globals" (nat_lit 24) (.builtin "globals"), kv P "hasattr" (nat_lit 25) (.builtin "hasattr"), kv P "hash" (nat_lit 26) (.builtin "hash"), kv P "hex" (nat_lit 27) (.builtin "hex"), kv P "id" (nat_lit 28) (.builtin "id"), kv P "input" (nat_lit 29) (.builtin "input"), kv P "isinstance" (nat_lit 30) (.builtin "isinstance"), kv P "issubclass" (nat_lit 31) (.builtin "issubclass"), kv P "iter" (nat_lit 32) (.builtin "iter"), kv P "aiter" (nat_lit 33) (.builtin "aiter"), kv P "len" (nat_lit 34) (.builtin "len"), kv P "locals" (nat_lit 35) (.builtin "locals"), kv P "max" (nat_lit 36) (.builtin "max"), kv P "min" (nat_lit 37) (.builtin "min"), kv P "next" (nat_lit 38) (.builtin "next"), kv P "anext" (nat_lit 39) (.builtin "anext"), kv P "oct" (nat_lit 40) (.builtin "oct"), kv P "ord" (nat_lit 41) (.builtin "ord"), kv P "pow" (nat_lit 42) (.builtin "pow"), kv P "print" (nat_lit 43) (.builtin "print"), kv P "repr" (nat_lit 44) (.builtin "repr"), kv P "round" (nat_lit 45) (.builtin "round"), kv P "setattr" (nat_lit 46) (.builtin "setattr"), kv P "sorted" (nat_lit 47) (.builtin "sorted"), kv P "sum" (nat_lit 48) (.builtin "sum"), kv P "vars" (nat_lit 49) (.builtin "vars"), kv P "None" (nat_lit 50) .none, kv P "Ellipsis" (nat_lit 51) (Value.ellipsis), kv P "NotImplemented" (nat_lit 52) (Value.notImplemented), kv P "False" (nat_lit 53) (.bool false), kv P "True" (nat_lit 54) (.bool true), kv P "bool" (nat_lit 55) (.type "bool"), kv P "memoryview" (nat_lit 56) (.type "memoryview"), kv P "bytearray" (nat_lit 57) (.type "bytearray"), kv P "bytes" (nat_lit 58) (.type "bytes"), kv P "classmethod" (nat_lit 59) (.type "classmethod"), kv P "complex" (nat_lit 60) (.type "complex"), kv P "dict" (nat_lit 61) (.type "dict"), kv P "enumerate" (nat_lit 62) (.type "enumerate"), kv P "filter" (nat_lit 63) (.type "filter"), kv P "float" (nat_lit 64) (.type "float"), kv P "frozenset" (nat_lit 65) (.type "frozenset"), kv P "property" (nat_lit 66) (.type "property"), kv P "int" (nat_lit 67) (.type "int"), kv P "list" (nat_lit 68) (.type "list"), kv P "map" (nat_lit 69) (.type "map"), kv P "object" (nat_lit 70) (.type "object"), kv P "range" (nat_lit 71) (.type "range"), kv P "reversed" (nat_lit 72) (.type "reversed"), kv P "set" (nat_lit 73) (.type "set"), kv P "slice" (nat_lit 74) (.type "slice"), kv P "staticmethod" (nat_lit 75) (.type "staticmethod"), kv P "str" (nat_lit 76) (.type "str"), kv P "super" (nat_lit 77) (.type "super"), kv P "tuple" (nat_lit 78) (.type "tuple"), kv P "type" (nat_lit 79) (.type "type"), kv P "zip" (nat_lit 80) (.type "zip"), kv P "__debug__" (nat_lit 81) (.bool true), kv P "BaseException" (nat_lit 82) (.type "BaseException"), kv P "BaseExceptionGroup" (nat_lit 83) (.type "BaseExceptionGroup"), kv P "Exception" (nat_lit 84) (.type "Exception"), kv P "GeneratorExit" (nat_lit 85) (.type "GeneratorExit"), kv P "KeyboardInterrupt" (nat_lit 86) (.type "KeyboardInterrupt"), kv P "SystemExit" (nat_lit 87) (.type "SystemExit"), kv P "ArithmeticError" (nat_lit 88) (.type "ArithmeticError"), kv P "AssertionError" (nat_lit 89) (.type "AssertionError"), kv P "AttributeError" (nat_lit 90) (.type "AttributeError"), kv P "BufferError" (nat_lit 91) (.type "BufferError"), kv P "EOFError" (nat_lit 92) (.type "EOFError"), kv P "ImportError" (nat_lit 93) (.type "ImportError"), kv P "LookupError" (nat_lit 94) (.type "LookupError"), kv P "MemoryError" (nat_lit 95) (.type "MemoryError"), kv P "NameError" (nat_lit 96) (.type "NameError"), kv P "OSError" (nat_lit 97) (.type "OSError"), kv P "ReferenceError" (nat_lit 98) (.type "ReferenceError"), kv P "RuntimeError" (nat_lit 99) (.type "RuntimeError"), kv P "StopAsyncIteration" (nat_lit 100) (.type "StopAsyncIteration"), kv P "StopIteration" (nat_lit 101) (.type "StopIteration"), kv P "SyntaxError" (nat_lit 102) (.type "SyntaxError"), kv P "SystemError" (nat_lit 103) (.type "SystemError"), kv P "TypeError" (nat_lit 104) (.type "TypeError"), kv P "ValueError" (nat_lit 105) (.type "ValueError"), kv P "Warning" (nat_lit 106) (.type "Warning"), kv P "FloatingPointError" (nat_lit 107) (.type "FloatingPointError"), kv P "OverflowError" (nat_lit 108) (.type "OverflowError"), kv P "ZeroDivisionError" (nat_lit 109) (.type "ZeroDivisionError"), kv P "BytesWarning" (nat_lit 110) (.type "BytesWarning"), kv P "DeprecationWarning" (nat_lit 111) (.type "DeprecationWarning"), kv P "EncodingWarning" (nat_lit 112) (.type "EncodingWarning"), kv P "FutureWarning" (nat_lit 113) (.type "FutureWarning"), kv P "ImportWarning" (nat_lit 114) (.type "ImportWarning"), kv P "PendingDeprecationWarning" (nat_lit 115) (.type "PendingDeprecationWarning"), kv P "ResourceWarning" (nat_lit 116) (.type "ResourceWarning"), kv P "RuntimeWarning" (nat_lit 117) (.type "RuntimeWarning"), kv P "SyntaxWarning" (nat_lit 118) (.type "SyntaxWarning"), kv P "UnicodeWarning" (nat_lit 119) (.type "UnicodeWarning"), kv P "UserWarning" (nat_lit 120) (.type "UserWarning"), kv P "BlockingIOError" (nat_lit 121) (.type "BlockingIOError"), kv P "ChildProcessError" (nat_lit 122) (.type "ChildProcessError"), kv P "ConnectionError" (nat_lit 123) (.type "ConnectionError"), kv P "FileExistsError" (nat_lit 124) (.type "FileExistsError"), kv P "FileNotFoundError" (nat_lit 125) (.type "FileNotFoundError"), kv P "InterruptedError" (nat_lit 126) (.type "InterruptedError"), kv P "IsADirectoryError" (nat_lit 127) (.type "IsADirectoryError"), kv P "NotADirectoryError" (nat_lit 128) (.type "NotADirectoryError"), kv P "PermissionError" (nat_lit 129) (.type "PermissionError"), kv P "ProcessLookupError" (nat_lit 130) (.type "ProcessLookupError"), kv P "TimeoutError" (nat_lit 131) (.type "TimeoutError"), kv P "IndentationError" (nat_lit 132) (.type "IndentationError"), kv P "_IncompleteInputError" (nat_lit 133) (.type "_IncompleteInputError"), kv P "IndexError" (nat_lit 134) (.type "IndexError"), kv P "KeyError" (nat_lit 135) (.type "KeyError"), kv P "ModuleNotFoundError" (nat_lit 136) (.type "ModuleNotFoundError"), kv P "NotImplementedError" (nat_lit 137) (.type "NotImplementedError"), kv P "PythonFinalizationError" (nat_lit 138) (.type "PythonFinalizationError"), kv P "RecursionError" (nat_lit 139) (.type "RecursionError"), kv P "UnboundLocalError" (nat_lit 140) (.type "UnboundLocalError"), kv P "UnicodeError" (nat_lit 141) (.type "UnicodeError"), kv P "BrokenPipeError" (nat_lit 142) (.type "BrokenPipeError"), kv P "ConnectionAbortedError" (nat_lit 143) (.type "ConnectionAbortedError"), kv P "ConnectionRefusedError" (nat_lit 144) (.type "ConnectionRefusedError"), kv P "ConnectionResetError" (nat_lit 145) (.type "ConnectionResetError"), kv P "TabError" (nat_lit 146) (.type "TabError"), kv P "UnicodeDecodeError" (nat_lit 147) (.type "UnicodeDecodeError"), kv P "UnicodeEncodeError" (nat_lit 148) (.type "UnicodeEncodeError"), kv P "UnicodeTranslateError" (nat_lit 149) (.type "UnicodeTranslateError"), kv P "ExceptionGroup" (nat_lit 150) (.type "ExceptionGroup"), kv P "EnvironmentError" (nat_lit 151) (.type "OSError"), kv P "IOError" (nat_lit 152) (.type "OSError"), kv P "open" (nat_lit 153) (.builtin "open"), kv P "quit" (nat_lit 154) (.builtin "builtins.quit#\x6fpaque"), kv P "exit" (nat_lit 155) (.builtin "builtins.exit#\x6fpaque"), kv P "copyright" (nat_lit 156) (.builtin "builtins.copyright#\x6fpaque"), kv P "credits" (nat_lit 157) (.builtin "builtins.credits#\x6fpaque"), kv P "license" (nat_lit 158) (.builtin "builtins.license#\x6fpaque"), kv P "help" (nat_lit 159) (.builtin "builtins.help#\x6fpaque")] 159), #[]⟩
noncomputable def b1 (P : Params) : Obj := ⟨(.type "dict"), none, (.dict #[kv P "builtins" (nat_lit 162) (.ref (nat_lit 4)), kv P "__main__" (nat_lit 163) (.ref (nat_lit 5)), kv P "_sre" (nat_lit 244) (.ref (nat_lit 12))] 3), #[]⟩
noncomputable def b2 (P : Params) : Obj := ⟨.none, none, (.dict #[kv P "\x69mport.loaded._sre" (nat_lit 183) (.bool true), kv P "class._frozen_importlib.BuiltinImporter" (nat_lit 185) (.ref (nat_lit 14)), kv P "watched.\x69mport" (nat_lit 206) (.ref (nat_lit 18)), kv P "class._frozen_importlib.ModuleSpec" (nat_lit 216) (.ref (nat_lit 22)), kv P "sys.modules.booked-epoch" (nat_lit 245) (iT (nat_lit 3) (nat_lit 0)), kv P "\x69mport.later-laid._sre" (nat_lit 270) (.bool true), kv P "watched.library" (nat_lit 272) (.ref (nat_lit 27)), kv P "watched.library-objects" (nat_lit 0) (sT "\x0c" (nat_lit 0)), kv P "watched.library-deep._sre" (nat_lit 273) (sT "\x04\x00\x00\x0b\x04\x00\x00\x0b\x04\x00\x00\x03\x04\x00\x00\x0b\x08\x04dict\x02" (nat_lit 0))] 9), #[]⟩
noncomputable def b3 (P : Params) : Obj := ⟨(.type "dict"), none, (.dict #[kv P "__name__" (nat_lit 165) (sT "__main__" (nat_lit 164)), kv P "__doc__" (nat_lit 166) .none, kv P "__package__" (nat_lit 167) .none, kv P "__loader__" (nat_lit 168) (.builtin "__main__.__loader__#\x6fpaque"), kv P "__spec__" (nat_lit 169) .none, kv P "__annotations__" (nat_lit 170) (.ref (nat_lit 6)), kv P "__builtins__" (nat_lit 171) (.ref (nat_lit 4)), kv P "__file__" (nat_lit 173) (sT "/claim/cut.py" (nat_lit 172)), kv P "__cached__" (nat_lit 174) .none, kv P "_sre" (nat_lit 275) (.ref (nat_lit 12))] 10), #[]⟩
noncomputable def b4 : Obj := ⟨(.type "module"), (some (nat_lit 0)), .plain, #[]⟩
noncomputable def b5 : Obj := ⟨(.type "module"), (some (nat_lit 3)), .plain, #[]⟩
noncomputable def b6 : Obj := ⟨(.type "dict"), none, (.dict #[] 0), #[]⟩
noncomputable def b7 : Obj := ⟨(.type "tuple"), none, (.seq #[] 0), #[]⟩
noncomputable def b8 : Obj := ⟨.none, none, (.fields #[]), #[]⟩
noncomputable def b9 : Obj := ⟨(.type "code"), none, (.fields #[(sT "<module>" (nat_lit 176)), (sT "<module>" (nat_lit 177)), (sT "/claim/cut.py" (nat_lit 178)), (iT (nat_lit 1) (nat_lit 0)), (iT (nat_lit 0) (nat_lit 0)), (iT (nat_lit 0) (nat_lit 0)), (iT (nat_lit 0) (nat_lit 0)), (iT (nat_lit 0) (nat_lit 0)), (.ref (nat_lit 7)), (.bool false), (iT (nat_lit 175) (nat_lit 0)), (.ref (nat_lit 8)), .none, .none, .none, .none, (iT (nat_lit 179) (nat_lit 0)), (iT (nat_lit 1) (nat_lit 0)), (sT "/claim/cut.py" (nat_lit 180))]), #[]⟩
noncomputable def b10 : Obj := ⟨(.type "frame"), none, .plain, #[some (.ref (nat_lit 9)), some (.ref (nat_lit 3)), some (.ref (nat_lit 3)), none, some (sT "__main__" (nat_lit 164)), none, some (.ref (nat_lit 0))]⟩
noncomputable def b11 (P : Params) : Obj := ⟨(.type "dict"), none, (.dict #[kv P "__name__" (nat_lit 247) (sT "_sre" (nat_lit 246)), kv P "__doc__" (nat_lit 248) .none, kv P "__package__" (nat_lit 250) (sT "" (nat_lit 249)), kv P "__loader__" (nat_lit 251) (.builtin "off-the-table:_sre.__loader__:shared#\x6fpaque"), kv P "__spec__" (nat_lit 252) (.builtin "off-the-table:_sre.__spec__:shared#\x6fpaque"), kv P "compile" (nat_lit 253) (.builtin "_sre.compile"), kv P "template" (nat_lit 254) (.builtin "off-the-table:_sre.template:shared#\x6fpaque"), kv P "getcodesize" (nat_lit 255) (.builtin "off-the-table:_sre.getcodesize:shared#\x6fpaque"), kv P "ascii_iscased" (nat_lit 256) (.builtin "off-the-table:_sre.ascii_iscased:shared#\x6fpaque"), kv P "unicode_iscased" (nat_lit 257) (.builtin "off-the-table:_sre.unicode_iscased:shared#\x6fpaque"), kv P "ascii_tolower" (nat_lit 258) (.builtin "off-the-table:_sre.ascii_tolower:shared#\x6fpaque"), kv P "unicode_tolower" (nat_lit 259) (.builtin "off-the-table:_sre.unicode_tolower:shared#\x6fpaque"), kv P "MAGIC" (nat_lit 261) (iT (nat_lit 20230612) (nat_lit 260)), kv P "CODESIZE" (nat_lit 263) (iT (nat_lit 4) (nat_lit 262)), kv P "MAXREPEAT" (nat_lit 265) (iT (nat_lit 4294967295) (nat_lit 264)), kv P "MAXGROUPS" (nat_lit 267) (iT (nat_lit 1073741823) (nat_lit 266)), kv P "copyright" (nat_lit 269) (sT " SRE 2.2.2 Copyright (c) 1997-2002 by Secret Labs AB " (nat_lit 268))] 17), #[]⟩
noncomputable def b12 : Obj := ⟨(.type "module"), (some (nat_lit 11)), .plain, #[]⟩
noncomputable def b13 (P : Params) : Obj := ⟨(.type "dict"), none, (.dict #[kv P "__module__" (nat_lit 189) (sT "_frozen_importlib" (nat_lit 186)), kv P "__firstlineno__" (nat_lit 190) (iT (nat_lit 971) (nat_lit 187)), kv P "__doc__" (nat_lit 191) (.builtin "_frozen_importlib.BuiltinImporter.__doc__:str#\x6fpaque"), kv P "_ORIGIN" (nat_lit 192) (sT "built-in" (nat_lit 188)), kv P "find_spec" (nat_lit 193) (.builtin "_frozen_importlib.BuiltinImporter.find_spec#\x6fpaque"), kv P "create_module" (nat_lit 194) (.builtin "_frozen_importlib.BuiltinImporter.create_module#\x6fpaque"), kv P "exec_module" (nat_lit 195) (.builtin "_frozen_importlib.BuiltinImporter.exec_module#\x6fpaque"), kv P "get_code" (nat_lit 196) (.builtin "_frozen_importlib.BuiltinImporter.get_code#\x6fpaque"), kv P "get_source" (nat_lit 197) (.builtin "_frozen_importlib.BuiltinImporter.get_source#\x6fpaque"), kv P "is_package" (nat_lit 198) (.builtin "_frozen_importlib.BuiltinImporter.is_package#\x6fpaque"), kv P "load_module" (nat_lit 199) (.builtin "_frozen_importlib.BuiltinImporter.load_module#\x6fpaque"), kv P "__static_attributes__" (nat_lit 200) (.ref (nat_lit 15)), kv P "__dict__" (nat_lit 202) (.ref (nat_lit 16)), kv P "__weakref__" (nat_lit 204) (.ref (nat_lit 17))] 14), #[]⟩
noncomputable def b14 : Obj := ⟨(.type "type"), none, (.cls { name := Str.ofString "BuiltinImporter", bases := [Value.type "object"], mro := [Value.ref 14, Value.type "object"], ns := 13, qualname := Str.ofString "BuiltinImporter" }), #[]⟩
noncomputable def b15 : Obj := ⟨(.type "getset_descriptor"), none, (.fields #[(sT "__dict__" (nat_lit 201)), (.ref (nat_lit 14)), (.builtin "function.__dict__"), (.builtin "function.__dict__#set")]), #[]⟩
noncomputable def b16 : Obj := ⟨(.type "getset_descriptor"), none, (.fields #[(sT "__weakref__" (nat_lit 203)), (.ref (nat_lit 14)), (.builtin "ExceptionGroup.__weakref__"), .none]), #[]⟩
noncomputable def b17 : Obj := ⟨.none, none, (.seq #[(iT (nat_lit 13) (nat_lit 0)), (sT "\x06½\n__module__\x06º\x11_frozen_importlib\x06¾\x0f__firstlineno__\x04»\x00ϋ\x06¿\x07__doc__\t4_frozen_importlib.BuiltinImporter.__doc__:str#\x6fpaque\x06À\x07_ORIGIN\x06¼\x08built-in\x06Á\tfind_spec\t2_frozen_importlib.BuiltinImporter.find_spec#\x6fpaque\x06Â\x0dcreate_module\t6_frozen_importlib.BuiltinImporter.create_module#\x6fpaque\x06Ã\x0bexec_module\t4_frozen_importlib.BuiltinImporter.exec_module#\x6fpaque\x06Ä\x08get_code\t1_frozen_importlib.BuiltinImporter.get_code#\x6fpaque\x06Å\nget_source\t3_frozen_importlib.BuiltinImporter.get_source#\x6fpaque\x06Æ\nis_package\t3_frozen_importlib.BuiltinImporter.is_package#\x6fpaque\x06Ç\x0bload_module\t4_frozen_importlib.BuiltinImporter.load_module#\x6fpaque\x06È\x15__static_attributes__\x04\x00\x00\x0f\x06Ê\x08__dict__\x04\x00\x00\x10\x06Ì\x0b__weakref__\x04\x00\x00\x11" (nat_lit 0)), (.bool true), (.bool true), (sT "" (nat_lit 205)), (iT (nat_lit 21) (nat_lit 0)), (sT "\x06ã\n__module__\x06Ù\x11_frozen_importlib\x06ä\x0f__firstlineno__\x04Ú\x00Ȳ\x06å\x07__doc__\t/_frozen_importlib.ModuleSpec.__doc__:str#\x6fpaque\x06æ\x08__init__\t,_frozen_importlib.ModuleSpec.__init__#\x6fpaque\x06ç\x08__repr__\t,_frozen_importlib.ModuleSpec.__repr__#\x6fpaque\x06è\x06__eq__\t*_frozen_importlib.ModuleSpec.__eq__#\x6fpaque\x06é\x06cached\t*_frozen_importlib.ModuleSpec.cached#\x6fpaque\x06ê\x06parent\t*_frozen_importlib.ModuleSpec.parent#\x6fpaque\x06ë\x0chas_location\t0_frozen_importlib.ModuleSpec.has_location#\x6fpaque\x06ì\x15__static_attributes__\x04\x00\x00\x17\x06î\x08__dict__\x04\x00\x00\x18\x06ð\x0b__weakref__\x04\x00\x00\x19\x06ñ\x08__hash__\x00" (nat_lit 0)), (.bool true), (.bool true), (sT "" (nat_lit 242))] 1), #[]⟩
noncomputable def b18 : Obj := ⟨(.type "list"), none, (.seq #[] 0), #[]⟩
noncomputable def b19 (P : Params) : Obj := ⟨(.type "dict"), none, (.dict #[kv P "name" (nat_lit 208) (sT "_sre" (nat_lit 207)), kv P "loader" (nat_lit 209) (.ref (nat_lit 14)), kv P "origin" (nat_lit 210) (sT "built-in" (nat_lit 184)), kv P "loader_state" (nat_lit 211) .none, kv P "submodule_search_locations" (nat_lit 212) .none, kv P "_uninitialized_submodules" (nat_lit 213) (.ref (nat_lit 19)), kv P "_set_fileattr" (nat_lit 214) (.bool false), kv P "_cached" (nat_lit 215) .none, kv P "_initializing" (nat_lit 243) (.bool false)] 9), #[]⟩
noncomputable def b20 (P : Params) : Obj := ⟨(.type "dict"), none, (.dict #[kv P "__module__" (nat_lit 227) (sT "_frozen_importlib" (nat_lit 217)), kv P "__firstlineno__" (nat_lit 228) (iT (nat_lit 562) (nat_lit 218)), kv P "__doc__" (nat_lit 229) (.builtin "_frozen_importlib.ModuleSpec.__doc__:str#\x6fpaque"), kv P "__init__" (nat_lit 230) (.builtin "_frozen_importlib.ModuleSpec.__init__#\x6fpaque"), kv P "__repr__" (nat_lit 231) (.builtin "_frozen_importlib.ModuleSpec.__repr__#\x6fpaque"), kv P "__eq__" (nat_lit 232) (.builtin "_frozen_importlib.ModuleSpec.__eq__#\x6fpaque"), kv P "cached" (nat_lit 233) (.builtin "_frozen_importlib.ModuleSpec.cached#\x6fpaque"), kv P "parent" (nat_lit 234) (.builtin "_frozen_importlib.ModuleSpec.parent#\x6fpaque"), kv P "has_location" (nat_lit 235) (.builtin "_frozen_importlib.ModuleSpec.has_location#\x6fpaque"), kv P "__static_attributes__" (nat_lit 236) (.ref (nat_lit 23)), kv P "__dict__" (nat_lit 238) (.ref (nat_lit 24)), kv P "__weakref__" (nat_lit 240) (.ref (nat_lit 25)), kv P "__hash__" (nat_lit 241) .none] 13), #[]⟩
noncomputable def b21 : Obj := ⟨(.type "type"), none, (.cls { name := Str.ofString "ModuleSpec", bases := [Value.type "object"], mro := [Value.ref 22, Value.type "object"], ns := 21, qualname := Str.ofString "ModuleSpec" }), #[]⟩
noncomputable def b22 : Obj := ⟨(.type "tuple"), none, (.seq #[(sT "_cached" (nat_lit 219)), (sT "_set_fileattr" (nat_lit 220)), (sT "_uninitialized_submodules" (nat_lit 221)), (sT "loader" (nat_lit 222)), (sT "loader_state" (nat_lit 223)), (sT "name" (nat_lit 224)), (sT "origin" (nat_lit 225)), (sT "submodule_search_locations" (nat_lit 226))] 0), #[]⟩
noncomputable def b23 : Obj := ⟨(.type "getset_descriptor"), none, (.fields #[(sT "__dict__" (nat_lit 237)), (.ref (nat_lit 22)), (.builtin "function.__dict__"), (.builtin "function.__dict__#set")]), #[]⟩
noncomputable def b24 : Obj := ⟨(.type "getset_descriptor"), none, (.fields #[(sT "__weakref__" (nat_lit 239)), (.ref (nat_lit 22)), (.builtin "ExceptionGroup.__weakref__"), .none]), #[]⟩
noncomputable def b25 : Obj := ⟨(.ref (nat_lit 22)), (some (nat_lit 20)), .plain, #[]⟩
noncomputable def b26 : Obj := ⟨.none, none, (.seq #[(iT (nat_lit 11) (nat_lit 0)), (.str ⟨#[(nat_lit 6), (nat_lit 247), (nat_lit 8), (nat_lit 95), (nat_lit 95), (nat_lit 110), (nat_lit 97), (nat_lit 109), (nat_lit 101), (nat_lit 95), (nat_lit 95), (nat_lit 6), (nat_lit 246), (nat_lit 4), (nat_lit 95), (nat_lit 115), (nat_lit 114), (nat_lit 101), (nat_lit 6), (nat_lit 248), (nat_lit 7), (nat_lit 95), (nat_lit 95), (nat_lit 100), (nat_lit 111), (nat_lit 99), (nat_lit 95), (nat_lit 95), (nat_lit 0), (nat_lit 6), (nat_lit 250), (nat_lit 11), (nat_lit 95), (nat_lit 95), (nat_lit 112), (nat_lit 97), (nat_lit 99), (nat_lit 107), (nat_lit 97), (nat_lit 103), (nat_lit 101), (nat_lit 95), (nat_lit 95), (nat_lit 6), (nat_lit 249), (nat_lit 0), (nat_lit 6), (nat_lit 251), (nat_lit 10), (nat_lit 95), (nat_lit 95), (nat_lit 108), (nat_lit 111), (nat_lit 97), (nat_lit 100), (nat_lit 101), (nat_lit 114), (nat_lit 95), (nat_lit 95), (nat_lit 4), (nat_lit 0), (nat_lit 0), (nat_lit 14), (nat_lit 6), (nat_lit 252), (nat_lit 8), (nat_lit 95), (nat_lit 95), (nat_lit 115), (nat_lit 112), (nat_lit 101), (nat_lit 99), (nat_lit 95), (nat_lit 95), (nat_lit 4), (nat_lit 0), (nat_lit 0), (nat_lit 26), (nat_lit 6), (nat_lit 253), (nat_lit 7), (nat_lit 99), (nat_lit 111), (nat_lit 109), (nat_lit 112), (nat_lit 105), (nat_lit 108), (nat_lit 101), (nat_lit 9), (nat_lit 12), (nat_lit 95), (nat_lit 115), (nat_lit 114), (nat_lit 101), (nat_lit 46), (nat_lit 99), (nat_lit 111), (nat_lit 109), (nat_lit 112), (nat_lit 105), (nat_lit 108), (nat_lit 101), (nat_lit 6), (nat_lit 254), (nat_lit 8), (nat_lit 116), (nat_lit 101), (nat_lit 109), (nat_lit 112), (nat_lit 108), (nat_lit 97), (nat_lit 116), (nat_lit 101), (nat_lit 9), (nat_lit 13), (nat_lit 95), (nat_lit 115), (nat_lit 114), (nat_lit 101), (nat_lit 46), (nat_lit 116), (nat_lit 101), (nat_lit 109), (nat_lit 112), (nat_lit 108), (nat_lit 97), (nat_lit 116), (nat_lit 101), (nat_lit 6), (nat_lit 255), (nat_lit 11), (nat_lit 103), (nat_lit 101), (nat_lit 116), (nat_lit 99), (nat_lit 111), (nat_lit 100), (nat_lit 101), (nat_lit 115), (nat_lit 105), (nat_lit 122), (nat_lit 101), (nat_lit 9), (nat_lit 16), (nat_lit 95), (nat_lit 115), (nat_lit 114), (nat_lit 101), (nat_lit 46), (nat_lit 103), (nat_lit 101), (nat_lit 116), (nat_lit 99), (nat_lit 111), (nat_lit 100), (nat_lit 101), (nat_lit 115), (nat_lit 105), (nat_lit 122), (nat_lit 101), (nat_lit 6), (nat_lit 256), (nat_lit 13), (nat_lit 97), (nat_lit 115), (nat_lit 99), (nat_lit 105), (nat_lit 105), (nat_lit 95), (nat_lit 105), (nat_lit 115), (nat_lit 99), (nat_lit 97), (nat_lit 115), (nat_lit 101), (nat_lit 100), (nat_lit 9), (nat_lit 18), (nat_lit 95), (nat_lit 115), (nat_lit 114), (nat_lit 101), (nat_lit 46), (nat_lit 97), (nat_lit 115), (nat_lit 99), (nat_lit 105), (nat_lit 105), (nat_lit 95), (nat_lit 105), (nat_lit 115), (nat_lit 99), (nat_lit 97), (nat_lit 115), (nat_lit 101), (nat_lit 100), (nat_lit 6), (nat_lit 257), (nat_lit 15), (nat_lit 117), (nat_lit 110), (nat_lit 105), (nat_lit 99), (nat_lit 111), (nat_lit 100), (nat_lit 101), (nat_lit 95), (nat_lit 105), (nat_lit 115), (nat_lit 99), (nat_lit 97), (nat_lit 115), (nat_lit 101), (nat_lit 100), (nat_lit 9), (nat_lit 20), (nat_lit 95), (nat_lit 115), (nat_lit 114), (nat_lit 101), (nat_lit 46), (nat_lit 117), (nat_lit 110), (nat_lit 105), (nat_lit 99), (nat_lit 111), (nat_lit 100), (nat_lit 101), (nat_lit 95), (nat_lit 105), (nat_lit 115), (nat_lit 99), (nat_lit 97), (nat_lit 115), (nat_lit 101), (nat_lit 100), (nat_lit 6), (nat_lit 258), (nat_lit 13), (nat_lit 97), (nat_lit 115), (nat_lit 99), (nat_lit 105), (nat_lit 105), (nat_lit 95), (nat_lit 116), (nat_lit 111), (nat_lit 108), (nat_lit 111), (nat_lit 119), (nat_lit 101), (nat_lit 114), (nat_lit 9), (nat_lit 18), (nat_lit 95), (nat_lit 115), (nat_lit 114), (nat_lit 101), (nat_lit 46), (nat_lit 97), (nat_lit 115), (nat_lit 99), (nat_lit 105), (nat_lit 105), (nat_lit 95), (nat_lit 116), (nat_lit 111), (nat_lit 108), (nat_lit 111), (nat_lit 119), (nat_lit 101), (nat_lit 114), (nat_lit 6), (nat_lit 259), (nat_lit 15), (nat_lit 117), (nat_lit 110), (nat_lit 105), (nat_lit 99), (nat_lit 111), (nat_lit 100), (nat_lit 101), (nat_lit 95), (nat_lit 116), (nat_lit 111), (nat_lit 108), (nat_lit 111), (nat_lit 119), (nat_lit 101), (nat_lit 114), (nat_lit 9), (nat_lit 20), (nat_lit 95), (nat_lit 115), (nat_lit 114), (nat_lit 101), (nat_lit 46), (nat_lit 117), (nat_lit 110), (nat_lit 105), (nat_lit 99), (nat_lit 111), (nat_lit 100), (nat_lit 101), (nat_lit 95), (nat_lit 116), (nat_lit 111), (nat_lit 108), (nat_lit 111), (nat_lit 119), (nat_lit 101), (nat_lit 114), (nat_lit 6), (nat_lit 261), (nat_lit 5), (nat_lit 77), (nat_lit 65), (nat_lit 71), (nat_lit 73), (nat_lit 67), (nat_lit 4), (nat_lit 260), (nat_lit 0), (nat_lit 20230612), (nat_lit 6), (nat_lit 263), (nat_lit 8), (nat_lit 67), (nat_lit 79), (nat_lit 68), (nat_lit 69), (nat_lit 83), (nat_lit 73), (nat_lit 90), (nat_lit 69), (nat_lit 4), (nat_lit 262), (nat_lit 0), (nat_lit 4), (nat_lit 6), (nat_lit 265), (nat_lit 9), (nat_lit 77), (nat_lit 65), (nat_lit 88), (nat_lit 82), (nat_lit 69), (nat_lit 80), (nat_lit 69), (nat_lit 65), (nat_lit 84), (nat_lit 4), (nat_lit 264), (nat_lit 0), (nat_lit 4294967295), (nat_lit 6), (nat_lit 267), (nat_lit 9), (nat_lit 77), (nat_lit 65), (nat_lit 88), (nat_lit 71), (nat_lit 82), (nat_lit 79), (nat_lit 85), (nat_lit 80), (nat_lit 83), (nat_lit 4), (nat_lit 266), (nat_lit 0), (nat_lit 1073741823), (nat_lit 6), (nat_lit 269), (nat_lit 9), (nat_lit 99), (nat_lit 111), (nat_lit 112), (nat_lit 121), (nat_lit 114), (nat_lit 105), (nat_lit 103), (nat_lit 104), (nat_lit 116), (nat_lit 6), (nat_lit 268), (nat_lit 53), (nat_lit 32), (nat_lit 83), (nat_lit 82), (nat_lit 69), (nat_lit 32), (nat_lit 50), (nat_lit 46), (nat_lit 50), (nat_lit 46), (nat_lit 50), (nat_lit 32), (nat_lit 67), (nat_lit 111), (nat_lit 112), (nat_lit 121), (nat_lit 114), (nat_lit 105), (nat_lit 103), (nat_lit 104), (nat_lit 116), (nat_lit 32), (nat_lit 40), (nat_lit 99), (nat_lit 41), (nat_lit 32), (nat_lit 49), (nat_lit 57), (nat_lit 57), (nat_lit 55), (nat_lit 45), (nat_lit 50), (nat_lit 48), (nat_lit 48), (nat_lit 50), (nat_lit 32), (nat_lit 98), (nat_lit 121), (nat_lit 32), (nat_lit 83), (nat_lit 101), (nat_lit 99), (nat_lit 114), (nat_lit 101), (nat_lit 116), (nat_lit 32), (nat_lit 76), (nat_lit 97), (nat_lit 98), (nat_lit 115), (nat_lit 32), (nat_lit 65), (nat_lit 66), (nat_lit 32)]⟩ (nat_lit 0)), (.bool true), (.bool false), (sT "_sre" (nat_lit 271))] 0), #[]⟩
noncomputable def b27 : Obj := ⟨(.type "code"), none, (.fields #[(sT "<module>" (nat_lit 277)), (sT "<module>" (nat_lit 278)), (sT "/claim/cut.py" (nat_lit 279)), (iT (nat_lit 1) (nat_lit 0)), (iT (nat_lit 0) (nat_lit 0)), (iT (nat_lit 0) (nat_lit 0)), (iT (nat_lit 0) (nat_lit 0)), (iT (nat_lit 0) (nat_lit 0)), (.ref (nat_lit 28)), (.bool false), (iT (nat_lit 276) (nat_lit 0)), (.ref (nat_lit 29)), .none, .none, .none, .none, (iT (nat_lit 280) (nat_lit 0)), (iT (nat_lit 1) (nat_lit 0)), (sT "/claim/cut.py" (nat_lit 281))]), #[]⟩
noncomputable def b28 : Obj := ⟨(.type "frame"), none, .plain, #[some (.ref (nat_lit 30)), some (.ref (nat_lit 3)), some (.ref (nat_lit 3)), none, some (sT "__main__" (nat_lit 164)), none, some (.ref (nat_lit 0))]⟩
noncomputable def b29 (P : Params) : Obj := ⟨(.type "dict"), none, (.dict #[kv P "__name__" (nat_lit 165) (sT "cpy313.token" (nat_lit 335)), kv P "__doc__" (nat_lit 166) .none, kv P "__package__" (nat_lit 167) .none, kv P "__loader__" (nat_lit 168) (.builtin "__main__.__loader__#\x6fpaque"), kv P "__spec__" (nat_lit 169) .none, kv P "__annotations__" (nat_lit 170) (.ref (nat_lit 6)), kv P "__builtins__" (nat_lit 171) (.ref (nat_lit 4)), kv P "__file__" (nat_lit 173) (sT "/claim/cut.py" (nat_lit 172)), kv P "__cached__" (nat_lit 174) .none, kv P "_sre" (nat_lit 275) (.ref (nat_lit 12)), kv P "_wall" (nat_lit 288) (.ref (nat_lit 38)), kv P "TICK" (nat_lit 292) (sT "'" (nat_lit 291)), kv P "decode_rfc2231" (nat_lit 300) (.ref (nat_lit 45)), kv P "rgb_to_hsv" (nat_lit 320) (.ref (nat_lit 52)), kv P "hsv_to_rgb" (nat_lit 334) (.ref (nat_lit 59)), kv P "LPAR" (nat_lit 338) (iT (nat_lit 7) (nat_lit 337)), kv P "RPAR" (nat_lit 340) (iT (nat_lit 8) (nat_lit 339)), kv P "LSQB" (nat_lit 342) (iT (nat_lit 9) (nat_lit 341)), kv P "RSQB" (nat_lit 344) (iT (nat_lit 10) (nat_lit 343)), kv P "COLON" (nat_lit 346) (iT (nat_lit 11) (nat_lit 345)), kv P "COMMA" (nat_lit 348) (iT (nat_lit 12) (nat_lit 347)), kv P "SEMI" (nat_lit 350) (iT (nat_lit 13) (nat_lit 349)), kv P "PLUS" (nat_lit 352) (iT (nat_lit 14) (nat_lit 351)), kv P "MINUS" (nat_lit 354) (iT (nat_lit 15) (nat_lit 353)), kv P "STAR" (nat_lit 356) (iT (nat_lit 16) (nat_lit 355)), kv P "SLASH" (nat_lit 358) (iT (nat_lit 17) (nat_lit 357)), kv P "VBAR" (nat_lit 360) (iT (nat_lit 18) (nat_lit 359)), kv P "AMPER" (nat_lit 362) (iT (nat_lit 19) (nat_lit 361)), kv P "LESS" (nat_lit 364) (iT (nat_lit 20) (nat_lit 363)), kv P "GREATER" (nat_lit 366) (iT (nat_lit 21) (nat_lit 365)), kv P "EQUAL" (nat_lit 368) (iT (nat_lit 22) (nat_lit 367)), kv P "DOT" (nat_lit 370) (iT (nat_lit 23) (nat_lit 369)), kv P "PERCENT" (nat_lit 372) (iT (nat_lit 24) (nat_lit 371)), kv P "LBRACE" (nat_lit 374) (iT (nat_lit 25) (nat_lit 373)), kv P "RBRACE" (nat_lit 376) (iT (nat_lit 26) (nat_lit 375)), kv P "EQEQUAL" (nat_lit 378) (iT (nat_lit 27) (nat_lit 377)), kv P "NOTEQUAL" (nat_lit 380) (iT (nat_lit 28) (nat_lit 379)), kv P "LESSEQUAL" (nat_lit 382) (iT (nat_lit 29) (nat_lit 381)), kv P "GREATEREQUAL" (nat_lit 384) (iT (nat_lit 30) (nat_lit 383)), kv P "TILDE" (nat_lit 386) (iT (nat_lit 31) (nat_lit 385)), kv P "CIRCUMFLEX" (nat_lit 388) (iT (nat_lit 32) (nat_lit 387)), kv P "LEFTSHIFT" (nat_lit 390) (iT (nat_lit 33) (nat_lit 389)), kv P "RIGHTSHIFT" (nat_lit 392) (iT (nat_lit 34) (nat_lit 391)), kv P "DOUBLESTAR" (nat_lit 394) (iT (nat_lit 35) (nat_lit 393)), kv P "PLUSEQUAL" (nat_lit 396) (iT (nat_lit 36) (nat_lit 395)), kv P "MINEQUAL" (nat_lit 398) (iT (nat_lit 37) (nat_lit 397)), kv P "STAREQUAL" (nat_lit 400) (iT (nat_lit 38) (nat_lit 399)), kv P "SLASHEQUAL" (nat_lit 402) (iT (nat_lit 39) (nat_lit 401)), kv P "PERCENTEQUAL" (nat_lit 404) (iT (nat_lit 40) (nat_lit 403)), kv P "AMPEREQUAL" (nat_lit 406) (iT (nat_lit 41) (nat_lit 405)), kv P "VBAREQUAL" (nat_lit 408) (iT (nat_lit 42) (nat_lit 407)), kv P "CIRCUMFLEXEQUAL" (nat_lit 410) (iT (nat_lit 43) (nat_lit 409)), kv P "LEFTSHIFTEQUAL" (nat_lit 412) (iT (nat_lit 44) (nat_lit 411)), kv P "RIGHTSHIFTEQUAL" (nat_lit 414) (iT (nat_lit 45) (nat_lit 413)), kv P "DOUBLESTAREQUAL" (nat_lit 416) (iT (nat_lit 46) (nat_lit 415)), kv P "DOUBLESLASH" (nat_lit 418) (iT (nat_lit 47) (nat_lit 417)), kv P "DOUBLESLASHEQUAL" (nat_lit 420) (iT (nat_lit 48) (nat_lit 419)), kv P "AT" (nat_lit 422) (iT (nat_lit 49) (nat_lit 421)), kv P "ATEQUAL" (nat_lit 424) (iT (nat_lit 50) (nat_lit 423)), kv P "RARROW" (nat_lit 426) (iT (nat_lit 51) (nat_lit 425)), kv P "ELLIPSIS" (nat_lit 428) (iT (nat_lit 52) (nat_lit 427)), kv P "COLONEQUAL" (nat_lit 430) (iT (nat_lit 53) (nat_lit 429)), kv P "EXCLAMATION" (nat_lit 432) (iT (nat_lit 54) (nat_lit 431)), kv P "NT_OFFSET" (nat_lit 434) (iT (nat_lit 256) (nat_lit 433))] 64), #[]⟩
noncomputable def b30 : Obj := ⟨.none, none, (.fields #[(iT (nat_lit 2) (nat_lit 0)), (iT (nat_lit 0) (nat_lit 0)), (.ref (nat_lit 37)), (iT (nat_lit 7) (nat_lit 0)), (iT (nat_lit 0) (nat_lit 0)), (.ref (nat_lit 44)), (iT (nat_lit 13) (nat_lit 0)), (iT (nat_lit 0) (nat_lit 0)), (.ref (nat_lit 51)), (iT (nat_lit 32) (nat_lit 0)), (iT (nat_lit 0) (nat_lit 0)), (.ref (nat_lit 58))]), #[]⟩
noncomputable def b31 : Obj := ⟨(.type "tuple"), none, (.seq #[(sT "k" (nat_lit 285))] 0), #[]⟩
noncomputable def b32 : Obj := ⟨.none, none, (.func (fnP "_wall" "_wall" (stm 1))), #[]⟩
noncomputable def b33 : Obj := ⟨(.type "code"), none, (.fields #[(sT "_wall" (nat_lit 282)), (sT "_wall" (nat_lit 283)), (sT "/claim/cut.py" (nat_lit 284)), (iT (nat_lit 2) (nat_lit 0)), (iT (nat_lit 1) (nat_lit 0)), (iT (nat_lit 0) (nat_lit 0)), (iT (nat_lit 0) (nat_lit 0)), (iT (nat_lit 3) (nat_lit 0)), (.ref (nat_lit 32)), (.bool true), (iT (nat_lit 276) (nat_lit 0)), (.ref (nat_lit 33)), .none, (.ref (nat_lit 34)), (.ref (nat_lit 35)), (.ref (nat_lit 36)), (iT (nat_lit 286) (nat_lit 0)), (iT (nat_lit 2) (nat_lit 0)), (sT "/claim/cut.py" (nat_lit 287))]), #[]⟩
noncomputable def b34 : Obj := ⟨(.type "function"), none, (.func (fnD (Str.ofString "_wall") (Str.ofString "_wall") (stm 1) .none (sT "__main__" (nat_lit 164)) (.ref (nat_lit 37)))), #[]⟩
noncomputable def b35 : Obj := ⟨(.type "tuple"), none, (.seq #[(sT "s" (nat_lit 296)), (sT "parts" (nat_lit 297))] 0), #[]⟩
noncomputable def b36 : Obj := ⟨.none, none, (.func (fnP "decode_rfc2231" "decode_rfc2231" (stm 4))), #[]⟩
noncomputable def b37 : Obj := ⟨(.type "tuple"), none, (.seq #[(sT "r" (nat_lit 306)), (sT "g" (nat_lit 307)), (sT "b" (nat_lit 308)), (sT "maxc" (nat_lit 309)), (sT "minc" (nat_lit 310)), (sT "rangec" (nat_lit 311)), (sT "v" (nat_lit 312)), (sT "s" (nat_lit 313)), (sT "rc" (nat_lit 314)), (sT "gc" (nat_lit 315)), (sT "bc" (nat_lit 316)), (sT "h" (nat_lit 317))] 0), #[]⟩
noncomputable def b38 : Obj := ⟨.none, none, (.func (fnP "rgb_to_hsv" "rgb_to_hsv" (stm 6))), #[]⟩
noncomputable def b39 : Obj := ⟨(.type "tuple"), none, (.seq #[(sT "h" (nat_lit 324)), (sT "s" (nat_lit 325)), (sT "v" (nat_lit 326)), (sT "i" (nat_lit 327)), (sT "f" (nat_lit 328)), (sT "p" (nat_lit 329)), (sT "q" (nat_lit 330)), (sT "t" (nat_lit 331))] 0), #[]⟩
noncomputable def b40 : Obj := ⟨.none, none, (.func (fnP "hsv_to_rgb" "hsv_to_rgb" (stm 7))), #[]⟩
noncomputable def b41 (P : Params) : Obj := ⟨(.type "dict"), none, (.dict #[kv P "__name__" (nat_lit 165) (sT "cpy313.token" (nat_lit 335)), kv P "__doc__" (nat_lit 166) .none, kv P "__package__" (nat_lit 167) .none, kv P "__loader__" (nat_lit 168) (.builtin "__main__.__loader__#\x6fpaque"), kv P "__spec__" (nat_lit 169) .none, kv P "__annotations__" (nat_lit 170) (.ref (nat_lit 6)), kv P "__builtins__" (nat_lit 171) (.ref (nat_lit 4)), kv P "__file__" (nat_lit 173) (sT "/claim/cut.py" (nat_lit 172)), kv P "__cached__" (nat_lit 174) .none, kv P "_sre" (nat_lit 275) (.ref (nat_lit 12)), kv P "_wall" (nat_lit 288) (.ref (nat_lit 38)), kv P "TICK" (nat_lit 292) (sT "'" (nat_lit 291)), kv P "decode_rfc2231" (nat_lit 300) (.ref (nat_lit 45)), kv P "rgb_to_hsv" (nat_lit 320) (.ref (nat_lit 52)), kv P "hsv_to_rgb" (nat_lit 334) (.ref (nat_lit 59)), kv P "LPAR" (nat_lit 338) (iT (nat_lit 7) (nat_lit 337)), kv P "RPAR" (nat_lit 340) (iT (nat_lit 8) (nat_lit 339)), kv P "LSQB" (nat_lit 342) (iT (nat_lit 9) (nat_lit 341)), kv P "RSQB" (nat_lit 344) (iT (nat_lit 10) (nat_lit 343)), kv P "COLON" (nat_lit 346) (iT (nat_lit 11) (nat_lit 345)), kv P "COMMA" (nat_lit 348) (iT (nat_lit 12) (nat_lit 347)), kv P "SEMI" (nat_lit 350) (iT (nat_lit 13) (nat_lit 349)), kv P "PLUS" (nat_lit 352) (iT (nat_lit 14) (nat_lit 351)), kv P "MINUS" (nat_lit 354) (iT (nat_lit 15) (nat_lit 353)), kv P "STAR" (nat_lit 356) (iT (nat_lit 16) (nat_lit 355)), kv P "SLASH" (nat_lit 358) (iT (nat_lit 17) (nat_lit 357)), kv P "VBAR" (nat_lit 360) (iT (nat_lit 18) (nat_lit 359)), kv P "AMPER" (nat_lit 362) (iT (nat_lit 19) (nat_lit 361)), kv P "LESS" (nat_lit 364) (iT (nat_lit 20) (nat_lit 363)), kv P "GREATER" (nat_lit 366) (iT (nat_lit 21) (nat_lit 365)), kv P "EQUAL" (nat_lit 368) (iT (nat_lit 22) (nat_lit 367)), kv P "DOT" (nat_lit 370) (iT (nat_lit 23) (nat_lit 369)), kv P "PERCENT" (nat_lit 372) (iT (nat_lit 24) (nat_lit 371)), kv P "LBRACE" (nat_lit 374) (iT (nat_lit 25) (nat_lit 373)), kv P "RBRACE" (nat_lit 376) (iT (nat_lit 26) (nat_lit 375)), kv P "EQEQUAL" (nat_lit 378) (iT (nat_lit 27) (nat_lit 377)), kv P "NOTEQUAL" (nat_lit 380) (iT (nat_lit 28) (nat_lit 379)), kv P "LESSEQUAL" (nat_lit 382) (iT (nat_lit 29) (nat_lit 381)), kv P "GREATEREQUAL" (nat_lit 384) (iT (nat_lit 30) (nat_lit 383)), kv P "TILDE" (nat_lit 386) (iT (nat_lit 31) (nat_lit 385)), kv P "CIRCUMFLEX" (nat_lit 388) (iT (nat_lit 32) (nat_lit 387)), kv P "LEFTSHIFT" (nat_lit 390) (iT (nat_lit 33) (nat_lit 389)), kv P "RIGHTSHIFT" (nat_lit 392) (iT (nat_lit 34) (nat_lit 391)), kv P "DOUBLESTAR" (nat_lit 394) (iT (nat_lit 35) (nat_lit 393)), kv P "PLUSEQUAL" (nat_lit 396) (iT (nat_lit 36) (nat_lit 395)), kv P "MINEQUAL" (nat_lit 398) (iT (nat_lit 37) (nat_lit 397)), kv P "STAREQUAL" (nat_lit 400) (iT (nat_lit 38) (nat_lit 399)), kv P "SLASHEQUAL" (nat_lit 402) (iT (nat_lit 39) (nat_lit 401)), kv P "PERCENTEQUAL" (nat_lit 404) (iT (nat_lit 40) (nat_lit 403)), kv P "AMPEREQUAL" (nat_lit 406) (iT (nat_lit 41) (nat_lit 405)), kv P "VBAREQUAL" (nat_lit 408) (iT (nat_lit 42) (nat_lit 407)), kv P "CIRCUMFLEXEQUAL" (nat_lit 410) (iT (nat_lit 43) (nat_lit 409)), kv P "LEFTSHIFTEQUAL" (nat_lit 412) (iT (nat_lit 44) (nat_lit 411)), kv P "RIGHTSHIFTEQUAL" (nat_lit 414) (iT (nat_lit 45) (nat_lit 413)), kv P "DOUBLESTAREQUAL" (nat_lit 416) (iT (nat_lit 46) (nat_lit 415)), kv P "DOUBLESLASH" (nat_lit 418) (iT (nat_lit 47) (nat_lit 417)), kv P "DOUBLESLASHEQUAL" (nat_lit 420) (iT (nat_lit 48) (nat_lit 419)), kv P "AT" (nat_lit 422) (iT (nat_lit 49) (nat_lit 421)), kv P "ATEQUAL" (nat_lit 424) (iT (nat_lit 50) (nat_lit 423)), kv P "RARROW" (nat_lit 426) (iT (nat_lit 51) (nat_lit 425)), kv P "ELLIPSIS" (nat_lit 428) (iT (nat_lit 52) (nat_lit 427)), kv P "COLONEQUAL" (nat_lit 430) (iT (nat_lit 53) (nat_lit 429)), kv P "EXCLAMATION" (nat_lit 432) (iT (nat_lit 54) (nat_lit 431)), kv P "NT_OFFSET" (nat_lit 434) (iT (nat_lit 256) (nat_lit 433)), kv P "EXACT_TOKEN_TYPES" (nat_lit 531) (.ref (nat_lit 60))] 65), #[]⟩
noncomputable def b42 (P : Params) : Obj := ⟨(.type "dict"), none, (.dict #[kv P "->" (nat_lit 469) (iT (nat_lit 51) (nat_lit 425)), kv P "." (nat_lit 471) (iT (nat_lit 23) (nat_lit 369)), kv P "..." (nat_lit 473) (iT (nat_lit 52) (nat_lit 427)), kv P "/" (nat_lit 475) (iT (nat_lit 17) (nat_lit 357)), kv P "//" (nat_lit 477) (iT (nat_lit 47) (nat_lit 417)), kv P "//=" (nat_lit 479) (iT (nat_lit 48) (nat_lit 419)), kv P "/=" (nat_lit 481) (iT (nat_lit 39) (nat_lit 401)), kv P ":" (nat_lit 483) (iT (nat_lit 11) (nat_lit 345)), kv P ":=" (nat_lit 485) (iT (nat_lit 53) (nat_lit 429)), kv P ";" (nat_lit 487) (iT (nat_lit 13) (nat_lit 349)), kv P "<" (nat_lit 489) (iT (nat_lit 20) (nat_lit 363)), kv P "<<" (nat_lit 491) (iT (nat_lit 33) (nat_lit 389)), kv P "<<=" (nat_lit 493) (iT (nat_lit 44) (nat_lit 411)), kv P "<=" (nat_lit 495) (iT (nat_lit 29) (nat_lit 381)), kv P "=" (nat_lit 497) (iT (nat_lit 22) (nat_lit 367)), kv P "==" (nat_lit 499) (iT (nat_lit 27) (nat_lit 377)), kv P ">" (nat_lit 501) (iT (nat_lit 21) (nat_lit 365))] 17), #[]⟩
noncomputable def b43 (P : Params) : Obj := ⟨(.type "dict"), none, (.dict #[kv P ">=" (nat_lit 503) (iT (nat_lit 30) (nat_lit 383)), kv P ">>" (nat_lit 504) (iT (nat_lit 34) (nat_lit 391)), kv P ">>=" (nat_lit 505) (iT (nat_lit 45) (nat_lit 413)), kv P "@" (nat_lit 506) (iT (nat_lit 49) (nat_lit 421)), kv P "@=" (nat_lit 507) (iT (nat_lit 50) (nat_lit 423)), kv P "[" (nat_lit 508) (iT (nat_lit 9) (nat_lit 341)), kv P "]" (nat_lit 509) (iT (nat_lit 10) (nat_lit 343)), kv P "^" (nat_lit 510) (iT (nat_lit 32) (nat_lit 387)), kv P "^=" (nat_lit 511) (iT (nat_lit 43) (nat_lit 409)), kv P "{" (nat_lit 512) (iT (nat_lit 25) (nat_lit 373)), kv P "|" (nat_lit 513) (iT (nat_lit 18) (nat_lit 359)), kv P "|=" (nat_lit 514) (iT (nat_lit 42) (nat_lit 407)), kv P "}" (nat_lit 515) (iT (nat_lit 26) (nat_lit 375)), kv P "~" (nat_lit 516) (iT (nat_lit 31) (nat_lit 385))] 14), #[]⟩
noncomputable def b44 (P : Params) : Obj := ⟨(.type "dict"), none, (.dict #[kv P "__name__" (nat_lit 165) (sT "cpy313.wsgiref.headers" (nat_lit 539)), kv P "__doc__" (nat_lit 166) .none, kv P "__package__" (nat_lit 167) .none, kv P "__loader__" (nat_lit 168) (.builtin "__main__.__loader__#\x6fpaque"), kv P "__spec__" (nat_lit 169) .none, kv P "__annotations__" (nat_lit 170) (.ref (nat_lit 6)), kv P "__builtins__" (nat_lit 171) (.ref (nat_lit 4)), kv P "__file__" (nat_lit 173) (sT "/claim/cut.py" (nat_lit 172)), kv P "__cached__" (nat_lit 174) .none, kv P "_sre" (nat_lit 275) (.ref (nat_lit 12)), kv P "_wall" (nat_lit 288) (.ref (nat_lit 38)), kv P "TICK" (nat_lit 292) (sT "'" (nat_lit 291)), kv P "decode_rfc2231" (nat_lit 300) (.ref (nat_lit 45)), kv P "rgb_to_hsv" (nat_lit 320) (.ref (nat_lit 52)), kv P "hsv_to_rgb" (nat_lit 334) (.ref (nat_lit 59)), kv P "LPAR" (nat_lit 338) (iT (nat_lit 7) (nat_lit 337)), kv P "RPAR" (nat_lit 340) (iT (nat_lit 8) (nat_lit 339)), kv P "LSQB" (nat_lit 342) (iT (nat_lit 9) (nat_lit 341)), kv P "RSQB" (nat_lit 344) (iT (nat_lit 10) (nat_lit 343)), kv P "COLON" (nat_lit 346) (iT (nat_lit 11) (nat_lit 345)), kv P "COMMA" (nat_lit 348) (iT (nat_lit 12) (nat_lit 347)), kv P "SEMI" (nat_lit 350) (iT (nat_lit 13) (nat_lit 349)), kv P "PLUS" (nat_lit 352) (iT (nat_lit 14) (nat_lit 351)), kv P "MINUS" (nat_lit 354) (iT (nat_lit 15) (nat_lit 353)), kv P "STAR" (nat_lit 356) (iT (nat_lit 16) (nat_lit 355)), kv P "SLASH" (nat_lit 358) (iT (nat_lit 17) (nat_lit 357)), kv P "VBAR" (nat_lit 360) (iT (nat_lit 18) (nat_lit 359)), kv P "AMPER" (nat_lit 362) (iT (nat_lit 19) (nat_lit 361)), kv P "LESS" (nat_lit 364) (iT (nat_lit 20) (nat_lit 363)), kv P "GREATER" (nat_lit 366) (iT (nat_lit 21) (nat_lit 365)), kv P "EQUAL" (nat_lit 368) (iT (nat_lit 22) (nat_lit 367)), kv P "DOT" (nat_lit 370) (iT (nat_lit 23) (nat_lit 369)), kv P "PERCENT" (nat_lit 372) (iT (nat_lit 24) (nat_lit 371)), kv P "LBRACE" (nat_lit 374) (iT (nat_lit 25) (nat_lit 373)), kv P "RBRACE" (nat_lit 376) (iT (nat_lit 26) (nat_lit 375)), kv P "EQEQUAL" (nat_lit 378) (iT (nat_lit 27) (nat_lit 377)), kv P "NOTEQUAL" (nat_lit 380) (iT (nat_lit 28) (nat_lit 379)), kv P "LESSEQUAL" (nat_lit 382) (iT (nat_lit 29) (nat_lit 381)), kv P "GREATEREQUAL" (nat_lit 384) (iT (nat_lit 30) (nat_lit 383)), kv P "TILDE" (nat_lit 386) (iT (nat_lit 31) (nat_lit 385)), kv P "CIRCUMFLEX" (nat_lit 388) (iT (nat_lit 32) (nat_lit 387)), kv P "LEFTSHIFT" (nat_lit 390) (iT (nat_lit 33) (nat_lit 389)), kv P "RIGHTSHIFT" (nat_lit 392) (iT (nat_lit 34) (nat_lit 391)), kv P "DOUBLESTAR" (nat_lit 394) (iT (nat_lit 35) (nat_lit 393)), kv P "PLUSEQUAL" (nat_lit 396) (iT (nat_lit 36) (nat_lit 395)), kv P "MINEQUAL" (nat_lit 398) (iT (nat_lit 37) (nat_lit 397)), kv P "STAREQUAL" (nat_lit 400) (iT (nat_lit 38) (nat_lit 399)), kv P "SLASHEQUAL" (nat_lit 402) (iT (nat_lit 39) (nat_lit 401)), kv P "PERCENTEQUAL" (nat_lit 404) (iT (nat_lit 40) (nat_lit 403)), kv P "AMPEREQUAL" (nat_lit 406) (iT (nat_lit 41) (nat_lit 405)), kv P "VBAREQUAL" (nat_lit 408) (iT (nat_lit 42) (nat_lit 407)), kv P "CIRCUMFLEXEQUAL" (nat_lit 410) (iT (nat_lit 43) (nat_lit 409)), kv P "LEFTSHIFTEQUAL" (nat_lit 412) (iT (nat_lit 44) (nat_lit 411)), kv P "RIGHTSHIFTEQUAL" (nat_lit 414) (iT (nat_lit 45) (nat_lit 413)), kv P "DOUBLESTAREQUAL" (nat_lit 416) (iT (nat_lit 46) (nat_lit 415)), kv P "DOUBLESLASH" (nat_lit 418) (iT (nat_lit 47) (nat_lit 417)), kv P "DOUBLESLASHEQUAL" (nat_lit 420) (iT (nat_lit 48) (nat_lit 419)), kv P "AT" (nat_lit 422) (iT (nat_lit 49) (nat_lit 421)), kv P "ATEQUAL" (nat_lit 424) (iT (nat_lit 50) (nat_lit 423)), kv P "RARROW" (nat_lit 426) (iT (nat_lit 51) (nat_lit 425)), kv P "ELLIPSIS" (nat_lit 428) (iT (nat_lit 52) (nat_lit 427)), kv P "COLONEQUAL" (nat_lit 430) (iT (nat_lit 53) (nat_lit 429)), kv P "EXCLAMATION" (nat_lit 432) (iT (nat_lit 54) (nat_lit 431)), kv P "NT_OFFSET" (nat_lit 434) (iT (nat_lit 256) (nat_lit 433)), kv P "EXACT_TOKEN_TYPES" (nat_lit 531) (.ref (nat_lit 60)), kv P "ISNONTERMINAL" (nat_lit 538) (.ref (nat_lit 69)), kv P "tspecials" (nat_lit 574) (.ref (nat_lit 74)), kv P "_name_disallowed_re" (nat_lit 600) (.ref (nat_lit 79)), kv P "_value_disallowed_re" (nat_lit 634) (.ref (nat_lit 84)), kv P "_formatparam" (nat_lit 644) (.ref (nat_lit 92))] 70), #[]⟩
noncomputable def b45 : Obj := ⟨.none, none, (.fields #[(iT (nat_lit 2) (nat_lit 0)), (iT (nat_lit 0) (nat_lit 0)), (.ref (nat_lit 37)), (iT (nat_lit 7) (nat_lit 0)), (iT (nat_lit 0) (nat_lit 0)), (.ref (nat_lit 44)), (iT (nat_lit 13) (nat_lit 0)), (iT (nat_lit 0) (nat_lit 0)), (.ref (nat_lit 51)), (iT (nat_lit 32) (nat_lit 0)), (iT (nat_lit 0) (nat_lit 0)), (.ref (nat_lit 58)), (iT (nat_lit 104) (nat_lit 0)), (iT (nat_lit 0) (nat_lit 0)), (.ref (nat_lit 68)), (iT (nat_lit 110) (nat_lit 0)), (iT (nat_lit 0) (nat_lit 0)), (.ref (nat_lit 91))]), #[]⟩
noncomputable def b46 : Obj := ⟨(.type "tuple"), none, (.seq #[(sT "x" (nat_lit 535))] 0), #[]⟩
noncomputable def b47 : Obj := ⟨.none, none, (.func (fnP "ISNONTERMINAL" "ISNONTERMINAL" (stm 59))), #[]⟩
noncomputable def b48 : Obj := ⟨(.type "list"), none, (.seq #[(iT (nat_lit 14) (nat_lit 544)), (iT (nat_lit 14) (nat_lit 545)), (iT (nat_lit 4) (nat_lit 546)), (iT (nat_lit 1) (nat_lit 547)), (iT (nat_lit 1) (nat_lit 548)), (iT (nat_lit 9) (nat_lit 549)), (iT (nat_lit 0) (nat_lit 550)), (iT (nat_lit 4227896069) (nat_lit 551)), (iT (nat_lit 939524097) (nat_lit 552)), (iT (nat_lit 0) (nat_lit 553)), (iT (nat_lit 0) (nat_lit 554)), (iT (nat_lit 0) (nat_lit 555)), (iT (nat_lit 0) (nat_lit 556)), (iT (nat_lit 0) (nat_lit 557)), (iT (nat_lit 0) (nat_lit 558)), (iT (nat_lit 13) (nat_lit 559)), (iT (nat_lit 11) (nat_lit 560)), (iT (nat_lit 9) (nat_lit 561)), (iT (nat_lit 0) (nat_lit 562)), (iT (nat_lit 4227896069) (nat_lit 563)), (iT (nat_lit 939524097) (nat_lit 564)), (iT (nat_lit 0) (nat_lit 565)), (iT (nat_lit 0) (nat_lit 566)), (iT (nat_lit 0) (nat_lit 567)), (iT (nat_lit 0) (nat_lit 568)), (iT (nat_lit 0) (nat_lit 569)), (iT (nat_lit 0) (nat_lit 570)), (iT (nat_lit 1) (nat_lit 571))] 0), #[]⟩
noncomputable def b49 : Obj := ⟨(.type "tuple"), none, (.seq #[(iT (nat_lit 14) (nat_lit 0)), (iT (nat_lit 14) (nat_lit 0)), (iT (nat_lit 4) (nat_lit 0)), (iT (nat_lit 1) (nat_lit 0)), (iT (nat_lit 1) (nat_lit 0)), (iT (nat_lit 9) (nat_lit 0)), (iT (nat_lit 0) (nat_lit 0)), (iT (nat_lit 4227896069) (nat_lit 0)), (iT (nat_lit 939524097) (nat_lit 0)), (iT (nat_lit 0) (nat_lit 0)), (iT (nat_lit 0) (nat_lit 0)), (iT (nat_lit 0) (nat_lit 0)), (iT (nat_lit 0) (nat_lit 0)), (iT (nat_lit 0) (nat_lit 0)), (iT (nat_lit 0) (nat_lit 0)), (iT (nat_lit 13) (nat_lit 0)), (iT (nat_lit 11) (nat_lit 0)), (iT (nat_lit 9) (nat_lit 0)), (iT (nat_lit 0) (nat_lit 0)), (iT (nat_lit 4227896069) (nat_lit 0)), (iT (nat_lit 939524097) (nat_lit 0)), (iT (nat_lit 0) (nat_lit 0)), (iT (nat_lit 0) (nat_lit 0)), (iT (nat_lit 0) (nat_lit 0)), (iT (nat_lit 0) (nat_lit 0)), (iT (nat_lit 0) (nat_lit 0)), (iT (nat_lit 0) (nat_lit 0)), (iT (nat_lit 1) (nat_lit 0))] 0), #[]⟩
noncomputable def b50 : Obj := ⟨(.type "list"), none, (.seq #[(iT (nat_lit 14) (nat_lit 578)), (iT (nat_lit 10) (nat_lit 579)), (iT (nat_lit 4) (nat_lit 580)), (iT (nat_lit 1) (nat_lit 581)), (iT (nat_lit 1) (nat_lit 582)), (iT (nat_lit 22) (nat_lit 583)), (iT (nat_lit 0) (nat_lit 584)), (iT (nat_lit 31) (nat_lit 585)), (iT (nat_lit 16) (nat_lit 586)), (iT (nat_lit 127) (nat_lit 587)), (iT (nat_lit 0) (nat_lit 588)), (iT (nat_lit 13) (nat_lit 589)), (iT (nat_lit 7) (nat_lit 590)), (iT (nat_lit 22) (nat_lit 591)), (iT (nat_lit 0) (nat_lit 592)), (iT (nat_lit 31) (nat_lit 593)), (iT (nat_lit 16) (nat_lit 594)), (iT (nat_lit 127) (nat_lit 595)), (iT (nat_lit 0) (nat_lit 596)), (iT (nat_lit 1) (nat_lit 597))] 0), #[]⟩
noncomputable def b51 : Obj := ⟨(.type "list"), none, (.seq #[(iT (nat_lit 14) (nat_lit 604)), (iT (nat_lit 14) (nat_lit 605)), (iT (nat_lit 4) (nat_lit 606)), (iT (nat_lit 1) (nat_lit 607)), (iT (nat_lit 1) (nat_lit 608)), (iT (nat_lit 9) (nat_lit 609)), (iT (nat_lit 4294966783) (nat_lit 610)), (iT (nat_lit 0) (nat_lit 611)), (iT (nat_lit 0) (nat_lit 612)), (iT (nat_lit 2147483648) (nat_lit 613)), (iT (nat_lit 0) (nat_lit 614)), (iT (nat_lit 0) (nat_lit 615)), (iT (nat_lit 0) (nat_lit 616)), (iT (nat_lit 0) (nat_lit 617)), (iT (nat_lit 0) (nat_lit 618)), (iT (nat_lit 13) (nat_lit 619)), (iT (nat_lit 11) (nat_lit 620)), (iT (nat_lit 9) (nat_lit 621)), (iT (nat_lit 4294966783) (nat_lit 622)), (iT (nat_lit 0) (nat_lit 623)), (iT (nat_lit 0) (nat_lit 624)), (iT (nat_lit 2147483648) (nat_lit 625)), (iT (nat_lit 0) (nat_lit 626)), (iT (nat_lit 0) (nat_lit 627)), (iT (nat_lit 0) (nat_lit 628)), (iT (nat_lit 0) (nat_lit 629)), (iT (nat_lit 0) (nat_lit 630)), (iT (nat_lit 1) (nat_lit 631))] 0), #[]⟩
noncomputable def b52 : Obj := ⟨(.type "tuple"), none, (.seq #[.none, (iT (nat_lit 1) (nat_lit 635))] 0), #[]⟩
noncomputable def b53 : Obj := ⟨(.type "tuple"), none, (.seq #[(sT "param" (nat_lit 639)), (sT "value" (nat_lit 640)), (sT "quote" (nat_lit 641))] 0), #[]⟩
noncomputable def b54 : Obj := ⟨.none, none, (.func (fnP "_formatparam" "_formatparam" (stm 64))), #[]⟩
noncomputable def b55 : Obj := ⟨(.type "code"), none, (.fields #[(sT "_formatparam" (nat_lit 636)), (sT "_formatparam" (nat_lit 637)), (sT "/claim/cut.py" (nat_lit 638)), (iT (nat_lit 110) (nat_lit 0)), (iT (nat_lit 3) (nat_lit 0)), (iT (nat_lit 0) (nat_lit 0)), (iT (nat_lit 0) (nat_lit 0)), (iT (nat_lit 3) (nat_lit 0)), (.ref (nat_lit 86)), (.bool true), (iT (nat_lit 276) (nat_lit 0)), (.ref (nat_lit 87)), .none, (.ref (nat_lit 88)), (.ref (nat_lit 89)), (.ref (nat_lit 90)), (iT (nat_lit 642) (nat_lit 0)), (iT (nat_lit 110) (nat_lit 0)), (sT "/claim/cut.py" (nat_lit 643))]), #[]⟩
noncomputable def b56 : Obj := ⟨(.type "function"), none, (.func (fnD (Str.ofString "_formatparam") (Str.ofString "_formatparam") (stm 64) (.ref (nat_lit 85)) (sT "cpy313.wsgiref.headers" (nat_lit 539)) (.ref (nat_lit 91)))), #[]⟩
noncomputable def b57 (P : Params) : Obj := ⟨(.type "dict"), none, (.dict #[kv P "__name__" (nat_lit 165) (sT "cpy313.wsgiref.headers" (nat_lit 539)), kv P "__doc__" (nat_lit 166) .none, kv P "__package__" (nat_lit 167) .none, kv P "__loader__" (nat_lit 168) (.builtin "__main__.__loader__#\x6fpaque"), kv P "__spec__" (nat_lit 169) .none, kv P "__annotations__" (nat_lit 170) (.ref (nat_lit 6)), kv P "__builtins__" (nat_lit 171) (.ref (nat_lit 4)), kv P "__file__" (nat_lit 173) (sT "/claim/cut.py" (nat_lit 172)), kv P "__cached__" (nat_lit 174) .none, kv P "_sre" (nat_lit 275) (.ref (nat_lit 12)), kv P "_wall" (nat_lit 288) (.ref (nat_lit 38)), kv P "TICK" (nat_lit 292) (sT "'" (nat_lit 291)), kv P "decode_rfc2231" (nat_lit 300) (.ref (nat_lit 45)), kv P "rgb_to_hsv" (nat_lit 320) (.ref (nat_lit 52)), kv P "hsv_to_rgb" (nat_lit 334) (.ref (nat_lit 59)), kv P "LPAR" (nat_lit 338) (iT (nat_lit 7) (nat_lit 337)), kv P "RPAR" (nat_lit 340) (iT (nat_lit 8) (nat_lit 339)), kv P "LSQB" (nat_lit 342) (iT (nat_lit 9) (nat_lit 341)), kv P "RSQB" (nat_lit 344) (iT (nat_lit 10) (nat_lit 343)), kv P "COLON" (nat_lit 346) (iT (nat_lit 11) (nat_lit 345)), kv P "COMMA" (nat_lit 348) (iT (nat_lit 12) (nat_lit 347)), kv P "SEMI" (nat_lit 350) (iT (nat_lit 13) (nat_lit 349)), kv P "PLUS" (nat_lit 352) (iT (nat_lit 14) (nat_lit 351)), kv P "MINUS" (nat_lit 354) (iT (nat_lit 15) (nat_lit 353)), kv P "STAR" (nat_lit 356) (iT (nat_lit 16) (nat_lit 355)), kv P "SLASH" (nat_lit 358) (iT (nat_lit 17) (nat_lit 357)), kv P "VBAR" (nat_lit 360) (iT (nat_lit 18) (nat_lit 359)), kv P "AMPER" (nat_lit 362) (iT (nat_lit 19) (nat_lit 361)), kv P "LESS" (nat_lit 364) (iT (nat_lit 20) (nat_lit 363)), kv P "GREATER" (nat_lit 366) (iT (nat_lit 21) (nat_lit 365)), kv P "EQUAL" (nat_lit 368) (iT (nat_lit 22) (nat_lit 367)), kv P "DOT" (nat_lit 370) (iT (nat_lit 23) (nat_lit 369)), kv P "PERCENT" (nat_lit 372) (iT (nat_lit 24) (nat_lit 371)), kv P "LBRACE" (nat_lit 374) (iT (nat_lit 25) (nat_lit 373)), kv P "RBRACE" (nat_lit 376) (iT (nat_lit 26) (nat_lit 375)), kv P "EQEQUAL" (nat_lit 378) (iT (nat_lit 27) (nat_lit 377)), kv P "NOTEQUAL" (nat_lit 380) (iT (nat_lit 28) (nat_lit 379)), kv P "LESSEQUAL" (nat_lit 382) (iT (nat_lit 29) (nat_lit 381)), kv P "GREATEREQUAL" (nat_lit 384) (iT (nat_lit 30) (nat_lit 383)), kv P "TILDE" (nat_lit 386) (iT (nat_lit 31) (nat_lit 385)), kv P "CIRCUMFLEX" (nat_lit 388) (iT (nat_lit 32) (nat_lit 387)), kv P "LEFTSHIFT" (nat_lit 390) (iT (nat_lit 33) (nat_lit 389)), kv P "RIGHTSHIFT" (nat_lit 392) (iT (nat_lit 34) (nat_lit 391)), kv P "DOUBLESTAR" (nat_lit 394) (iT (nat_lit 35) (nat_lit 393)), kv P "PLUSEQUAL" (nat_lit 396) (iT (nat_lit 36) (nat_lit 395)), kv P "MINEQUAL" (nat_lit 398) (iT (nat_lit 37) (nat_lit 397)), kv P "STAREQUAL" (nat_lit 400) (iT (nat_lit 38) (nat_lit 399)), kv P "SLASHEQUAL" (nat_lit 402) (iT (nat_lit 39) (nat_lit 401)), kv P "PERCENTEQUAL" (nat_lit 404) (iT (nat_lit 40) (nat_lit 403)), kv P "AMPEREQUAL" (nat_lit 406) (iT (nat_lit 41) (nat_lit 405)), kv P "VBAREQUAL" (nat_lit 408) (iT (nat_lit 42) (nat_lit 407)), kv P "CIRCUMFLEXEQUAL" (nat_lit 410) (iT (nat_lit 43) (nat_lit 409)), kv P "LEFTSHIFTEQUAL" (nat_lit 412) (iT (nat_lit 44) (nat_lit 411)), kv P "RIGHTSHIFTEQUAL" (nat_lit 414) (iT (nat_lit 45) (nat_lit 413)), kv P "DOUBLESTAREQUAL" (nat_lit 416) (iT (nat_lit 46) (nat_lit 415)), kv P "DOUBLESLASH" (nat_lit 418) (iT (nat_lit 47) (nat_lit 417)), kv P "DOUBLESLASHEQUAL" (nat_lit 420) (iT (nat_lit 48) (nat_lit 419)), kv P "AT" (nat_lit 422) (iT (nat_lit 49) (nat_lit 421)), kv P "ATEQUAL" (nat_lit 424) (iT (nat_lit 50) (nat_lit 423)), kv P "RARROW" (nat_lit 426) (iT (nat_lit 51) (nat_lit 425)), kv P "ELLIPSIS" (nat_lit 428) (iT (nat_lit 52) (nat_lit 427)), kv P "COLONEQUAL" (nat_lit 430) (iT (nat_lit 53) (nat_lit 429)), kv P "EXCLAMATION" (nat_lit 432) (iT (nat_lit 54) (nat_lit 431)), kv P "NT_OFFSET" (nat_lit 434) (iT (nat_lit 256) (nat_lit 433)), kv P "EXACT_TOKEN_TYPES" (nat_lit 531) (.ref (nat_lit 60)), kv P "ISNONTERMINAL" (nat_lit 538) (.ref (nat_lit 69)), kv P "tspecials" (nat_lit 574) (.ref (nat_lit 74)), kv P "_name_disallowed_re" (nat_lit 600) (.ref (nat_lit 79)), kv P "_value_disallowed_re" (nat_lit 634) (.ref (nat_lit 84)), kv P "_formatparam" (nat_lit 644) (.ref (nat_lit 92)), kv P "Headers" (nat_lit 804) (.ref (nat_lit 215))] 71), #[]⟩
noncomputable def b58 : Obj := ⟨.none, none, (.fields #[(iT (nat_lit 2) (nat_lit 0)), (iT (nat_lit 0) (nat_lit 0)), (.ref (nat_lit 37)), (iT (nat_lit 7) (nat_lit 0)), (iT (nat_lit 0) (nat_lit 0)), (.ref (nat_lit 44)), (iT (nat_lit 13) (nat_lit 0)), (iT (nat_lit 0) (nat_lit 0)), (.ref (nat_lit 51)), (iT (nat_lit 32) (nat_lit 0)), (iT (nat_lit 0) (nat_lit 0)), (.ref (nat_lit 58)), (iT (nat_lit 104) (nat_lit 0)), (iT (nat_lit 0) (nat_lit 0)), (.ref (nat_lit 68)), (iT (nat_lit 110) (nat_lit 0)), (iT (nat_lit 0) (nat_lit 0)), (.ref (nat_lit 91)), (iT (nat_lit 119) (nat_lit 0)), (iT (nat_lit 0) (nat_lit 0)), (.ref (nat_lit 98))]), #[]⟩
noncomputable def b59 : Obj := ⟨(.type "builtin_function_or_method"), none, (.fields #[(.builtin "type.__prepare__"), (.type "type")]), #[]⟩
noncomputable def b60 (P : Params) : Obj := ⟨(.type "dict"), none, (.dict #[kv P "__module__" (nat_lit 652) (sT "cpy313.wsgiref.headers" (nat_lit 539)), kv P "__qualname__" (nat_lit 654) (sT "Headers" (nat_lit 653)), kv P "__firstlineno__" (nat_lit 656) (iT (nat_lit 119) (nat_lit 655)), kv P "__init__" (nat_lit 666) (.ref (nat_lit 107)), kv P "_convert_string_type" (nat_lit 676) (.ref (nat_lit 114)), kv P "__len__" (nat_lit 683) (.ref (nat_lit 121)), kv P "__setitem__" (nat_lit 692) (.ref (nat_lit 128)), kv P "__delitem__" (nat_lit 698) (.ref (nat_lit 133)), kv P "__getitem__" (nat_lit 706) (.ref (nat_lit 140)), kv P "__contains__" (nat_lit 714) (.ref (nat_lit 147)), kv P "get_all" (nat_lit 722) (.ref (nat_lit 154)), kv P "get" (nat_lit 733) (.ref (nat_lit 162)), kv P "keys" (nat_lit 739) (.ref (nat_lit 167)), kv P "values" (nat_lit 745) (.ref (nat_lit 172)), kv P "items" (nat_lit 752) (.ref (nat_lit 179)), kv P "__repr__" (nat_lit 759) (.ref (nat_lit 186)), kv P "__str__" (nat_lit 765) (.ref (nat_lit 191)), kv P "__bytes__" (nat_lit 772) (.ref (nat_lit 198)), kv P "setdefault" (nat_lit 782) (.ref (nat_lit 205)), kv P "add_header" (nat_lit 795) (.ref (nat_lit 212)), kv P "__static_attributes__" (nat_lit 797) (.ref (nat_lit 213))] 21), #[]⟩
noncomputable def b61 : Obj := ⟨.none, none, (.fields #[(iT (nat_lit 121) (nat_lit 0)), (iT (nat_lit 4) (nat_lit 0)), (.ref (nat_lit 106)), (iT (nat_lit 131) (nat_lit 0)), (iT (nat_lit 4) (nat_lit 0)), (.ref (nat_lit 113)), (iT (nat_lit 139) (nat_lit 0)), (iT (nat_lit 4) (nat_lit 0)), (.ref (nat_lit 120)), (iT (nat_lit 142) (nat_lit 0)), (iT (nat_lit 4) (nat_lit 0)), (.ref (nat_lit 127)), (iT (nat_lit 146) (nat_lit 0)), (iT (nat_lit 4) (nat_lit 0)), (.ref (nat_lit 132)), (iT (nat_lit 150) (nat_lit 0)), (iT (nat_lit 4) (nat_lit 0)), (.ref (nat_lit 139)), (iT (nat_lit 153) (nat_lit 0)), (iT (nat_lit 4) (nat_lit 0)), (.ref (nat_lit 146)), (iT (nat_lit 156) (nat_lit 0)), (iT (nat_lit 4) (nat_lit 0)), (.ref (nat_lit 153)), (iT (nat_lit 159) (nat_lit 0)), (iT (nat_lit 4) (nat_lit 0)), (.ref (nat_lit 161)), (iT (nat_lit 166) (nat_lit 0)), (iT (nat_lit 4) (nat_lit 0)), (.ref (nat_lit 166)), (iT (nat_lit 169) (nat_lit 0)), (iT (nat_lit 4) (nat_lit 0)), (.ref (nat_lit 171)), (iT (nat_lit 172) (nat_lit 0)), (iT (nat_lit 4) (nat_lit 0)), (.ref (nat_lit 178)), (iT (nat_lit 175) (nat_lit 0)), (iT (nat_lit 4) (nat_lit 0)), (.ref (nat_lit 185)), (iT (nat_lit 178) (nat_lit 0)), (iT (nat_lit 4) (nat_lit 0)), (.ref (nat_lit 190)), (iT (nat_lit 181) (nat_lit 0)), (iT (nat_lit 4) (nat_lit 0)), (.ref (nat_lit 197)), (iT (nat_lit 184) (nat_lit 0)), (iT (nat_lit 4) (nat_lit 0)), (.ref (nat_lit 204)), (iT (nat_lit 192) (nat_lit 0)), (iT (nat_lit 4) (nat_lit 0)), (.ref (nat_lit 211))]), #[]⟩
noncomputable def b62 : Obj := ⟨(.type "code"), none, (.fields #[(sT "Headers" (nat_lit 647)), (sT "Headers" (nat_lit 648)), (sT "/claim/cut.py" (nat_lit 649)), (iT (nat_lit 119) (nat_lit 0)), (iT (nat_lit 0) (nat_lit 0)), (iT (nat_lit 0) (nat_lit 0)), (iT (nat_lit 0) (nat_lit 0)), (iT (nat_lit 0) (nat_lit 0)), (.ref (nat_lit 96)), (.bool false), (iT (nat_lit 276) (nat_lit 0)), (.ref (nat_lit 97)), .none, .none, .none, .none, (iT (nat_lit 650) (nat_lit 0)), (iT (nat_lit 119) (nat_lit 0)), (sT "/claim/cut.py" (nat_lit 651))]), #[]⟩
noncomputable def b63 : Obj := ⟨(.type "frame"), none, .plain, #[some (.ref (nat_lit 98)), some (.ref (nat_lit 3)), some (.ref (nat_lit 95)), none, some (sT "cpy313.wsgiref.headers" (nat_lit 539)), none, some (.ref (nat_lit 0))]⟩
noncomputable def b64 : Obj := ⟨(.type "tuple"), none, (.seq #[(sT "self" (nat_lit 660)), (sT "headers" (nat_lit 661)), (sT "k" (nat_lit 662)), (sT "v" (nat_lit 663))] 0), #[]⟩
noncomputable def b65 : Obj := ⟨.none, none, (.func (fnP "__init__" "Headers.__init__" (mth 0))), #[]⟩
noncomputable def b66 : Obj := ⟨(.type "tuple"), none, (.seq #[(sT "self" (nat_lit 670)), (sT "value" (nat_lit 671)), (sT "name" (nat_lit 672)), (sT "regex" (nat_lit 673))] 0), #[]⟩
noncomputable def b67 : Obj := ⟨.none, none, (.func (fnP "_convert_string_type" "Headers._convert_string_type" (mth 1))), #[]⟩
noncomputable def b68 : Obj := ⟨(.type "tuple"), none, (.seq #[(sT "self" (nat_lit 680))] 0), #[]⟩
noncomputable def b69 : Obj := ⟨.none, none, (.func (fnP "__len__" "Headers.__len__" (mth 2))), #[]⟩
noncomputable def b70 : Obj := ⟨(.type "code"), none, (.fields #[(sT "__len__" (nat_lit 677)), (sT "Headers.__len__" (nat_lit 678)), (sT "/claim/cut.py" (nat_lit 679)), (iT (nat_lit 139) (nat_lit 0)), (iT (nat_lit 1) (nat_lit 0)), (iT (nat_lit 0) (nat_lit 0)), (iT (nat_lit 0) (nat_lit 0)), (iT (nat_lit 3) (nat_lit 0)), (.ref (nat_lit 115)), (.bool true), (iT (nat_lit 276) (nat_lit 0)), (.ref (nat_lit 116)), .none, (.ref (nat_lit 117)), (.ref (nat_lit 118)), (.ref (nat_lit 119)), (iT (nat_lit 681) (nat_lit 0)), (iT (nat_lit 139) (nat_lit 0)), (sT "/claim/cut.py" (nat_lit 682))]), #[]⟩
noncomputable def b71 : Obj := ⟨(.type "function"), none, (.func (fnD (Str.ofString "__len__") (Str.ofString "Headers.__len__") (mth 2) .none (sT "cpy313.wsgiref.headers" (nat_lit 539)) (.ref (nat_lit 120)))), #[]⟩
noncomputable def b72 : Obj := ⟨(.type "tuple"), none, (.seq #[(sT "self" (nat_lit 687)), (sT "name" (nat_lit 688)), (sT "val" (nat_lit 689))] 0), #[]⟩
noncomputable def b73 : Obj := ⟨.none, none, (.func (fnP "__setitem__" "Headers.__setitem__" (mth 3))), #[]⟩
noncomputable def b74 : Obj := ⟨.none, none, (.func (fnP "__delitem__" "Headers.__delitem__" (mth 4))), #[]⟩
noncomputable def b75 : Obj := ⟨(.type "tuple"), none, (.seq #[(sT "self" (nat_lit 702)), (sT "name" (nat_lit 703))] 0), #[]⟩
noncomputable def b76 : Obj := ⟨.none, none, (.func (fnP "__getitem__" "Headers.__getitem__" (mth 5))), #[]⟩
noncomputable def b77 : Obj := ⟨(.type "code"), none, (.fields #[(sT "__getitem__" (nat_lit 699)), (sT "Headers.__getitem__" (nat_lit 700)), (sT "/claim/cut.py" (nat_lit 701)), (iT (nat_lit 150) (nat_lit 0)), (iT (nat_lit 2) (nat_lit 0)), (iT (nat_lit 0) (nat_lit 0)), (iT (nat_lit 0) (nat_lit 0)), (iT (nat_lit 3) (nat_lit 0)), (.ref (nat_lit 134)), (.bool true), (iT (nat_lit 276) (nat_lit 0)), (.ref (nat_lit 135)), .none, (.ref (nat_lit 136)), (.ref (nat_lit 137)), (.ref (nat_lit 138)), (iT (nat_lit 704) (nat_lit 0)), (iT (nat_lit 150) (nat_lit 0)), (sT "/claim/cut.py" (nat_lit 705))]), #[]⟩
noncomputable def b78 : Obj := ⟨(.type "function"), none, (.func (fnD (Str.ofString "__getitem__") (Str.ofString "Headers.__getitem__") (mth 5) .none (sT "cpy313.wsgiref.headers" (nat_lit 539)) (.ref (nat_lit 139)))), #[]⟩
noncomputable def b79 : Obj := ⟨(.type "tuple"), none, (.seq #[(sT "self" (nat_lit 710)), (sT "name" (nat_lit 711))] 0), #[]⟩
noncomputable def b80 : Obj := ⟨.none, none, (.func (fnP "__contains__" "Headers.__contains__" (mth 6))), #[]⟩
noncomputable def b81 : Obj := ⟨(.type "code"), none, (.fields #[(sT "__contains__" (nat_lit 707)), (sT "Headers.__contains__" (nat_lit 708)), (sT "/claim/cut.py" (nat_lit 709)), (iT (nat_lit 153) (nat_lit 0)), (iT (nat_lit 2) (nat_lit 0)), (iT (nat_lit 0) (nat_lit 0)), (iT (nat_lit 0) (nat_lit 0)), (iT (nat_lit 3) (nat_lit 0)), (.ref (nat_lit 141)), (.bool true), (iT (nat_lit 276) (nat_lit 0)), (.ref (nat_lit 142)), .none, (.ref (nat_lit 143)), (.ref (nat_lit 144)), (.ref (nat_lit 145)), (iT (nat_lit 712) (nat_lit 0)), (iT (nat_lit 153) (nat_lit 0)), (sT "/claim/cut.py" (nat_lit 713))]), #[]⟩
noncomputable def b82 : Obj := ⟨(.type "function"), none, (.func (fnD (Str.ofString "__contains__") (Str.ofString "Headers.__contains__") (mth 6) .none (sT "cpy313.wsgiref.headers" (nat_lit 539)) (.ref (nat_lit 146)))), #[]⟩
noncomputable def b83 : Obj := ⟨(.type "tuple"), none, (.seq #[(sT "self" (nat_lit 718)), (sT "name" (nat_lit 719))] 0), #[]⟩
noncomputable def b84 : Obj := ⟨.none, none, (.func (fnP "get_all" "Headers.get_all" (mth 7))), #[]⟩
noncomputable def b85 : Obj := ⟨(.type "code"), none, (.fields #[(sT "get_all" (nat_lit 715)), (sT "Headers.get_all" (nat_lit 716)), (sT "/claim/cut.py" (nat_lit 717)), (iT (nat_lit 156) (nat_lit 0)), (iT (nat_lit 2) (nat_lit 0)), (iT (nat_lit 0) (nat_lit 0)), (iT (nat_lit 0) (nat_lit 0)), (iT (nat_lit 3) (nat_lit 0)), (.ref (nat_lit 148)), (.bool true), (iT (nat_lit 276) (nat_lit 0)), (.ref (nat_lit 149)), .none, (.ref (nat_lit 150)), (.ref (nat_lit 151)), (.ref (nat_lit 152)), (iT (nat_lit 720) (nat_lit 0)), (iT (nat_lit 156) (nat_lit 0)), (sT "/claim/cut.py" (nat_lit 721))]), #[]⟩
noncomputable def b86 : Obj := ⟨(.type "function"), none, (.func (fnD (Str.ofString "get_all") (Str.ofString "Headers.get_all") (mth 7) .none (sT "cpy313.wsgiref.headers" (nat_lit 539)) (.ref (nat_lit 153)))), #[]⟩
noncomputable def b87 : Obj := ⟨(.type "tuple"), none, (.seq #[(sT "self" (nat_lit 726)), (sT "name" (nat_lit 727)), (sT "default" (nat_lit 728)), (sT "k" (nat_lit 729)), (sT "v" (nat_lit 730))] 0), #[]⟩
noncomputable def b88 : Obj := ⟨.none, none, (.func (fnP "get" "Headers.get" (mth 8))), #[]⟩
noncomputable def b89 : Obj := ⟨.none, none, (.func (fnP "keys" "Headers.keys" (mth 9))), #[]⟩
noncomputable def b90 : Obj := ⟨(.type "code"), none, (.fields #[(sT "keys" (nat_lit 734)), (sT "Headers.keys" (nat_lit 735)), (sT "/claim/cut.py" (nat_lit 736)), (iT (nat_lit 166) (nat_lit 0)), (iT (nat_lit 1) (nat_lit 0)), (iT (nat_lit 0) (nat_lit 0)), (iT (nat_lit 0) (nat_lit 0)), (iT (nat_lit 3) (nat_lit 0)), (.ref (nat_lit 163)), (.bool true), (iT (nat_lit 276) (nat_lit 0)), (.ref (nat_lit 164)), .none, .none, .none, (.ref (nat_lit 165)), (iT (nat_lit 737) (nat_lit 0)), (iT (nat_lit 166) (nat_lit 0)), (sT "/claim/cut.py" (nat_lit 738))]), #[]⟩
noncomputable def b91 : Obj := ⟨(.type "function"), none, (.func (fnD (Str.ofString "keys") (Str.ofString "Headers.keys") (mth 9) .none (sT "cpy313.wsgiref.headers" (nat_lit 539)) (.ref (nat_lit 166)))), #[]⟩
noncomputable def b92 : Obj := ⟨.none, none, (.func (fnP "values" "Headers.values" (mth 10))), #[]⟩
noncomputable def b93 : Obj := ⟨(.type "code"), none, (.fields #[(sT "values" (nat_lit 740)), (sT "Headers.values" (nat_lit 741)), (sT "/claim/cut.py" (nat_lit 742)), (iT (nat_lit 169) (nat_lit 0)), (iT (nat_lit 1) (nat_lit 0)), (iT (nat_lit 0) (nat_lit 0)), (iT (nat_lit 0) (nat_lit 0)), (iT (nat_lit 3) (nat_lit 0)), (.ref (nat_lit 168)), (.bool true), (iT (nat_lit 276) (nat_lit 0)), (.ref (nat_lit 169)), .none, .none, .none, (.ref (nat_lit 170)), (iT (nat_lit 743) (nat_lit 0)), (iT (nat_lit 169) (nat_lit 0)), (sT "/claim/cut.py" (nat_lit 744))]), #[]⟩
noncomputable def b94 : Obj := ⟨(.type "function"), none, (.func (fnD (Str.ofString "values") (Str.ofString "Headers.values") (mth 10) .none (sT "cpy313.wsgiref.headers" (nat_lit 539)) (.ref (nat_lit 171)))), #[]⟩
noncomputable def b95 : Obj := ⟨(.type "tuple"), none, (.seq #[(sT "self" (nat_lit 749))] 0), #[]⟩
noncomputable def b96 : Obj := ⟨.none, none, (.func (fnP "items" "Headers.items" (mth 11))), #[]⟩
noncomputable def b97 : Obj := ⟨(.type "tuple"), none, (.seq #[(sT "self" (nat_lit 756))] 0), #[]⟩
noncomputable def b98 : Obj := ⟨.none, none, (.func (fnP "__repr__" "Headers.__repr__" (mth 12))), #[]⟩
noncomputable def b99 : Obj := ⟨(.type "code"), none, (.fields #[(sT "__repr__" (nat_lit 753)), (sT "Headers.__repr__" (nat_lit 754)), (sT "/claim/cut.py" (nat_lit 755)), (iT (nat_lit 175) (nat_lit 0)), (iT (nat_lit 1) (nat_lit 0)), (iT (nat_lit 0) (nat_lit 0)), (iT (nat_lit 0) (nat_lit 0)), (iT (nat_lit 3) (nat_lit 0)), (.ref (nat_lit 180)), (.bool true), (iT (nat_lit 276) (nat_lit 0)), (.ref (nat_lit 181)), .none, (.ref (nat_lit 182)), (.ref (nat_lit 183)), (.ref (nat_lit 184)), (iT (nat_lit 757) (nat_lit 0)), (iT (nat_lit 175) (nat_lit 0)), (sT "/claim/cut.py" (nat_lit 758))]), #[]⟩
noncomputable def b100 : Obj := ⟨(.type "function"), none, (.func (fnD (Str.ofString "__repr__") (Str.ofString "Headers.__repr__") (mth 12) .none (sT "cpy313.wsgiref.headers" (nat_lit 539)) (.ref (nat_lit 185)))), #[]⟩
noncomputable def b101 : Obj := ⟨.none, none, (.func (fnP "__str__" "Headers.__str__" (mth 13))), #[]⟩
noncomputable def b102 : Obj := ⟨(.type "code"), none, (.fields #[(sT "__str__" (nat_lit 760)), (sT "Headers.__str__" (nat_lit 761)), (sT "/claim/cut.py" (nat_lit 762)), (iT (nat_lit 178) (nat_lit 0)), (iT (nat_lit 1) (nat_lit 0)), (iT (nat_lit 0) (nat_lit 0)), (iT (nat_lit 0) (nat_lit 0)), (iT (nat_lit 3) (nat_lit 0)), (.ref (nat_lit 187)), (.bool true), (iT (nat_lit 276) (nat_lit 0)), (.ref (nat_lit 188)), .none, .none, .none, (.ref (nat_lit 189)), (iT (nat_lit 763) (nat_lit 0)), (iT (nat_lit 178) (nat_lit 0)), (sT "/claim/cut.py" (nat_lit 764))]), #[]⟩
noncomputable def b103 : Obj := ⟨(.type "function"), none, (.func (fnD (Str.ofString "__str__") (Str.ofString "Headers.__str__") (mth 13) .none (sT "cpy313.wsgiref.headers" (nat_lit 539)) (.ref (nat_lit 190)))), #[]⟩
noncomputable def b104 : Obj := ⟨(.type "tuple"), none, (.seq #[(sT "self" (nat_lit 769))] 0), #[]⟩
noncomputable def b105 : Obj := ⟨.none, none, (.func (fnP "__bytes__" "Headers.__bytes__" (mth 14))), #[]⟩
noncomputable def b106 : Obj := ⟨(.type "code"), none, (.fields #[(sT "__bytes__" (nat_lit 766)), (sT "Headers.__bytes__" (nat_lit 767)), (sT "/claim/cut.py" (nat_lit 768)), (iT (nat_lit 181) (nat_lit 0)), (iT (nat_lit 1) (nat_lit 0)), (iT (nat_lit 0) (nat_lit 0)), (iT (nat_lit 0) (nat_lit 0)), (iT (nat_lit 3) (nat_lit 0)), (.ref (nat_lit 192)), (.bool true), (iT (nat_lit 276) (nat_lit 0)), (.ref (nat_lit 193)), .none, (.ref (nat_lit 194)), (.ref (nat_lit 195)), (.ref (nat_lit 196)), (iT (nat_lit 770) (nat_lit 0)), (iT (nat_lit 181) (nat_lit 0)), (sT "/claim/cut.py" (nat_lit 771))]), #[]⟩
noncomputable def b107 : Obj := ⟨(.type "function"), none, (.func (fnD (Str.ofString "__bytes__") (Str.ofString "Headers.__bytes__") (mth 14) .none (sT "cpy313.wsgiref.headers" (nat_lit 539)) (.ref (nat_lit 197)))), #[]⟩
noncomputable def b108 : Obj := ⟨(.type "tuple"), none, (.seq #[(sT "self" (nat_lit 776)), (sT "name" (nat_lit 777)), (sT "value" (nat_lit 778)), (sT "result" (nat_lit 779))] 0), #[]⟩
noncomputable def b109 : Obj := ⟨.none, none, (.func (fnP "setdefault" "Headers.setdefault" (mth 15))), #[]⟩
noncomputable def b110 : Obj := ⟨(.type "tuple"), none, (.seq #[(sT "self" (nat_lit 786)), (sT "_name" (nat_lit 787)), (sT "_value" (nat_lit 788)), (sT "_params" (nat_lit 789)), (sT "parts" (nat_lit 790)), (sT "k" (nat_lit 791)), (sT "v" (nat_lit 792))] 0), #[]⟩
noncomputable def b111 : Obj := ⟨.none, none, (.func (fnP "add_header" "Headers.add_header" (mth 16))), #[]⟩
noncomputable def b112 : Obj := ⟨(.type "tuple"), none, (.seq #[(sT "_headers" (nat_lit 796))] 0), #[]⟩
noncomputable def b113 : Obj := ⟨(.type "super"), none, (.fields #[(.ref (nat_lit 215)), (.ref (nat_lit 215)), (.ref (nat_lit 215))]), #[]⟩
noncomputable def b114 : Obj := ⟨(.type "builtin_function_or_method"), none, (.fields #[(.builtin "object.__init_subclass__"), (.ref (nat_lit 215))]), #[]⟩
noncomputable def b115 : Obj := ⟨.none, none, (.fields #[(iT (nat_lit 2) (nat_lit 0)), (iT (nat_lit 0) (nat_lit 0)), (.ref (nat_lit 37)), (iT (nat_lit 7) (nat_lit 0)), (iT (nat_lit 0) (nat_lit 0)), (.ref (nat_lit 44)), (iT (nat_lit 13) (nat_lit 0)), (iT (nat_lit 0) (nat_lit 0)), (.ref (nat_lit 51)), (iT (nat_lit 32) (nat_lit 0)), (iT (nat_lit 0) (nat_lit 0)), (.ref (nat_lit 58)), (iT (nat_lit 104) (nat_lit 0)), (iT (nat_lit 0) (nat_lit 0)), (.ref (nat_lit 68)), (iT (nat_lit 110) (nat_lit 0)), (iT (nat_lit 0) (nat_lit 0)), (.ref (nat_lit 91)), (iT (nat_lit 119) (nat_lit 0)), (iT (nat_lit 0) (nat_lit 0)), (.ref (nat_lit 98)), (iT (nat_lit 206) (nat_lit 0)), (iT (nat_lit 0) (nat_lit 0)), (.ref (nat_lit 223)), (iT (nat_lit 210) (nat_lit 0)), (iT (nat_lit 0) (nat_lit 0)), (.ref (nat_lit 228)), (iT (nat_lit 225) (nat_lit 0)), (iT (nat_lit 0) (nat_lit 0)), (.ref (nat_lit 233)), (iT (nat_lit 227) (nat_lit 0)), (iT (nat_lit 0) (nat_lit 0)), (.ref (nat_lit 240)), (iT (nat_lit 241) (nat_lit 0)), (iT (nat_lit 0) (nat_lit 0)), (.ref (nat_lit 247)), (iT (nat_lit 245) (nat_lit 0)), (iT (nat_lit 0) (nat_lit 0)), (.ref (nat_lit 254)), (iT (nat_lit 260) (nat_lit 0)), (iT (nat_lit 0) (nat_lit 0)), (.ref (nat_lit 261)), (iT (nat_lit 262) (nat_lit 0)), (iT (nat_lit 0) (nat_lit 0)), (.ref (nat_lit 268)), (iT (nat_lit 264) (nat_lit 0)), (iT (nat_lit 0) (nat_lit 0)), (.ref (nat_lit 275)), (iT (nat_lit 269) (nat_lit 0)), (iT (nat_lit 0) (nat_lit 0)), (.ref (nat_lit 280)), (iT (nat_lit 283) (nat_lit 0)), (iT (nat_lit 0) (nat_lit 0)), (.ref (nat_lit 285))]), #[]⟩
noncomputable def b116 : Obj := ⟨.none, none, (.func (fnP "_law_parts" "_law_parts" (stm 67))), #[]⟩
noncomputable def b117 : Obj := ⟨.none, none, (.func (fnP "_law_deed" "_law_deed" (stm 68))), #[]⟩
noncomputable def b118 : Obj := ⟨.none, none, (.func (fnP "_law_undone" "_law_undone" (stm 69))), #[]⟩
noncomputable def b119 : Obj := ⟨(.type "tuple"), none, (.seq #[(sT "text" (nat_lit 828)), (sT "front" (nat_lit 829)), (sT "middle" (nat_lit 830)), (sT "rest" (nat_lit 831)), (sT "word" (nat_lit 832)), (sT "sign" (nat_lit 833))] 0), #[]⟩
noncomputable def b120 : Obj := ⟨.none, none, (.func (fnP "_law_symbols" "_law_symbols" (stm 70))), #[]⟩
noncomputable def b121 : Obj := ⟨(.type "tuple"), none, (.seq #[(sT "over" (nat_lit 840)), (sT "under" (nat_lit 841)), (sT "hue" (nat_lit 842)), (sT "own" (nat_lit 843)), (sT "share" (nat_lit 844)), (sT "value" (nat_lit 845))] 0), #[]⟩
noncomputable def b122 : Obj := ⟨.none, none, (.func (fnP "_law_crossed" "_law_crossed" (stm 71))), #[]⟩
noncomputable def b123 : Obj := ⟨(.type "tuple"), none, (.seq #[(sT "word" (nat_lit 852)), (sT "book" (nat_lit 853)), (sT "ends" (nat_lit 854)), (sT "symbol" (nat_lit 855)), (sT "nw" (nat_lit 856)), (sT "ne" (nat_lit 857)), (sT "sw" (nat_lit 858)), (sT "se" (nat_lit 859)), (sT "figure" (nat_lit 860))] 0), #[]⟩
noncomputable def b124 : Obj := ⟨.none, none, (.func (fnP "_law_danced" "_law_danced" (stm 72))), #[]⟩
noncomputable def b125 : Obj := ⟨(.type "tuple"), none, (.seq #[(sT "one" (nat_lit 867)), (sT "two" (nat_lit 868))] 0), #[]⟩
noncomputable def b126 : Obj := ⟨.none, none, (.func (fnP "_law_then" "_law_then" (stm 73))), #[]⟩
noncomputable def b127 : Obj := ⟨(.type "tuple"), none, (.seq #[(sT "one" (nat_lit 875))] 0), #[]⟩
noncomputable def b128 : Obj := ⟨.none, none, (.func (fnP "_law_back" "_law_back" (stm 74))), #[]⟩
noncomputable def b129 : Obj := ⟨(.type "tuple"), none, (.seq #[(sT "part" (nat_lit 882)), (sT "known" (nat_lit 883)), (sT "whole" (nat_lit 884)), (sT "sign" (nat_lit 885))] 0), #[]⟩
noncomputable def b130 : Obj := ⟨.none, none, (.func (fnP "_law_word" "_law_word" (stm 75))), #[]⟩
noncomputable def b131 : Obj := ⟨.none, none, (.func (fnP "_law_known" "_law_known" (stm 76))), #[]⟩
noncomputable def b132 : Obj := ⟨.none, none, (.func (fnP "law" "law" (stm 77))), #[]⟩
noncomputable def H0 (P : Params) : Heap := ⟨⟨[(b0 P), (b1 P), (b2 P), (b3 P), b4, b5, b6, b7, b8, b9, b10, (b11 P), b12, (b13 P), b14, b7, b15, b16, b17, b18, (b19 P), (b20 P), b21, b22, b23, b24, b25, b26]⟩, {}⟩
noncomputable def H1 (P : Params) : Heap := ⟨⟨[(b0 P), (b1 P), (b2 P), (b3 P), b4, b5, b6, b7, b8, b9, b10, (b11 P), b12, (b13 P), b14, b7, b15, b16, b17, b18, (b19 P), (b20 P), b21, b22, b23, b24, b25, b26, b7, b8, b27, b28]⟩, {}⟩
noncomputable def T1 (P : Params) : BT := (.node (b0 P) (.node (b1 P) (.node (b3 P) (.node b7 (.node b7 (.node b28 .nil .nil) .nil) (.node b22 .nil .nil)) (.node (b11 P) (.node b18 .nil .nil) (.node b26 .nil .nil))) (.node b5 (.node b9 (.node b16 .nil .nil) (.node b24 .nil .nil)) (.node (b13 P) (.node (b20 P) .nil .nil) (.node b8 .nil .nil)))) (.node (b2 P) (.node b4 (.node b8 (.node b15 .nil .nil) (.node b23 .nil .nil)) (.node b12 (.node (b19 P) .nil .nil) (.node b7 .nil .nil))) (.node b6 (.node b10 (.node b17 .nil .nil) (.node b25 .nil .nil)) (.node b14 (.node b21 .nil .nil) (.node b27 .nil .nil)))))
noncomputable def T2 (P : Params) : BT := (.node (b0 P) (.node (b1 P) (.node (b29 P) (.node b7 (.node b7 (.node b28 .nil .nil) (.node b8 .nil .nil)) (.node b22 (.node b7 .nil .nil) (.node b39 .nil .nil))) (.node (b11 P) (.node b18 (.node b7 .nil .nil) (.node o51 .nil .nil)) (.node b26 (.node b36 .nil .nil) (.node o59 .nil .nil)))) (.node b5 (.node b9 (.node b16 (.node b8 .nil .nil) (.node b7 .nil .nil)) (.node b24 (.node b35 .nil .nil) (.node b40 .nil .nil))) (.node (b13 P) (.node (b20 P) (.node b33 .nil .nil) (.node b7 .nil .nil)) (.node b30 (.node o45 .nil .nil) .nil)))) (.node (b2 P) (.node b4 (.node b8 (.node b15 (.node b7 .nil .nil) (.node b37 .nil .nil)) (.node b23 (.node b8 .nil .nil) (.node b7 .nil .nil))) (.node b12 (.node (b19 P) (.node b32 .nil .nil) (.node o52 .nil .nil)) (.node b7 (.node o44 .nil .nil) .nil))) (.node b6 (.node b10 (.node b17 (.node b31 .nil .nil) (.node b38 .nil .nil)) (.node b25 (.node b7 .nil .nil) (.node o58 .nil .nil))) (.node b14 (.node b21 (.node b34 .nil .nil) (.node b8 .nil .nil)) (.node b27 (.node b7 .nil .nil) .nil)))))
noncomputable def T3 (P : Params) : BT := (.node (b0 P) (.node (b1 P) (.node (b41 P) (.node b7 (.node b7 (.node b28 .nil .nil) (.node b8 .nil .nil)) (.node b22 (.node b7 .nil .nil) (.node b39 .nil .nil))) (.node (b11 P) (.node b18 (.node b7 .nil .nil) (.node o51 .nil .nil)) (.node b26 (.node b36 .nil .nil) (.node o59 .nil .nil)))) (.node b5 (.node b9 (.node b16 (.node b8 .nil .nil) (.node b7 .nil .nil)) (.node b24 (.node b35 .nil .nil) (.node b40 .nil .nil))) (.node (b13 P) (.node (b20 P) (.node b33 .nil .nil) (.node b7 .nil .nil)) (.node b30 (.node o45 .nil .nil) (.node (b42 P) .nil .nil))))) (.node (b2 P) (.node b4 (.node b8 (.node b15 (.node b7 .nil .nil) (.node b37 .nil .nil)) (.node b23 (.node b8 .nil .nil) (.node b7 .nil .nil))) (.node b12 (.node (b19 P) (.node b32 .nil .nil) (.node o52 .nil .nil)) (.node b7 (.node o44 .nil .nil) (.node (o60 P) .nil .nil)))) (.node b6 (.node b10 (.node b17 (.node b31 .nil .nil) (.node b38 .nil .nil)) (.node b25 (.node b7 .nil .nil) (.node o58 .nil .nil))) (.node b14 (.node b21 (.node b34 .nil .nil) (.node b8 .nil .nil)) (.node b27 (.node b7 .nil .nil) (.node (b43 P) .nil .nil))))))
noncomputable def T4 (P : Params) : BT := (.node (b0 P) (.node (b1 P) (.node (b44 P) (.node b7 (.node b7 (.node b28 (.node b7 .nil .nil) .nil) (.node b8 (.node o79 .nil .nil) .nil)) (.node b22 (.node b7 (.node b6 .nil .nil) .nil) (.node b39 (.node b8 .nil .nil) .nil))) (.node (b11 P) (.node b18 (.node b7 (.node b47 .nil .nil) .nil) (.node o51 (.node o83 .nil .nil) .nil)) (.node b26 (.node b36 (.node b50 .nil .nil) .nil) (.node o59 (.node b55 .nil .nil) .nil)))) (.node b5 (.node b9 (.node b16 (.node b8 (.node b46 .nil .nil) .nil) (.node b7 (.node b6 .nil .nil) .nil)) (.node b24 (.node b35 (.node b49 .nil .nil) .nil) (.node b40 (.node b7 .nil .nil) .nil))) (.node (b13 P) (.node (b20 P) (.node b33 (.node o69 .nil .nil) .nil) (.node b7 (.node b52 .nil .nil) .nil)) (.node b45 (.node o45 (.node o155 .nil .nil) .nil) (.node (b42 P) .nil .nil))))) (.node (b2 P) (.node b4 (.node b8 (.node b15 (.node b7 (.node b8 .nil .nil) .nil) (.node b37 (.node b51 .nil .nil) .nil)) (.node b23 (.node b8 (.node o155 .nil .nil) .nil) (.node b7 (.node b53 .nil .nil) .nil))) (.node b12 (.node (b19 P) (.node b32 (.node o68 .nil .nil) .nil) (.node o52 (.node o84 .nil .nil) .nil)) (.node b7 (.node o44 (.node b6 .nil .nil) .nil) (.node (o60 P) (.node b56 .nil .nil) .nil)))) (.node b6 (.node b10 (.node b17 (.node b31 (.node b7 .nil .nil) .nil) (.node b38 (.node o155 .nil .nil) .nil)) (.node b25 (.node b7 (.node o74 .nil .nil) .nil) (.node o58 (.node b54 .nil .nil) .nil))) (.node b14 (.node b21 (.node b34 (.node b48 .nil .nil) .nil) (.node b8 (.node b7 .nil .nil) .nil)) (.node b27 (.node b7 (.node o78 .nil .nil) .nil) (.node (b43 P) .nil .nil))))))
noncomputable def T5 (P : Params) : BT := (.node (b0 P) (.node (b1 P) (.node (b57 P) (.node b7 (.node b7 (.node b28 (.node b7 (.node o127 .nil .nil) (.node b103 .nil .nil)) (.node (b60 P) (.node b7 .nil .nil) .nil)) (.node b8 (.node o79 (.node b79 .nil .nil) (.node b8 .nil .nil)) (.node b7 (.node b95 .nil .nil) .nil))) (.node b22 (.node b7 (.node b6 (.node b8 .nil .nil) (.node b7 .nil .nil)) (.node b64 (.node b91 .nil .nil) .nil)) (.node b39 (.node b8 (.node b7 .nil .nil) (.node o215 .nil .nil)) (.node b69 (.node b7 .nil .nil) .nil)))) (.node (b11 P) (.node b18 (.node b7 (.node b47 (.node b74 .nil .nil) (.node b7 .nil .nil)) (.node b63 (.node b7 .nil .nil) .nil)) (.node o51 (.node o83 (.node b82 .nil .nil) (.node o211 .nil .nil)) (.node b7 (.node o179 .nil .nil) .nil))) (.node b26 (.node b36 (.node b50 (.node b77 .nil .nil) (.node b109 .nil .nil)) (.node o107 (.node b93 .nil .nil) .nil)) (.node o59 (.node b55 (.node o155 .nil .nil) (.node b114 .nil .nil)) (.node b8 (.node b7 .nil .nil) .nil))))) (.node b5 (.node b9 (.node b16 (.node b8 (.node b46 (.node b7 .nil .nil) (.node b8 .nil .nil)) (.node b61 (.node o161 .nil .nil) .nil)) (.node b7 (.node b6 (.node b80 .nil .nil) (.node b7 .nil .nil)) (.node o113 (.node b96 .nil .nil) .nil))) (.node b24 (.node b35 (.node b49 (.node b7 .nil .nil) (.node b108 .nil .nil)) (.node b65 (.node b8 .nil .nil) .nil)) (.node b40 (.node b7 (.node b85 .nil .nil) (.node o217 .nil .nil)) (.node b71 (.node b99 .nil .nil) .nil)))) (.node (b13 P) (.node (b20 P) (.node b33 (.node o69 (.node o133 .nil .nil) (.node b106 .nil .nil)) (.node b7 (.node b89 .nil .nil) .nil)) (.node b7 (.node b52 (.node b8 .nil .nil) (.node b112 .nil .nil)) (.node b68 (.node b8 .nil .nil) .nil))) (.node b58 (.node o45 (.node o155 (.node b7 .nil .nil) (.node o205 .nil .nil)) (.node b8 (.node b7 .nil .nil) .nil)) (.node (b42 P) (.node b7 (.node b8 .nil .nil) .nil) (.node b7 (.node b101 .nil .nil) .nil)))))) (.node (b2 P) (.node b4 (.node b8 (.node b15 (.node b7 (.node b8 (.node o128 .nil .nil) (.node b7 .nil .nil)) (.node b7 (.node b88 .nil .nil) .nil)) (.node b37 (.node b51 (.node b7 .nil .nil) (.node b110 .nil .nil)) (.node b67 (.node b7 .nil .nil) .nil))) (.node b23 (.node b8 (.node o155 (.node b75 .nil .nil) (.node b8 .nil .nil)) (.node b7 (.node b7 .nil .nil) .nil)) (.node b7 (.node b53 (.node b84 .nil .nil) (.node o216 .nil .nil)) (.node b70 (.node b98 .nil .nil) .nil)))) (.node b12 (.node (b19 P) (.node b32 (.node o68 (.node o132 .nil .nil) (.node b105 .nil .nil)) (.node o155 (.node b8 .nil .nil) .nil)) (.node o52 (.node o84 (.node b7 .nil .nil) (.node o212 .nil .nil)) (.node b8 (.node b7 .nil .nil) .nil))) (.node b7 (.node o44 (.node b6 (.node b78 .nil .nil) (.node o204 .nil .nil)) (.node b7 (.node b94 .nil .nil) .nil)) (.node (o60 P) (.node b56 (.node b7 .nil .nil) .nil) (.node b72 (.node b8 .nil .nil) .nil))))) (.node b6 (.node b10 (.node b17 (.node b31 (.node b7 (.node b8 .nil .nil) (.node b104 .nil .nil)) (.node b62 (.node o162 .nil .nil) .nil)) (.node b38 (.node o155 (.node b81 .nil .nil) (.node b111 .nil .nil)) (.node o114 (.node o178 .nil .nil) .nil))) (.node b25 (.node b7 (.node o74 (.node b76 .nil .nil) (.node b7 .nil .nil)) (.node o106 (.node b92 .nil .nil) .nil)) (.node o58 (.node b54 (.node b86 .nil .nil) (.node b113 .nil .nil)) (.node b7 (.node b100 .nil .nil) .nil)))) (.node b14 (.node b21 (.node b34 (.node b48 (.node b7 .nil .nil) (.node b107 .nil .nil)) (.node b8 (.node b90 .nil .nil) .nil)) (.node b8 (.node b7 (.node b83 .nil .nil) (.node (o214 P) .nil .nil)) (.node b7 (.node b97 .nil .nil) .nil))) (.node b27 (.node b7 (.node o78 (.node b8 .nil .nil) (.node b7 .nil .nil)) (.node b66 (.node b8 .nil .nil) .nil)) (.node (b43 P) (.node b59 (.node b87 .nil .nil) .nil) (.node b73 (.node b102 .nil .nil) .nil)))))))
noncomputable def H6 (P : Params) : Heap := ⟨⟨[(b0 P), (b1 P), (b2 P), (o3 P), b4, b5, b6, b7, b8, b9, b10, (b11 P), b12, (b13 P), b14, b7, b15, b16, b17, b18, (b19 P), (b20 P), b21, b22, b23, b24, b25, b26, b7, b115, b27, b28, b7, b8, b31, b7, b32, b33, b34, b7, b8, b35, b7, b36, o44, o45, b7, b8, b37, b7, b38, o51, o52, b7, b8, b39, b7, b40, o58, o59, (o60 P), (b42 P), (b43 P), b7, b8, b46, b7, b47, o68, o69, b48, b6, o155, b49, o74, b50, b6, o155, o78, o79, b51, b6, o155, o83, o84, b52, b7, b8, b53, b7, b54, b55, b56, b7, b59, (b60 P), b7, b61, b62, b63, o155, b7, b8, b64, b7, b65, o106, o107, b7, b8, b66, b7, b67, o113, o114, b7, b8, b68, b7, b69, b70, b71, b7, b8, b72, b7, b73, o127, o128, b7, b8, b74, o132, o133, b7, b8, b75, b7, b76, b77, b78, b7, b8, b79, b7, b80, b81, b82, b7, b8, b83, b7, b84, b85, b86, o155, b7, b8, b87, b7, b88, o161, o162, b7, b8, b89, b90, b91, b7, b8, b92, b93, b94, b7, b8, b95, b7, b96, o178, o179, b7, b8, b97, b7, b98, b99, b100, b7, b8, b101, b102, b103, b7, b8, b104, b7, b105, b106, b107, b7, b8, b108, b7, b109, o204, o205, b7, b8, b110, b7, b111, o211, o212, b112, (o214 P), o215, o216, o217, b113, b114, b7, b8, b116, o223, o224, b7, b8, b117, o228, o229, b7, b8, b118, o233, o234, b7, b8, b119, b7, b120, o240, o241, b7, b8, b121, b7, b122, o247, o248, b7, b8, b123, b7, b124, o254, o255, b7, b8, b125, b7, b126, o261, o262, b7, b8, b127, b7, b128, o268, o269, b7, b8, b129, b7, b130, o275, o276, b7, b8, b131, o280, o281, b7, b8, b132, o285, o286]⟩, {}⟩
noncomputable def T6 (P : Params) : BT := (.node (b0 P) (.node (b1 P) (.node (o3 P) (.node b7 (.node b7 (.node b28 (.node b7 (.node o127 (.node o255 .nil .nil) .nil) (.node b103 .nil .nil)) (.node (b60 P) (.node b7 .nil .nil) (.node o223 .nil .nil))) (.node b8 (.node o79 (.node b79 (.node b8 .nil .nil) .nil) (.node b8 .nil .nil)) (.node b7 (.node b95 .nil .nil) (.node b120 .nil .nil)))) (.node b22 (.node b7 (.node b6 (.node b8 (.node b7 .nil .nil) .nil) (.node b7 .nil .nil)) (.node b64 (.node b91 .nil .nil) (.node b8 .nil .nil))) (.node b39 (.node b8 (.node b7 (.node b131 .nil .nil) .nil) (.node o215 .nil .nil)) (.node b69 (.node b7 .nil .nil) (.node o247 .nil .nil))))) (.node (b11 P) (.node b18 (.node b7 (.node b47 (.node b74 (.node b7 .nil .nil) .nil) (.node b7 .nil .nil)) (.node b63 (.node b7 .nil .nil) (.node b117 .nil .nil))) (.node o51 (.node o83 (.node b82 (.node o275 .nil .nil) .nil) (.node o211 .nil .nil)) (.node b7 (.node o179 .nil .nil) (.node b8 .nil .nil)))) (.node b26 (.node b36 (.node b50 (.node b77 (.node b128 .nil .nil) .nil) (.node b109 .nil .nil)) (.node o107 (.node b93 .nil .nil) (.node b7 .nil .nil))) (.node o59 (.node b55 (.node o155 (.node b8 .nil .nil) .nil) (.node b114 .nil .nil)) (.node b8 (.node b7 .nil .nil) (.node b123 .nil .nil)))))) (.node b5 (.node b9 (.node b16 (.node b8 (.node b46 (.node b7 (.node b8 .nil .nil) .nil) (.node b8 .nil .nil)) (.node b61 (.node o161 .nil .nil) (.node b7 .nil .nil))) (.node b7 (.node b6 (.node b80 (.node b7 .nil .nil) .nil) (.node b7 .nil .nil)) (.node o113 (.node b96 .nil .nil) (.node o241 .nil .nil)))) (.node b24 (.node b35 (.node b49 (.node b7 (.node b127 .nil .nil) .nil) (.node b108 .nil .nil)) (.node b65 (.node b8 .nil .nil) (.node o233 .nil .nil))) (.node b40 (.node b7 (.node b85 (.node o281 .nil .nil) .nil) (.node o217 .nil .nil)) (.node b71 (.node b99 .nil .nil) (.node b7 .nil .nil))))) (.node (b13 P) (.node (b20 P) (.node b33 (.node o69 (.node o133 (.node o261 .nil .nil) .nil) (.node b106 .nil .nil)) (.node b7 (.node b89 .nil .nil) (.node o229 .nil .nil))) (.node b7 (.node b52 (.node b8 (.node b7 .nil .nil) .nil) (.node b112 .nil .nil)) (.node b68 (.node b8 .nil .nil) (.node b7 .nil .nil)))) (.node b115 (.node o45 (.node o155 (.node b7 (.node o269 .nil .nil) .nil) (.node o205 .nil .nil)) (.node b8 (.node b7 .nil .nil) (.node b119 .nil .nil))) (.node (b42 P) (.node b7 (.node b8 (.node o285 .nil .nil) .nil) (.node b8 .nil .nil)) (.node b7 (.node b101 .nil .nil) (.node b124 .nil .nil))))))) (.node (b2 P) (.node b4 (.node b8 (.node b15 (.node b7 (.node b8 (.node o128 (.node b7 .nil .nil) .nil) (.node b7 .nil .nil)) (.node b7 (.node b88 .nil .nil) (.node o224 .nil .nil))) (.node b37 (.node b51 (.node b7 (.node b129 .nil .nil) .nil) (.node b110 .nil .nil)) (.node b67 (.node b7 .nil .nil) (.node o240 .nil .nil)))) (.node b23 (.node b8 (.node o155 (.node b75 (.node b8 .nil .nil) .nil) (.node b8 .nil .nil)) (.node b7 (.node b7 .nil .nil) (.node b118 .nil .nil))) (.node b7 (.node b53 (.node b84 (.node o280 .nil .nil) .nil) (.node o216 .nil .nil)) (.node b70 (.node b98 .nil .nil) (.node o248 .nil .nil))))) (.node b12 (.node (b19 P) (.node b32 (.node o68 (.node o132 (.node b126 .nil .nil) .nil) (.node b105 .nil .nil)) (.node o155 (.node b8 .nil .nil) (.node o228 .nil .nil))) (.node o52 (.node o84 (.node b7 (.node o276 .nil .nil) .nil) (.node o212 .nil .nil)) (.node b8 (.node b7 .nil .nil) (.node b121 .nil .nil)))) (.node b7 (.node o44 (.node b6 (.node b78 (.node o268 .nil .nil) .nil) (.node o204 .nil .nil)) (.node b7 (.node b94 .nil .nil) (.node b8 .nil .nil))) (.node (o60 P) (.node b56 (.node b7 (.node b132 .nil .nil) .nil) (.node b7 .nil .nil)) (.node b72 (.node b8 .nil .nil) (.node b7 .nil .nil)))))) (.node b6 (.node b10 (.node b17 (.node b31 (.node b7 (.node b8 (.node b125 .nil .nil) .nil) (.node b104 .nil .nil)) (.node b62 (.node o162 .nil .nil) (.node b8 .nil .nil))) (.node b38 (.node o155 (.node b81 (.node b130 .nil .nil) .nil) (.node b111 .nil .nil)) (.node o114 (.node o178 .nil .nil) (.node b7 .nil .nil)))) (.node b25 (.node b7 (.node o74 (.node b76 (.node b7 .nil .nil) .nil) (.node b7 .nil .nil)) (.node o106 (.node b92 .nil .nil) (.node o234 .nil .nil))) (.node o58 (.node b54 (.node b86 (.node b7 .nil .nil) .nil) (.node b113 .nil .nil)) (.node b7 (.node b100 .nil .nil) (.node b8 .nil .nil))))) (.node b14 (.node b21 (.node b34 (.node b48 (.node b7 (.node o262 .nil .nil) .nil) (.node b107 .nil .nil)) (.node b8 (.node b90 .nil .nil) (.node b7 .nil .nil))) (.node b8 (.node b7 (.node b83 (.node b8 .nil .nil) .nil) (.node (o214 P) .nil .nil)) (.node b7 (.node b97 .nil .nil) (.node b122 .nil .nil)))) (.node b27 (.node b7 (.node o78 (.node b8 (.node b7 .nil .nil) .nil) (.node b7 .nil .nil)) (.node b66 (.node b8 .nil .nil) (.node b7 .nil .nil))) (.node (b43 P) (.node b59 (.node b87 (.node o286 .nil .nil) .nil) (.node b116 .nil .nil)) (.node b73 (.node b102 .nil .nil) (.node o254 .nil .nil))))))))
end
end
section
open PySem PySem.W PySem.Calls PyProof.Rows
noncomputable def env0 : Env := { scope := pw.main.scope, locals := mainNs, globals := mainNs, cells := [], code := .ref (nat_lit 30), frame := some (nat_lit 31) }
noncomputable def bd : List Stmt := behindTheImports pw
noncomputable def cE : Code := .body bd env0
noncomputable def p0 : Pos := ⟨0, 0, 0, 0⟩
noncomputable abbrev an6 : Option Value := some (.ref (nat_lit 6))
noncomputable abbrev fr0 : List Frame := [topFrame p0]
noncomputable abbrev sh (H : Params → Heap) (tk : Nat) (w : World) (os : OsState) : Shared := ⟨H w.params, #[], {}, tk, os⟩
noncomputable abbrev st (T : Params → BT) (n tk : Nat) (w : World) (os : OsState) : SharedT := ⟨T w.params, n, {}, #[], {}, tk, os⟩
theorem h_pre (w : World) (os : OsState) : topGo treeTable pw w (nat_lit 28) an6 (nat_lit 12) (sh H0 (nat_lit 276) w os) (topStub pw) = some (sh H1 (nat_lit 282) w os, ⟨denote treeTable cE, cE, p0, fr0⟩) := by kernel_rfl
theorem h_blk (w : World) (os : OsState) : segRun treeTable pw w (nat_lit 28) an6 (nat_lit 1) (nat_lit 1) (sh H1 (nat_lit 282) w os) (blockOf bd env0 cE p0 fr0) = some (.next, (st T1 (nat_lit 32) (nat_lit 282) w os).abs, cE, p0) := by kernel_rfl
end
section
open PySem PySem.W PySem.Calls PyProof.Rows
theorem h_A (w : World) (os : OsState) : segRunT treeTable pw w (nat_lit 28) an6 (nat_lit 1) (nat_lit 613) (st T1 (nat_lit 32) (nat_lit 282) w os) (piecesOf (bd.take 57) env0 cE p0 fr0) = some (.next, st T2 (nat_lit 60) (nat_lit 435) w os, cE, ⟨102, 0, 102, 9⟩) := by kernel_rfl
end
section
open PySem PySem.W PySem.Calls PyProof.Rows
theorem h_C (w : World) (os : OsState) : segRunT treeTable pw w (nat_lit 28) an6 (nat_lit 1) (nat_lit 295) (st T3 (nat_lit 63) (nat_lit 532) w os) (piecesOf ((bd.drop 58).take 6) env0 cE ⟨103, 0, 103, 17⟩ fr0) = some (.next, st T4 (nat_lit 93) (nat_lit 645) w os, cE, ⟨110, 0, 118, 20⟩) := by kernel_rfl
end
section
open PySem PySem.W PySem.Calls PyProof.Rows
theorem h_D (w : World) (os : OsState) : segRunT treeTable pw w (nat_lit 28) an6 (nat_lit 1) (nat_lit 732) (st T4 (nat_lit 93) (nat_lit 645) w os) (piecesOf ((bd.drop 64).take 1) env0 cE ⟨110, 0, 118, 20⟩ fr0) = some (.next, st T5 (nat_lit 220) (nat_lit 805) w os, cE, ⟨119, 0, 204, 93⟩) := by kernel_rfl
end
section
open PySem PySem.W PySem.Calls PyProof.Rows
theorem h_E (w : World) (os : OsState) : segRunT treeTable pw w (nat_lit 28) an6 (nat_lit 1) (nat_lit 336) (st T5 (nat_lit 220) (nat_lit 805) w os) (piecesOf (bd.drop 65) env0 cE ⟨119, 0, 204, 93⟩ fr0) = some (.next, st T6 (nat_lit 287) (nat_lit 901) w os, cE, ⟨283, 0, 304, 82⟩) := by kernel_rfl
theorem h_fin (w : World) (os : OsState) : topRun treeTable pw w (nat_lit 28) an6 (nat_lit 2) (st T6 (nat_lit 287) (nat_lit 901) w os).abs ⟨doneF .next, cE, ⟨283, 0, 304, 82⟩, fr0⟩ = some (sh H6 (nat_lit 901) w os) := by kernel_rfl
end
section
open PySem PySem.W PySem.Calls PyProof.Rows
theorem h_Bf (w : World) (os : OsState) : segRunT treeTable pw (w.withFollow "special-get-raises" false) (nat_lit 28) an6 (nat_lit 1) (nat_lit 979) (st T2 (nat_lit 60) (nat_lit 435) (w.withFollow "special-get-raises" false) os) (piecesOf ((bd.drop 57).take 1) env0 cE ⟨102, 0, 102, 9⟩ fr0) = some (.next, st T3 (nat_lit 63) (nat_lit 532) (w.withFollow "special-get-raises" false) os, cE, ⟨103, 0, 103, 17⟩) := by kernel_rfl
theorem h_Bt (w : World) (os : OsState) : segRunT treeTable pw (w.withFollow "special-get-raises" true) (nat_lit 28) an6 (nat_lit 1) (nat_lit 979) (st T2 (nat_lit 60) (nat_lit 435) (w.withFollow "special-get-raises" true) os) (piecesOf ((bd.drop 57).take 1) env0 cE ⟨102, 0, 102, 9⟩ fr0) = some (.next, st T3 (nat_lit 63) (nat_lit 532) (w.withFollow "special-get-raises" true) os, cE, ⟨103, 0, 103, 17⟩) := by kernel_rfl
end
section
open PySem PySem.W PySem.Calls PyProof.Rows
theorem h_open (w : World) : (fencedOpening treeTable pw w (nat_lit 3000)).map (fun s => (s.heap, s.gens, s.drawn, s.toks)) = some (H0 w.params, #[], {}, (nat_lit 276)) := by kernel_rfl
end
section
open PySem PySem.W PySem.Calls PyProof.Rows
theorem h_B (w : World) (os : OsState) : segRunT treeTable pw w (nat_lit 28) an6 (nat_lit 1) (nat_lit 979) (st T2 (nat_lit 60) (nat_lit 435) w os) (piecesOf ((bd.drop 57).take 1) env0 cE ⟨102, 0, 102, 9⟩ fr0) = some (.next, st T3 (nat_lit 63) (nat_lit 532) w os, cE, ⟨103, 0, 103, 17⟩) :=
  byRow2 "special-get-raises" (P := fun w => segRunT treeTable pw w (nat_lit 28) an6 (nat_lit 1) (nat_lit 979) (st T2 (nat_lit 60) (nat_lit 435) w os) (piecesOf ((bd.drop 57).take 1) env0 cE ⟨102, 0, 102, 9⟩ fr0) = some (.next, st T3 (nat_lit 63) (nat_lit 532) w os, cE, ⟨103, 0, 103, 17⟩))
    (fun w => h_Bf w os) (fun w => h_Bt w os) w
theorem bd_split : bd.take 57 ++ ((bd.drop 57).take 1 ++ ((bd.drop 58).take 6 ++ ((bd.drop 64).take 1 ++ (bd.drop 65 ++ [])))) = bd := by
  rw [List.append_nil, show bd.drop 65 = (bd.drop 64).drop 1 by rw [List.drop_drop], List.take_append_drop, show bd.drop 64 = (bd.drop 58).drop 6 by rw [List.drop_drop], List.take_append_drop, show bd.drop 58 = (bd.drop 57).drop 1 by rw [List.drop_drop], List.take_append_drop, List.take_append_drop]
theorem h_run (w : World) (os : OsState) : topRun treeTable pw w (nat_lit 28) an6 2970 (sh H0 (nat_lit 276) w os) (topStub pw) = some (sh H6 (nat_lit 901) w os) := by
  have kE := piece_app (env := env0) (rest := []) (segRun_of (h_E w os)) (piece_nil (h_fin w os))
  have kD := piece_app (env := env0) (segRun_of (h_D w os)) kE
  have kC := piece_app (env := env0) (segRun_of (h_C w os)) kD
  have kB := piece_app (env := env0) (segRun_of (h_B w os)) kC
  have kA := piece_app (env := env0) (segRun_of (h_A w os)) kB
  rw [bd_split] at kA
  exact go_top (h_pre w os) (piece_block (h_blk w os) kA)
end
section
open PySem PySem.W PySem.Calls PyProof.Rows
noncomputable def qv : Program := { pw with main := { pw.main with body := [stm 77] } }
noncomputable def looseL : List Str := (pw.main.scope.names.map (·.1)).filter fun x => x != Str.ofString "law"
noncomputable def xt : Shared → Bool := fun _ => true
noncomputable def adKF : List Addr := [3, 44, 45, 51, 52, 58, 59, 60, 68, 69, 74, 78, 79, 83, 84, 100, 106, 107, 113, 114, 127, 128, 132, 133, 155, 161, 162, 178, 179, 204, 205, 211, 212, 214, 215, 216, 217, 223, 224, 228, 229, 233, 234, 240, 241, 247, 248, 254, 255, 261, 262, 268, 269, 275, 276, 280, 281, 285, 286]
theorem adKF_eq (P : Params) : adKF = (KF P).map (·.1) := rfl
noncomputable def yF (s : Shared) : List (Option Obj) × Bool × Bool × Nat := (adKF.map s.heap.get?, s.heap.isNs cStatics, (s.heap.nsMap cStatics sharingNotToldKey).isNone, s.toks)
noncomputable def yA (w : World) : List (Option Obj) × Bool × Bool × Nat := ((KF w.params).map (fun p => some p.2), true, true, nat_lit 901)
theorem h_size (w : World) : ((H0 w.params).isNs mainGlobals && (#[] : Array GenState).size == 0, (H0 w.params).objs.size, (H0 w.params).nsMap mainGlobals "__annotations__") = (true, nat_lit 28, an6) := by kernel_rfl
theorem h_l3 (w : World) (os : OsState) : yF (sh H6 (nat_lit 901) w os) = yA w := by kernel_rfl
theorem h_l1 (w : World) (os : OsState) : (staticsOk (importedModules pw.main.body) (H0 w.params) (H6 w.params) && namesBound pw (H6 w.params) && gensDone (sh H6 (nat_lit 901) w os) && laidKept (H0 w.params) (H6 w.params)) = true := by kernel_rfl
theorem h_l2 (w : World) (os : OsState) : openSeen qv looseL (importedModules pw.main.body) xt true (sh H6 (nat_lit 901) w os) = openGood qv looseL := by kernel_rfl
theorem h_left : LeftO pw qv looseL xt yF yA (nat_lit 3000) true :=
  LeftO.of_pieces (H₀ := H0) (H₁ := H6) h_open h_size h_run (by rfl) fun w => funext fun os => by rw [h_l1, h_l2, h_l3]
end
section
open PySem PySem.W PySem.Calls PyProof.Rows
theorem law_looks : (chainsOk qv && opensWell pw && (frees rowL.toRowW && rowL.within.isEmpty)) = true := by kernel_rfl
theorem gd_of {w : World} {s s₁ : Shared} {R : WRecords} {XP : (Str → Option Value) → Heap → Prop} {mg mb : Str → Option Value} (G : Ground qv looseL R XP w s mg mb s₁.heap) (y : yF s = yA w) (k : ∀ b o, s.heap.get? b = some o → s₁.heap.get? b = some o) : Gd (KF w.params) s₁.heap := by
  have y1 : adKF.map s.heap.get? = (KF w.params).map (fun p => some p.2) := congrArg (·.1) y
  have y2 : s.heap.isNs cStatics = true := congrArg (·.2.1) y
  have y3 : (s.heap.nsMap cStatics sharingNotToldKey).isNone = true := congrArg (·.2.2.1) y
  exact ⟨(Frag.in_of (adKF_eq _) y1).keeps k, ⟨mg, G.T.g⟩, ⟨mb, G.T.b, G.T.builtins⟩, G.T.nolimit, ⟨_, (Heap.Ns.of_isNs y2).keeps k, Option.isNone_iff_eq_none.mp y3⟩⟩
theorem row_holds (said : rowL.wellSaid = true) : rowL.Holds := by
  refine head_of (r := rowL) (q := qv) (XP := fun _ _ => True) (f := .ref 286) h_left (fun _ _ => trivial) (fun _ _ _ _ _ => trivial) (fun s _ => recFacts_nil rfl) rfl said law_looks ⟨rfl, rfl, rfl, rfl, rfl, by decide +kernel⟩ ⟨[.list []], by decide +kernel, by decide +kernel⟩ ?_ ?_
  · intro w s y hg G n hn
    have e : n = rowL.name := by
      split at hn
      · exact List.mem_singleton.mp hn
      · cases hn
    subst e
    exact pinned_of_view hg G (d := ⟨Str.ofString "law", fArgs (stm 77), fBody (stm 77), fScope (stm 77), ⟨283, 0, 304, 82⟩⟩) (kwd := []) (by kernel_rfl) (by kernel_rfl) (by rfl)
  · intro w s s₁ mg mb G y args vs as hpre hlay L
    have gd := gd_of G y L.keeps
    obtain ⟨ord, hord, hlaid⟩ := L.laid
    have z : 0 < s₁.toks := by
      have y4 : s.toks = 901 := congrArg (·.2.2.2) y
      have := (layAllW_grows _ _ _ hlaid).toks
      exact Nat.lt_of_lt_of_le (by rw [y4]; decide) this
    exact ⟨mg_of gd.kin G.T.g (by rfl), walk_law gd z L.gens hpre L.reads⟩
end
section
open PySem PySem.W PySem.Calls PyProof.Rows
noncomputable abbrev lw : OpenLaw := PySem.Challenge.rw_wf0089_01
section
set_option maxHeartbeats 0
theorem said1 : sreFenced lw.row.prog.main = true := by kernel_rfl
theorem said2 : namesResolve lw.row.prog = true := by kernel_rfl
theorem said3 : noRoadLSs { strict := !(importedModules lw.row.prog.main.body).all cThrough.contains, foot := none, bare := (["vars", "dir", "locals"] : List Str).filter (readsOut lw.row.prog lw.row.prog.main.body) } lw.row.prog.main.body = true := by kernel_rfl
theorem said4 : (namesMeet lw.row.prog lw.row.prog.main.body fun _ n => attrL n) = true := by kernel_rfl
theorem said5 : looksOpen lw.row.prog = true := by
  unfold looksOpen
  rw [said1, said2, said3, said4]
  kernel_rfl
theorem said6 : lw.row.wellSaid = true := by
  unfold OpenRow.wellSaid OpenRow.partSaid
  rw [said5]
  kernel_rfl
theorem said7 : lw.bound'.all (fun n => !builtinNamed n || lw.about == [n] || !lw.reads n) = true := by kernel_rfl
theorem said8 : noRoadLSs { strict := true, foot := some lw.bound', writes := lw.writes, may := lw.may } lw.footing = true := by kernel_rfl
theorem law_said : lw.wellSaid = true := by
  unfold OpenLaw.wellSaid
  rw [said6, said7, said8]
  kernel_rfl
end
end
end
end Mine
theorem PySem.Challenge.cw_wf0089_01_holds : PySem.Challenge.rw_wf0089_01.Holds :=
  PySem.W.holds_law Mine.law_said fun said => Mine.row_holds said
