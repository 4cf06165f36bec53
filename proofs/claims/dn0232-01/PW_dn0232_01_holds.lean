import PyProof.Rows.All
import Wide.All
import OpenK.AllK
import Wide.FinOn
import KE.FramesApart
import PyProof.Draws
import PyProof.ZipIter
import PyProof.SetRoads
import PyProof.Rows.SetFrom
import KE.KLcPair
import PySem.Challenge.RW_dn0232_01
open PySem PySem.W PySem.Calls PyProof.Rows
set_option Elab.async false
set_option maxRecDepth 100000
set_option maxHeartbeats 4000000
set_option linter.unusedVariables false
set_option linter.unusedSimpArgs false
namespace Mine

/-! ### names known of a frame -/
def lk : List (Str × Value) → Str → Option Value
  | [], _ => none
  | (n, v) :: r, x => if n = x then some v else lk r x
def up (x : Str) (v : Value) : List (Str × Value) → List (Str × Value)
  | [] => [(x, v)]
  | (n, u) :: r => if n = x then (n, v) :: r else (n, u) :: up x v r
theorem lk_up (x y : Str) (v : Value) : ∀ b, lk (up x v b) y = if y = x then some v else lk b y
  | [] => by simp only [up, lk]; by_cases h : x = y <;> simp [h, eq_comm]
  | (n, u) :: r => by
    simp only [up]
    by_cases h : n = x
    · subst h; simp only [if_true, lk]
      by_cases h2 : n = y
      · simp [h2]
      · simp [h2, Ne.symm h2, eq_comm]
    · simp only [if_neg h, lk, lk_up x y v r]
      by_cases h2 : n = y
      · subst h2; simp [h]
      · simp [h2]
/-- all that `b` says, `b'` says -/
def Sub (b' b : List (Str × Value)) : Prop := ∀ x v, lk b x = some v → lk b' x = some v
theorem Sub.nil (b) : Sub b [] := fun _ _ h => by simp [lk] at h
theorem Sub.cons {b' b : List (Str × Value)} {n : Str} {u : Value} (h : lk b' n = some u) (hs : Sub b' b) : Sub b' ((n, u) :: b) := fun x v e => by
  simp only [lk] at e
  by_cases hn : n = x
  · subst hn; simp at e; subst e; exact h
  · simp [hn] at e; exact hs x v e

/-! ### what a made object is -/
abbrev Ent := Addr × (Obj → Prop)
def Frm (b : List (Str × Value)) (o : Obj) : Prop := ∃ es ep, o.data = .dict es ep ∧ StrKeys es ∧ ∀ x v, lk b x = some v → nsFind es x = some v
def Lst (vs : List Value) (o : Obj) : Prop := o.cls = .type "list" ∧ o.dict = none ∧ o.slots = #[] ∧ ∃ n, o.data = .seq vs.toArray n
def Tup (vs : List Value) (o : Obj) : Prop := o.cls = .type "tuple" ∧ o.dict = none ∧ o.slots = #[] ∧ ∃ n, o.data = .seq vs.toArray n
def Cel (v : Option Value) (o : Obj) : Prop := o.data = .cell v
theorem Frm.weak {b b' : List (Str × Value)} {o : Obj} (h : Frm b' o) (hs : Sub b' b) : Frm b o := let ⟨es, ep, h1, h2, h3⟩ := h; ⟨es, ep, h1, h2, fun x v e => h3 x v (hs x v e)⟩

structure St (s₁ : Shared) (L : Addr) (b : List (Str × Value)) (H : List Ent) (s : Shared) : Prop where
  ns : ∃ o, s.heap.get? L = some o ∧ Frm b o
  keep : ∀ a o, s₁.heap.get? a = some o → s.heap.get? a = some o
  fr : s₁.heap.get? L = none
  nw : ∀ p ∈ H, ∃ o, s.heap.get? p.1 = some o ∧ p.2 o
  fresh : ∀ p ∈ H, p.1 ≠ L ∧ s₁.heap.get? p.1 = none
  nd : (H.map (·.1)).Nodup
  eq : ∃ h tk, s = { s₁ with heap := h, toks := tk }

/-! ### changing one entry -/
inductive Upd (a : Addr) (P P' : Obj → Prop) : List Ent → List Ent → Prop
  | head (r) : Upd a P P' ((a, P) :: r) ((a, P') :: r)
  | tail (p) {r r'} : Upd a P P' r r' → Upd a P P' (p :: r) (p :: r')
  | appL {r r'} (q) : Upd a P P' r r' → Upd a P P' (r ++ q) (r' ++ q)
  | appR (q) {r r'} : Upd a P P' r r' → Upd a P P' (q ++ r) (q ++ r')
theorem Upd.split {a P P' H H'} (U : Upd a P P' H H') : ∃ x y, H = x ++ (a, P) :: y ∧ H' = x ++ (a, P') :: y := by
  induction U with
  | head r => exact ⟨[], r, rfl, rfl⟩
  | tail p _ ih => obtain ⟨x, y, rfl, rfl⟩ := ih; exact ⟨p :: x, y, rfl, rfl⟩
  | appL q _ ih => obtain ⟨x, y, rfl, rfl⟩ := ih; exact ⟨x, y ++ q, by simp, by simp⟩
  | appR q _ ih => obtain ⟨x, y, rfl, rfl⟩ := ih; exact ⟨q ++ x, y, by simp, by simp⟩
theorem Upd.mem {a P P' H H'} (U : Upd a P P' H H') : (a, P) ∈ H := by obtain ⟨x, y, rfl, _⟩ := U.split; simp

section
variable {s₁ s : Shared} {L : Addr} {b : List (Str × Value)} {H H' : List Ent}

theorem St.get (S : St s₁ L b H s) {a : Addr} {P : Obj → Prop} (h : (a, P) ∈ H) : ∃ o, s.heap.get? a = some o ∧ P o := S.nw _ h
theorem St.tok (S : St s₁ L b H s) (k : Nat) : St s₁ L b H { s with toks := k } :=
  ⟨S.ns, S.keep, S.fr, S.nw, S.fresh, S.nd, let ⟨h, tk, e⟩ := S.eq; ⟨h, k, by rw [e]⟩⟩

theorem St.size (S : St s₁ L b H s) : s₁.heap.get? s.heap.objs.size = none ∧ s.heap.objs.size ≠ L ∧ ∀ p ∈ H, p.1 ≠ s.heap.objs.size := by
  refine ⟨?_, ?_, ?_⟩
  · cases h : s₁.heap.get? s.heap.objs.size with
    | none => rfl
    | some o => exact absurd (Heap.lt_size (S.keep _ _ h)) (Nat.lt_irrefl _)
  · obtain ⟨o, ho, _⟩ := S.ns; exact Nat.ne_of_gt (Heap.lt_size ho)
  · intro p hp; obtain ⟨o, ho, _⟩ := S.nw p hp; exact Nat.ne_of_lt (Heap.lt_size ho)

/-- any later heap that keeps all -/
theorem St.ext (S : St s₁ L b H s) {h' : Heap} (k : Nat) (hk : ∀ a o, s.heap.get? a = some o → h'.get? a = some o) : St s₁ L b H { s with heap := h', toks := k } where
  ns := let ⟨o, ho, h⟩ := S.ns; ⟨o, hk _ _ ho, h⟩
  keep := fun a o e => hk _ _ (S.keep a o e)
  fr := S.fr
  nw := fun p hp => let ⟨o, ho, h⟩ := S.nw p hp; ⟨o, hk _ _ ho, h⟩
  fresh := S.fresh
  nd := S.nd
  eq := let ⟨h, tk, e⟩ := S.eq; ⟨h', k, by rw [e]⟩

/-- a new object at a place that was free -/
theorem St.new (S : St s₁ L b H s) {h' : Heap} {a : Addr} {P : Obj → Prop} (k : Nat) (hk : ∀ a o, s.heap.get? a = some o → h'.get? a = some o) (ha : s.heap.get? a = none) (hP : ∃ o, h'.get? a = some o ∧ P o) :
    St s₁ L b ((a, P) :: H) { s with heap := h', toks := k } where
  ns := (S.ext k hk).ns
  keep := (S.ext k hk).keep
  fr := S.fr
  nw := fun p hp => by
    rcases List.mem_cons.mp hp with rfl | hp
    · exact hP
    · exact (S.ext k hk).nw p hp
  fresh := fun p hp => by
    rcases List.mem_cons.mp hp with rfl | hp
    · refine ⟨?_, ?_⟩
      · rintro rfl; obtain ⟨o, ho, _⟩ := S.ns; rw [ha] at ho; cases ho
      · cases e : s₁.heap.get? a with
        | none => rfl
        | some o => have := S.keep _ _ e; rw [ha] at this; cases this
    · exact S.fresh p hp
  nd := by
    refine List.nodup_cons.mpr ⟨fun hm => ?_, S.nd⟩
    obtain ⟨q, hq, e⟩ := List.mem_map.mp hm
    obtain ⟨o, ho, _⟩ := S.nw q hq
    have e' : q.1 = a := e
    rw [e', ha] at ho; cases ho
  eq := (S.ext k hk).eq

theorem get?_size_none (h : Heap) : h.get? h.objs.size = none := by
  cases e : h.get? h.objs.size with
  | none => rfl
  | some o => exact absurd (Heap.lt_size e) (Nat.lt_irrefl _)

theorem St.push (S : St s₁ L b H s) {o : Obj} {P : Obj → Prop} (hP : P o) (k : Nat) (hf : o.isFreed = false := by rfl) : St s₁ L b ((s.heap.objs.size, P) :: H) { s with heap := s.heap.push o, toks := k } :=
  S.new k (fun _ _ e => Heap.get?_push_of_some _ e) (get?_size_none _) ⟨o, Heap.get?_push_size _ hf, hP⟩

/-- one object changed -/
theorem St.upd (S : St s₁ L b H s) {h' : Heap} {a : Addr} {P P' : Obj → Prop} (U : Upd a P P' H H') (k : Nat) (hk : ∀ c o, c ≠ a → s.heap.get? c = some o → h'.get? c = some o) (hP : ∃ o, h'.get? a = some o ∧ P' o) :
    St s₁ L b H' { s with heap := h', toks := k } := by
  obtain ⟨x, y, rfl, rfl⟩ := U.split
  have ha := S.fresh (a, P) (by simp)
  have hnd : ((x ++ (a, P') :: y).map (·.1)).Nodup := by have := S.nd; simpa using this
  have hne : ∀ p ∈ x ++ y, p.1 ≠ a := by
    intro p hp e
    have h1 := S.nd
    simp only [List.map_append, List.map_cons] at h1
    have h2 := (List.nodup_append.mp h1)
    rcases List.mem_append.mp hp with hp | hp
    · exact h2.2.2 p.1 (List.mem_map.mpr ⟨p, hp, rfl⟩) a (by simp) e
    · exact (List.nodup_cons.mp h2.2.1).1 (List.mem_map.mpr ⟨p, hp, e⟩)
  refine ⟨?_, ?_, S.fr, ?_, ?_, hnd, ?_⟩
  · obtain ⟨o, ho, h⟩ := S.ns; exact ⟨o, hk _ _ (Ne.symm ha.1) ho, h⟩
  · intro c o e; exact hk _ _ (by rintro rfl; have := ha.2; simp only at this; rw [this] at e; cases e) (S.keep c o e)
  · intro p hp
    rcases List.mem_append.mp hp with hp | hp
    · obtain ⟨o, ho, h⟩ := S.nw p (by simp [hp]); exact ⟨o, hk _ _ (hne p (by simp [hp])) ho, h⟩
    · rcases List.mem_cons.mp hp with rfl | hp
      · exact hP
      · obtain ⟨o, ho, h⟩ := S.nw p (by simp [hp]); exact ⟨o, hk _ _ (hne p (by simp [hp])) ho, h⟩
  · intro p hp
    rcases List.mem_append.mp hp with hp | hp
    · exact S.fresh p (by simp [hp])
    · rcases List.mem_cons.mp hp with rfl | hp
      · exact ha
      · exact S.fresh p (by simp [hp])
  · obtain ⟨h, tk, e⟩ := S.eq; exact ⟨h', k, by rw [e]⟩

/-- the frame's own names changed -/
theorem St.frame (S : St s₁ L b H s) {h' : Heap} {b' : List (Str × Value)} (k : Nat) (hk : ∀ c o, c ≠ L → s.heap.get? c = some o → h'.get? c = some o) (hP : ∃ o, h'.get? L = some o ∧ Frm b' o) :
    St s₁ L b' H { s with heap := h', toks := k } where
  ns := hP
  keep := fun c o e => hk _ _ (by rintro rfl; rw [S.fr] at e; cases e) (S.keep c o e)
  fr := S.fr
  nw := fun p hp => let ⟨o, ho, h⟩ := S.nw p hp; ⟨o, hk _ _ (S.fresh p hp).1 ho, h⟩
  fresh := S.fresh
  nd := S.nd
  eq := let ⟨h, tk, e⟩ := S.eq; ⟨h', k, by rw [e]⟩

theorem St.bind (S : St s₁ L b H s) {b' : List (Str × Value)} (hb : Sub b b') : St s₁ L b' H s := ⟨let ⟨o, ho, h⟩ := S.ns; ⟨o, ho, h.weak hb⟩, S.keep, S.fr, S.nw, S.fresh, S.nd, S.eq⟩
theorem St.perm (S : St s₁ L b H s) (hp : H'.Perm H) : St s₁ L b H' s :=
  ⟨S.ns, S.keep, S.fr, fun p h => S.nw p (hp.mem_iff.mp h), fun p h => S.fresh p (hp.mem_iff.mp h), (hp.map (·.1)).nodup_iff.mpr S.nd, S.eq⟩
theorem St.sub (S : St s₁ L b H s) (hs : H'.Sublist H) : St s₁ L b H' s :=
  ⟨S.ns, S.keep, S.fr, fun p h => S.nw p (hs.subset h), fun p h => S.fresh p (hs.subset h), List.Nodup.sublist (hs.map (·.1)) S.nd, S.eq⟩
theorem St.drop (S : St s₁ L b (p :: H) s) : St s₁ L b H s := S.sub (List.sublist_cons_self _ _)

theorem St.Ns (S : St s₁ L b H s) : ∃ m, s.heap.Ns L m ∧ ∀ x v, lk b x = some v → m x = some v := by
  obtain ⟨o, ho, es, ep, hd, hk, hf⟩ := S.ns
  exact ⟨nsFind es, ⟨o, es, ep, ho, hd, hk, fun _ => rfl⟩, hf⟩
theorem Frm.of_Ns {h : Heap} {L : Addr} {m : Str → Option Value} {b : List (Str × Value)} (hn : h.Ns L m) (hb : ∀ x v, lk b x = some v → m x = some v) : ∃ o, h.get? L = some o ∧ Frm b o := by
  obtain ⟨o, es, ep, ho, hd, hk, hf⟩ := hn
  exact ⟨o, ho, es, ep, hd, hk, fun x v e => (hf x).trans (hb x v e)⟩
end

/-! ### kinds -/
theorem Lst.isList {h : Heap} {a : Addr} {vs : List Value} (x : ∃ o, h.get? a = some o ∧ Lst vs o) : h.IsList a vs.toArray := let ⟨o, ho, hc, _, _, n, hd⟩ := x; ⟨o, ho, hc, n, hd⟩
theorem Tup.isTup {h : Heap} {a : Addr} {vs : List Value} (x : ∃ o, h.get? a = some o ∧ Tup vs o) : IsTup h a vs.toArray := let ⟨o, ho, hc, _, _, n, hd⟩ := x; ⟨o, ho, hc, n, hd⟩
end Mine
namespace Mine

/-! ### texts as lists of numbers -/
def T (l : List Nat) : Str := ⟨l.toArray⟩
@[simp] theorem T_cps (l : List Nat) : (T l).cps.toList = l := rfl
@[simp] theorem T_len (l : List Nat) : (T l).length = l.length := by simp [T, Str.length]
theorem T_of (x : Str) : T x.cps.toList = x := by cases x; rfl
theorem T_inj {a b : List Nat} (h : T a = T b) : a = b := by have := congrArg (fun x => x.cps.toList) h; simpa using this
@[simp] theorem T_beq (a b : List Nat) : (T a == T b) = (a == b) := by
  rw [Bool.eq_iff_iff]; simp only [beq_iff_eq]; exact ⟨T_inj, fun h => by rw [h]⟩

def clip (n : Nat) (i : Int) : Nat := (max 0 (min (if i < 0 then i + n else i) (n : Int))).toNat
def loC (n : Nat) : Option Int → Nat
  | none => 0
  | some i => clip n i
def hiC (n : Nat) : Option Int → Nat
  | none => n
  | some i => clip n i
/-- `l[lo:hi]` -/
def cut {α : Type} (l : List α) (lo hi : Option Int) : List α := (l.take (hiC l.length hi)).drop (loC l.length lo)
theorem clip_le (n : Nat) (i : Int) : clip n i ≤ n := by unfold clip; omega
theorem hiC_le (n : Nat) (i : Option Int) : hiC n i ≤ n := by cases i <;> simp [hiC, clip_le]
theorem picked {α : Type} (l : List α) (a b : Nat) (hb : b ≤ l.length) : ((List.range (b - a)).map (fun k => a + k)).filterMap (l[·]?) = (l.take b).drop a := by
  by_cases h : a ≤ b
  · rw [StrLaws.picks l (b - a) a (by omega), List.drop_take]
  · have : b - a = 0 := by omega
    rw [this]; simp [List.drop_eq_nil_iff]; omega
theorem sliceRange1 (a b : Nat) : sliceRange (a : Int) (b : Int) 1 = (List.range (b - a)).map (fun k => a + k) := by
  unfold sliceRange
  simp only [show ((1 : Int) > 0) = True from by simp, if_true]
  have e : (if (a : Int) < b then ((b : Int) - a + 1 - 1) / 1 else 0).toNat = b - a := by split <;> omega
  rw [e]
  refine List.map_congr_left fun k _ => ?_
  omega
theorem cut_len_le {α : Type} (l : List α) (lo hi : Option Int) : (cut l lo hi).length ≤ l.length := by
  unfold cut; have := hiC_le l.length hi; simp; omega
/-! ### names -/
section
variable {M : Model} {A : Around} {E : Value → Shared → Prop} {s s₁ : Shared} {env : Env} {L : Addr} {b : List (Str × Value)} {H H' : List Ent} {x : Str} {v : Value} {pos : Pos}
theorem ld_L {Q : Value → Shared → Prop} (S : St s₁ L b H s) (hv : lk b x = some v) (h : Q v s) (hx : env.kindOf x = some .local) (hL : env.locals = L) (hk : env.scope.kind = .function) : wpAny M A (loadName env x) Q E s := by
  subst hL
  obtain ⟨m, hn, hm⟩ := S.Ns
  exact wpAny_loadName_local hk hx hn (hm _ _ hv) h
theorem nm_L {Q : Value → Shared → Prop} (S : St s₁ L b H s) (hx : env.kindOf x = some .local) (hv : lk b x = some v) (h : Q v s) (hL : env.locals = L) (hk : env.scope.kind = .function)
    (hd : (x == ("__debug__" : Str)) = false) : wpAny M A (eval (.Name x pos) env) Q E s := wpAny_Name (ld_L S hv h hx hL hk) hd
theorem ld_C {Q : Value → Shared → Prop} {c : Addr} (S : St s₁ L b H s) (hx : env.kindOf x = some .cell) (hc : env.cells.lookup x = some c) (hm : (c, Cel (some v)) ∈ H) (h : Q v s) (hk : env.scope.kind = .function) :
    wpAny M A (loadName env x) Q E s := by
  obtain ⟨o, ho, hd⟩ := S.get hm
  exact wpAny_loadName_cell hk hx hc ⟨o, ho, hd⟩ h
theorem nm_C {Q : Value → Shared → Prop} {c : Addr} (S : St s₁ L b H s) (hx : env.kindOf x = some .cell) (hc : env.cells.lookup x = some c) (hm : (c, Cel (some v)) ∈ H) (h : Q v s) (hk : env.scope.kind = .function)
    (hd : (x == ("__debug__" : Str)) = false) : wpAny M A (eval (.Name x pos) env) Q E s := wpAny_Name (ld_C S hx hc hm h hk) hd
theorem nm_K {Q : Value → Shared → Prop} {K : Frag} {p : Program} {loose : List Str} {mg mb : Str → Option Value} (S : St s₁ L b H s) (X : K.In s₁.heap) (T : TopRead p loose mg mb s₁.heap) (hx : env.kindOf x = some .globalImplicit) (e : nsIn K mainGlobals x = some (some v)) (h : Q v s)
    (hg : env.globals = mainGlobals) (hk : env.scope.kind = .function) (hd : (x == ("__debug__" : Str)) = false) : wpAny M A (eval (.Name x pos) env) Q E s :=
  Name_function_global hk hx (loadGlobal_global (env := env) (hg ▸ T.g.keeps S.keep) (mg_of X T.g e) h) hd
theorem nm_B {Q : Value → Shared → Prop} {K : Frag} {p : Program} {loose : List Str} {mg mb : Str → Option Value} (S : St s₁ L b H s) (X : K.In s₁.heap) (T : TopRead p loose mg mb s₁.heap) (hx : env.kindOf x = some .globalImplicit) (e : nsIn K mainGlobals x = some none) (hv : bootBuiltins x = some v) (h : Q v s)
    (hn : x ≠ "__name__") (hg : env.globals = mainGlobals) (hb : env.builtins = builtinsNs) (hk : env.scope.kind = .function) (hd : (x == ("__debug__" : Str)) = false) : wpAny M A (eval (.Name x pos) env) Q E s :=
  Name_function_global hk hx (loadGlobal_builtin (env := env) (hg ▸ T.g.keeps S.keep) (mg_none_of X T.g e) (hb ▸ T.b.keeps S.keep) ((T.builtins x hn).trans hv) h) hd

theorem st_L {Q : Unit → Shared → Prop} (S : St s₁ L b H s) (hx : env.kindOf x = some .local) (h : ∀ s', St s₁ L (up x v b) H s' → Q () s') (hL : env.locals = L) (hk : env.scope.kind = .function) :
    wpAny M A (storeName env x v) Q E s := by
  subst hL
  obtain ⟨m, hn, hm⟩ := S.Ns
  refine wpAny_storeName_local hx hn (fun h' hn' hs => h _ (S.frame _ (fun c o hc e => hs.extBut c o hc e) (Frm.of_Ns hn' fun y u hy => ?_))) (by rw [hk]; rfl)
  rw [lk_up] at hy
  by_cases e : y = x
  · simpa [e] using hy
  · simp only [e, if_false] at hy ⊢; exact hm _ _ hy
end

/-! ### ints -/
section
variable {prog : Program} {w : World} {A : Around} {E : Value → Shared → Prop} {s s₁ : Shared} {L : Addr} {b : List (Str × Value)} {H H' : List Ent} {i j : Int} {t u : Tok} {Q : Value → Shared → Prop} {env : Env}
theorem c_int {k : Nat} {pos : Pos} (S : St s₁ L b H s) (h : ∀ s' t', St s₁ L b H s' → Q (.int i t') s') : wpAny (model prog w) A (eval (.Constant (.int i) k pos) env) Q E s := wpAny_Constant_int (h _ _ (S.tok _))
theorem c_str {x : Str} {k : Nat} {pos : Pos} (S : St s₁ L b H s) (h : ∀ s' t', St s₁ L b H s' → Q (.str x t') s') : wpAny (model prog w) A (eval (.Constant (.str x) k pos) env) Q E s := wpAny_Constant_str (h _ _ (S.tok _))
theorem i_add (S : St s₁ L b H s) (h : ∀ s' t', St s₁ L b H s' → Q (.int (i + j) t') s') : wpAny (model prog w) A (binaryOp .Add (.int i t) (.int j u)) Q E s := add_int (h _ _ (S.tok _))
theorem i_sub (S : St s₁ L b H s) (h : ∀ s' t', St s₁ L b H s' → Q (.int (i - j) t') s') : wpAny (model prog w) A (binaryOp .Sub (.int i t) (.int j u)) Q E s := sub_int (h _ _ (S.tok _))
theorem i_mod (S : St s₁ L b H s) (h0 : 0 < j) (h : ∀ s' t', St s₁ L b H s' → Q (.int (i % j) t') s') : wpAny (model prog w) A (binaryOp .Mod (.int i t) (.int j u)) Q E s :=
  mod_int (by omega) (by rw [Int.fmod_eq_emod_of_nonneg _ (by omega)]; exact h _ _ (S.tok _))
theorem i_lt (h : Q (.bool (decide (i < j))) s) : wpAny (model prog w) A (compareOp .Lt (.int i t) (.int j u)) Q E s := lt_int h
theorem i_gt (h : Q (.bool (decide (j < i))) s) : wpAny (model prog w) A (compareOp .Gt (.int i t) (.int j u)) Q E s := gt_int h
theorem i_eq (h : Q (.bool (i == j)) s) : wpAny (model prog w) A (compareOp .Eq (.int i t) (.int j u)) Q E s := eq_int h
theorem i_ne (h : Q (.bool (i != j)) s) : wpAny (model prog w) A (compareOp .NotEq (.int i t) (.int j u)) Q E s := ne_int h
end

/-! ### texts -/
section
variable {prog : Program} {w : World} {A : Around} {E : Value → Shared → Prop} {s s₁ : Shared} {L : Addr} {b : List (Str × Value)} {H H' : List Ent} {l m : List Nat} {t u : Tok} {Q : Value → Shared → Prop} {env : Env}
theorem t_len (S : St s₁ L b H s) (hl : l.length ≤ sizeLine) (h : ∀ s' t', St s₁ L b H s' → Q (.int l.length t') s') : wpAny (model prog w) A (call (.builtin "len") [.str (T l) t]) Q E s := by
  have := h { s with toks := s.toks + 1 + 1 } (s.toks + 1) (S.tok _)
  refine len_str (by rw [T_len]; rw [sizeLine_eq] at hl; omega) ?_
  rw [T_len]; exact this
theorem t_ne (h : Q (.bool (l != m)) s) : wpAny (model prog w) A (compareOp .NotEq (.str (T l) t) (.str (T m) u)) Q E s := ne_str (by unfold bne; rw [T_beq]; exact h)

/-- a slice object -/
def Slc (lo hi : Option Int) (o : Obj) : Prop := ∃ (l u : Option (Int × Tok)), o.cls = .type "slice" ∧ o.data = .fields #[partValue l, partValue u, .none] ∧ l.map (·.1) = lo ∧ u.map (·.1) = hi
theorem slc_ss {i j : Int} {ti tj : Tok} : Slc (some i) (some j) { cls := .type "slice", data := .fields #[.int i ti, .int j tj, .none] } := ⟨some (i, ti), some (j, tj), rfl, rfl, rfl, rfl⟩
/-- both ends of a slice are known -/
def SliceEnd (Q : Value → Shared → Prop) (l u : Value) (s : Shared) : Prop := Q (.ref s.heap.objs.size) { s with heap := s.heap.push { cls := .type "slice", data := .fields #[l, u, .none] } }
theorem slice_end {v v' : Value} {lo hi : Option Int} (S : St s₁ L b H s) (hP : Slc lo hi { cls := .type "slice", data := .fields #[v, v', .none] }) (h : ∀ s' a, St s₁ L b ((a, Slc lo hi) :: H) s' → Q (.ref a) s') : SliceEnd Q v v' s :=
  h _ _ (S.push hP s.toks)
theorem ev_slice {lower upper : Option Expr} {p : Pos}
    (h : wpAny (model prog w) A (evalPart lower env) (fun l s₁ => wpAny (model prog w) A (evalPart upper env) (fun u s₂ => SliceEnd Q l u s₂) E s₁) E s) : wpAny (model prog w) A (eval (.Slice lower upper none p) env) Q E s :=
  wpAny_Slice (wpAny_mono h (fun _ _ h₁ => wpAny_mono h₁ (fun _ _ h₂ => wpAny_pure h₂) fun _ _ x => x) fun _ _ x => x)
end
end Mine
namespace Mine

/-! ### the written number -/
section
variable {prog : Program} {w : World} {A : Around} {E : Value → Shared → Prop} {s s₁ : Shared} {L : Addr} {b : List (Str × Value)} {H H' : List Ent} {l m : List Nat} {t u : Tok} {Q : Value → Shared → Prop} {env : Env}
/-! ### made lists and tuples -/
theorem new_list {vs : List Value} (S : St s₁ L b H s) (hsz : vs.length ≤ sizeLine) (h : ∀ s' a, St s₁ L b ((a, Lst vs) :: H) s' → Q (.ref a) s') : wpAny (model prog w) A (newList vs) Q E s :=
  wpAny_newObj_type (h _ _ (S.push (P := Lst vs) ⟨rfl, rfl, rfl, _, rfl⟩ s.toks)) (by show vs.toArray.size ≤ sizeLine; rw [List.size_toArray]; exact hsz)
theorem new_tuple {vs : List Value} (S : St s₁ L b H s) (hsz : vs.length ≤ sizeLine) (h : ∀ s' a, St s₁ L b ((a, Tup vs) :: H) s' → Q (.ref a) s') : wpAny (model prog w) A (newTuple vs) Q E s :=
  wpAny_newObj_type (h _ _ (S.push (P := Tup vs) ⟨rfl, rfl, rfl, _, rfl⟩ s.toks)) (by show vs.toArray.size ≤ sizeLine; rw [List.size_toArray]; exact hsz)

/-! ### calls -/
/-- what stands where a call's arguments are ready -/
def Ready (K : Frag) (P : Shared → Prop) (s : Shared) : Prop := K.In s.heap ∧ P s
theorem Ready.mk' {K : Frag} {P : Shared → Prop} (X : K.In s₁.heap) (S : St s₁ L b H s) (h : P s) : Ready K P s := ⟨X.keeps S.keep, h⟩
theorem callWith_fn {K : Frag} {f : Addr} {e : Expr} {rest : List Expr} {pos : Pos} (X : K.In s₁.heap) (hk : keepIn K (.ref f) = true)
    (h : wpAny (model prog w) A (spliced (backTo pos (starEach (e :: rest) env))) (fun vs s₁ => Ready K (fun s => wpAny (model prog w) A (call (.ref f) vs) Q E s) s₁) E s)
    (he : starEach (e :: rest) env = (false, eval e env) :: starEach rest env) (hplain : (backTo pos (starEach rest env)).any (·.1) = false) :
    wpAny (model prog w) A (callWith pos (.ref f) [] (backTo pos (starEach (e :: rest) env)) []) Q E s :=
  callWith_K X hk (wpAny_mono h (fun _ _ h => h) fun _ _ h => h) he hplain

theorem St.enter (S : St s₁ L b H s) {h₀ : Heap} {b' : List (Str × Value)} {m : Str → Option Value} (k : Nat) (hns : h₀.Ns s.heap.objs.size m) (hk : ∀ b o, s.heap.get? b = some o → h₀.get? b = some o) (hm : ∀ x v, lk b' x = some v → m x = some v) :
    St s₁ s.heap.objs.size b' ((L, Frm b) :: H) { s with heap := h₀, toks := k } where
  ns := Frm.of_Ns hns hm
  keep := fun a o e => hk _ _ (S.keep a o e)
  fr := S.size.1
  nw := fun p hp => by
    rcases List.mem_cons.mp hp with rfl | hp
    · obtain ⟨o, ho, h⟩ := S.ns; exact ⟨o, hk _ _ ho, h⟩
    · obtain ⟨o, ho, h⟩ := S.nw p hp; exact ⟨o, hk _ _ ho, h⟩
  fresh := fun p hp => by
    rcases List.mem_cons.mp hp with rfl | hp
    · exact ⟨Ne.symm S.size.2.1, S.fr⟩
    · exact ⟨S.size.2.2 p hp, (S.fresh p hp).2⟩
  nd := List.nodup_cons.mpr ⟨fun hm => by
    obtain ⟨q, hq, e⟩ := List.mem_map.mp hm
    exact (S.fresh q hq).1 e, S.nd⟩
  eq := let ⟨h, tk, e⟩ := S.eq; ⟨h₀, k, by rw [e]⟩

/-- back to the caller's frame -/
theorem St.back {L' : Addr} {b' : List (Str × Value)} (S : St s₁ L' b' ((L, Frm b) :: H) s) : St s₁ L b H s where
  ns := S.nw (L, Frm b) (List.mem_cons_self ..)
  keep := S.keep
  fr := (S.fresh (L, Frm b) (List.mem_cons_self ..)).2
  nw := fun p hp => S.nw p (List.mem_cons_of_mem _ hp)
  fresh := fun p hp => ⟨fun e => (List.nodup_cons.mp S.nd).1 (List.mem_map.mpr ⟨p, hp, e⟩), (S.fresh p (List.mem_cons_of_mem _ hp)).2⟩
  nd := (List.nodup_cons.mp S.nd).2
  eq := S.eq

theorem call_fn {K : Frag} {f : Addr} {oc : Value} {od : Option Addr} {osl : Array (Option Value)} {fd : FuncData} {body : List Stmt} {args : List Value} {binds b' : List (Str × Value)}
    (S : St s₁ L b H s) (X : K.In s₁.heap) (hlim : s₁.heap.NoLimit) (ho : K.lookup f = some ⟨oc, od, .func fd, osl⟩) (hcd : codeIn K fd.code fd.qualname = true) (hroom : A.depth < recursionLimit)
    (hbody : fd.body = .stmts body) (hbind : BindsTo s fd ⟨args, []⟩ binds) (hcell : ∀ x ∈ fd.scope.names, x.2 ≠ .cell) (hloc : ∀ x ∈ binds, fd.scope.names.lookup x.1 = some .local) (hb : b' = binds.reverse)
    (h : ∀ s' L', St s₁ L' b' ((L, Frm b) :: H) s' →
      wpAny (model prog w) (A.deeper (callEnv fd L' f)) (execs body (callEnv fd L' f)) (fun fl s'' => Q (match fl with | .ret v => v | _ => .none) s'') (fun _ _ => False) s')
    (hco : fd.scope.isCoroutine = false) (hgen : fd.scope.isGenerator = false) (hk : fd.scope.kind = .function) : wpAny (model prog w) A (call (.ref f) args) Q E s := by
  have X' := X.keeps S.keep
  refine wpAny_call (codeAny_call_def hroom (X' _ _ ho) rfl (hlim.keeps S.keep) (codeRec_of X' hcd) hbody hbind hcell hloc (fun h₀ hns hk₀ => ?_) hco hgen hk)
  refine wpAny_mono (h _ _ (S.enter (b' := b') (s.toks + binds.length) hns hk₀ fun x v e => ?_)) (fun _ _ q => q) (fun _ _ q => q.elim)
  subst hb
  rw [← e]
  clear h hns hk₀ hloc hbind e
  induction binds.reverse with
  | nil => rfl
  | cons p r ih =>
    obtain ⟨n, u⟩ := p
    simp only [List.lookup_cons, lk, ih]
    by_cases hx : n = x
    · subst hx; simp
    · have : (x == n) = false := by simp [Ne.symm hx]
      simp [this, hx]
end
end Mine
namespace Mine

/-- an iterator at `I`: at turn i its object meets `P i`, it hands out what meets `V i`, while the heap meets `R` -/
structure Itr (prog : Program) (w : World) (A : Around) (I : Addr) (n : Nat) (P : Nat → Obj → Prop) (V : Nat → Value → Prop) (R : Heap → Prop) : Prop where
  item : ∀ i (s : Shared) (Q : Option Value → Shared → Prop) (E : Value → Shared → Prop), i < n → (∃ o, s.heap.get? I = some o ∧ P i o) → R s.heap →
    (∀ v h' tk, V i v → (∃ o, h'.get? I = some o ∧ P (i + 1) o) → (∀ c o, c ≠ I → s.heap.get? c = some o → h'.get? c = some o) → Q (some v) { s with heap := h', toks := tk }) → wpAny (model prog w) A (pyNext (.ref I)) Q E s
  done : ∀ (s : Shared) (Q : Option Value → Shared → Prop) (E : Value → Shared → Prop), (∃ o, s.heap.get? I = some o ∧ P n o) → R s.heap →
    (∀ h' tk, (∀ c o, c ≠ I → s.heap.get? c = some o → h'.get? c = some o) → Q none { s with heap := h', toks := tk }) → wpAny (model prog w) A (pyNext (.ref I)) Q E s
  self : ∀ i (s : Shared) (Q : Value → Shared → Prop) (E : Value → Shared → Prop), (∃ o, s.heap.get? I = some o ∧ P i o) → R s.heap → Q (.ref I) s → wpAny (model prog w) A (pyIter (.ref I)) Q E s

def LI (l : Addr) (i : Nat) (o : Obj) : Prop := o.cls = .type "list_iterator" ∧ o.data = .fields #[.ref l, .int i 0]
def RI (x left step : Int) (o : Obj) : Prop := o = { cls := .type "range_iterator", dict := none, data := .fields #[rawInt x, rawInt left, rawInt step], slots := #[] }

theorem Itr.list {prog : Program} {w : World} {A : Around} {I l : Addr} (vs : List Value) (hh : A.handled = none) (hne : l ≠ I) :
    Itr prog w A I vs.length (LI l) (fun i v => vs[i]? = some v) (fun h => h.IsList l vs.toArray) where
  item := fun i s Q E hi ⟨o, ho, h1, h2⟩ hR hQ => by
    refine (Walks.list (prog := prog) (w := w) hh I l hne vs.toArray).item i s Q E (by simpa using hi) ⟨⟨o, ho, h1, h2⟩, hR⟩ fun v h' tk hv hst hk => ?_
    exact hQ v h' tk (by simpa using hv) (let ⟨o, ho, r⟩ := hst.1; ⟨o, ho, r⟩) fun c o hc e => hk c o (by simpa using hc) e
  done := fun s Q E ⟨o, ho, h1, h2⟩ hR hQ =>
    (Walks.list (prog := prog) (w := w) hh I l hne vs.toArray).done s Q E ⟨⟨o, ho, h1, by rw [List.size_toArray]; exact h2⟩, hR⟩ fun h' tk hk => hQ h' tk fun c o hc e => hk c o (by simpa using hc) e
  self := fun i s Q E ⟨o, ho, h1, h2⟩ hR hQ => wpAny_pyIter_listiter (i := i) ⟨o, ho, h1, h2⟩ hQ
theorem Itr.range {prog : Program} {w : World} {A : Around} {I : Addr} (a c : Int) (n : Nat) (hh : A.handled = none) :
    Itr prog w A I n (fun i => RI (a + i * c) ((n : Int) - i) c) (fun i v => ∃ t, v = .int (a + i * c) t) (fun _ => True) where
  item := fun i s Q E hi ⟨o, ho, h1⟩ hR hQ => by
    subst h1
    refine (Walks.range (prog := prog) (w := w) hh I a c n).item i s Q E hi ho fun v h' tk hv hst hk => ?_
    exact hQ v h' tk hv ⟨_, hst, rfl⟩ fun c o hc e => hk c o (by simpa using hc) e
  done := fun s Q E ⟨o, ho, h1⟩ hR hQ => by
    subst h1
    exact (Walks.range (prog := prog) (w := w) hh I a c n).done s Q E ho fun h' tk hk => hQ h' tk fun c o hc e => hk c o (by simpa using hc) e
  self := fun i s Q E ⟨o, ho, h1⟩ hR hQ => by subst h1; exact wpAny_pyIter_rangeiter ho hQ

section
variable {prog : Program} {w : World} {A : Around} {E : Value → Shared → Prop} {s s₁ : Shared} {L I l : Addr} {b : List (Str × Value)} {H H' : List Ent} {env : Env}

theorem it_list {Q : Value → Shared → Prop} {vs : List Value} (S : St s₁ L b H s) (hl : (l, Lst vs) ∈ H ∨ s₁.heap.IsList l vs.toArray) (h : ∀ s' I, l ≠ I → St s₁ L b ((I, LI l 0) :: H) s' → Q (.ref I) s') : wpAny (model prog w) A (pyIter (.ref l)) Q E s := by
  have hl' : s.heap.IsList l vs.toArray := hl.elim (fun m => Lst.isList (S.get m)) fun ⟨o, ho, r⟩ => ⟨o, S.keep _ _ ho, r⟩
  refine wpAny_pyIter_list hl' (h _ _ ?_ (S.push (P := LI l 0) ⟨rfl, rfl⟩ s.toks))
  obtain ⟨o, ho, _⟩ := hl'; exact Nat.ne_of_lt (Heap.lt_size ho)
/-- a range object -/
def Rng (a c st : Int) (o : Obj) : Prop := ∃ t u v, o = { cls := .type "range", dict := none, data := .fields #[.int a t, .int c u, .int st v], slots := #[] }
theorem c_range1 {Q : Value → Shared → Prop} {n : Int} {t : Tok} (S : St s₁ L b H s) (h : ∀ s' r, St s₁ L b ((r, Rng 0 n 1) :: H) s' → Q (.ref r) s') : wpAny (model prog w) A (call (.type "range") [.int n t]) Q E s :=
  call_range_1 (h _ _ (S.push (P := Rng 0 n 1) ⟨_, _, _, rfl⟩ _))
theorem it_range1 {Q : Value → Shared → Prop} {r : Addr} {a c : Int} (S : St s₁ L b ((r, Rng a c 1) :: H) s) (ha : -(2 ^ 62) ≤ a) (ha' : a < 2 ^ 62) (hc : -(2 ^ 62) ≤ c) (hc' : c < 2 ^ 62)
    (h : ∀ s' I, St s₁ L b ((I, RI (a + ((0 : Nat) : Int) * 1) (((c - a).toNat : Int) - ((0 : Nat) : Int)) 1) :: H) s' → Q (.ref I) s') : wpAny (model prog w) A (pyIter (.ref r)) Q E s := by
  obtain ⟨o, ho, t, u, v, rfl⟩ := S.get (List.mem_cons_self ..)
  refine wpAny_pyIter_range (a := a) (b := c) (c := 1) ho (small_one ha ha' hc hc') (h _ _ (S.drop.push (P := RI _ _ 1) ?_ s.toks))
  show _ = _
  have e : Builtin.Range.rangeSize a c 1 = ((c - a).toNat : Int) - ((0 : Nat) : Int) := by rw [rangeSize_one]; split <;> omega
  rw [e]; simp

/-- an entry at the head passes from one state to the next -/
theorem St.step {P P' : Obj → Prop} (S : St s₁ L b ((I, P) :: H) s) {h' : Heap} (k : Nat) (hP : ∃ o, h'.get? I = some o ∧ P' o) (hk : ∀ c o, c ≠ I → s.heap.get? c = some o → h'.get? c = some o) : St s₁ L b ((I, P') :: H) { s with heap := h', toks := k } :=
  S.upd (.head _) k hk hP
theorem St.gone {P : Obj → Prop} (S : St s₁ L b ((I, P) :: H) s) {h' : Heap} (k : Nat) (hk : ∀ c o, c ≠ I → s.heap.get? c = some o → h'.get? c = some o) : St s₁ L b H { s with heap := h', toks := k } where
  ns := let ⟨o, ho, h⟩ := S.ns; ⟨o, hk _ _ (Ne.symm (S.fresh _ (List.mem_cons_self ..)).1) ho, h⟩
  keep := fun a o e => hk _ _ (by rintro rfl; have := (S.fresh _ (List.mem_cons_self ..)).2; simp only at this; rw [this] at e; cases e) (S.keep a o e)
  fr := S.fr
  nw := fun p hp => let ⟨o, ho, h⟩ := S.nw p (List.mem_cons_of_mem _ hp); ⟨o, hk _ _ (fun e => (List.nodup_cons.mp S.nd).1 (List.mem_map.mpr ⟨p, hp, e⟩)) ho, h⟩
  fresh := fun p hp => S.fresh p (List.mem_cons_of_mem _ hp)
  nd := (List.nodup_cons.mp S.nd).2
  eq := let ⟨h, tk, e⟩ := S.eq; ⟨h', k, by rw [e]⟩

theorem getHead {P : Obj → Prop} (S : St s₁ L b ((I, P) :: H) s) : ∃ o, s.heap.get? I = some o ∧ P o := S.get (List.mem_cons_self ..)

/-- what a turn of a for leaves -/
def TurnEnd (s₁ : Shared) (L I : Addr) (P : Obj → Prop) (J : List (Str × Value) → List Ent → Prop) (Q : Flow → Shared → Prop) (f : Flow) (s : Shared) : Prop :=
  match f with
  | .next | .cont => ∃ b H, St s₁ L b ((I, P) :: H) s ∧ J b H
  | .brk => Q .next s
  | .ret v => Q (.ret v) s

theorem loop_for {n : Nat} {P : Nat → Obj → Prop} {V : Nat → Value → Prop} {R : Heap → Prop} {x : Str} {px : Pos} {body : List Stmt} {Q : Flow → Shared → Prop} {RE : Value → Shared → Prop} (W : Itr prog w A I n P V R) (J : Nat → List (Str × Value) → List Ent → Prop)
    (S : St s₁ L b ((I, P 0) :: H) s) (h0 : J 0 b H) (hR : ∀ i b H s, i ≤ n → J i b H → St s₁ L b ((I, P i) :: H) s → R s.heap) (hx : env.kindOf x = some .local) (hL : env.locals = L) (hk : env.scope.kind = .function)
    (turn : ∀ i v b' H' s', i < n → V i v → J i b' H' → St s₁ L (up x v b') ((I, P (i + 1)) :: H') s' → wpAny (model prog w) A (execs body env) (TurnEnd s₁ L I (P (i + 1)) (J (i + 1)) Q) (fun _ _ => False) s')
    (done : ∀ b' H' s', J n b' H' → St s₁ L b' H' s' → Q .next s') :
    codeAny (model prog w) A (.forLoop (.Name x px) (.ref I) body [] env) (fun r s' => match r with | .ok f => Q f s' | .error e => RE e s') s := by
  refine codeAny_forLoop (fun k s' => ∃ b' H' i, St s₁ L b' ((I, P i) :: H') s' ∧ J i b' H' ∧ i ≤ n ∧ k = n + 1 - i) ?_ (n + 1) ⟨b, H, 0, S, h0, Nat.zero_le _, rfl⟩
  rintro k s' ⟨b', H', i, S', hJ, hi, rfl⟩
  have hR' := hR i b' H' s' hi hJ S'
  by_cases hlt : i < n
  · refine W.item i _ _ _ hlt (getHead S') hR' fun v h₁ tk₁ hV hP₁ hk₁ => ?_
    refine wpAny_assign_Name (st_L (S'.step tk₁ hP₁ hk₁) hx (fun s₂ S₂ => ?_) hL hk)
    refine wpAny_mono (turn i v b' H' s₂ hlt hV hJ S₂) (fun f s₃ h₃ => ?_) fun _ _ e => e.elim
    cases f with
    | next => obtain ⟨b'', H'', S₃, hJ₃⟩ := h₃; exact ⟨n + 1 - (i + 1), by omega, b'', H'', i + 1, S₃, hJ₃, hlt, rfl⟩
    | cont => obtain ⟨b'', H'', S₃, hJ₃⟩ := h₃; exact ⟨n + 1 - (i + 1), by omega, b'', H'', i + 1, S₃, hJ₃, hlt, rfl⟩
    | brk => exact h₃
    | ret v => exact h₃
  · have hin : i = n := by omega
    subst hin
    exact W.done _ _ _ (getHead S') hR' fun h₁ tk₁ hk₁ => wpAny_execs_nil (done b' H' _ hJ (S'.gone tk₁ hk₁))

/-- where the loop's source is known -/
def ForAt (prog : Program) (w : World) (A : Around) (target : Expr) (body : List Stmt) (env : Env) (Q : Flow → Shared → Prop) (E : Value → Shared → Prop) (xv : Value) (s : Shared) : Prop :=
  wpAny (model prog w) A (pyIter xv) (fun it s₂ => codeAny (model prog w) A (.forLoop target it body [] env) (fun r s' => match r with | .ok f => Q f s' | .error e => cameBackBy (model prog w) A env E e s') s₂) E s
theorem ex_for {target iter : Expr} {body : List Stmt} {pos : Pos} {Q : Flow → Shared → Prop} (h : wpAny (model prog w) A (eval iter env) (fun xv s₁ => ForAt prog w A target body env Q E xv s₁) E s)
    (hs : ∀ x, foldedSetIterable iter env x = pure x) : wpAny (model prog w) A (exec (.For target iter body [] pos) env) Q E s := wpAny_For h hs

/-- a for over a list of the call's own or of the caller's -/
theorem for_list {x : Str} {px : Pos} {body : List Stmt} {Q : Flow → Shared → Prop} {vs : List Value} (J : Nat → List (Str × Value) → List Ent → Prop) (S : St s₁ L b H s) (h0 : J 0 b H)
    (hl : (l, Lst vs) ∈ H ∨ s₁.heap.IsList l vs.toArray) (hJ : ∀ i b H, J i b H → (l, Lst vs) ∈ H ∨ s₁.heap.IsList l vs.toArray) (hh : A.handled = none) (hx : env.kindOf x = some .local) (hL : env.locals = L) (hk : env.scope.kind = .function)
    (turn : ∀ I i v b' H' s', vs[i]? = some v → J i b' H' → St s₁ L (up x v b') ((I, LI l (i + 1)) :: H') s' → wpAny (model prog w) A (execs body env) (TurnEnd s₁ L I (LI l (i + 1)) (J (i + 1)) Q) (fun _ _ => False) s')
    (done : ∀ b' H' s', J vs.length b' H' → St s₁ L b' H' s' → Q .next s') : ForAt prog w A (.Name x px) body env Q E (.ref l) s :=
  it_list S hl fun s' I hne S' => loop_for (Itr.list vs hh hne) J S' h0
    (fun i b H s _ h S => (hJ i b H h).elim (fun m => Lst.isList (S.get (List.mem_cons_of_mem _ m))) fun ⟨o, ho, r⟩ => ⟨o, S.keep _ _ ho, r⟩) hx hL hk
    (fun i v b' H' s' _ hV hj S => turn I i v b' H' s' hV hj S) done
theorem for_range1 {x : Str} {px : Pos} {body : List Stmt} {Q : Flow → Shared → Prop} {r : Addr} {a c : Int} (J : Nat → List (Str × Value) → List Ent → Prop) (S : St s₁ L b ((r, Rng a c 1) :: H) s) (h0 : J 0 b H)
    (ha : -(2 ^ 62) ≤ a) (ha' : a < 2 ^ 62) (hc : -(2 ^ 62) ≤ c) (hc' : c < 2 ^ 62) (hh : A.handled = none) (hx : env.kindOf x = some .local) (hL : env.locals = L) (hk : env.scope.kind = .function)
    (turn : ∀ I P i t b' H' s', a + (i : Nat) < c → J i b' H' → St s₁ L (up x (.int (a + (i : Nat)) t) b') ((I, P) :: H') s' → wpAny (model prog w) A (execs body env) (TurnEnd s₁ L I P (J (i + 1)) Q) (fun _ _ => False) s')
    (done : ∀ b' H' s', J (c - a).toNat b' H' → St s₁ L b' H' s' → Q .next s') : ForAt prog w A (.Name x px) body env Q E (.ref r) s :=
  it_range1 S ha ha' hc hc' fun s' I S' => loop_for (Itr.range a 1 (c - a).toNat hh) J S' h0 (fun _ _ _ _ _ _ _ => trivial) hx hL hk
    (fun i v b' H' s' hi ⟨t, hV⟩ hj S => by subst hV; rw [Int.mul_one] at S; exact turn I _ i t b' H' s' (by omega) hj S) done

end
end Mine
namespace Mine

section
variable {prog : Program} {w : World} {A : Around} {E : Value → Shared → Prop} {s s₁ : Shared} {L I l D C : Addr} {b : List (Str × Value)} {H H' : List Ent} {env : Env}

/-- a changed list -/
theorem St.mapSeq (S : St s₁ L b H s) {vs : List Value} {f : Array Value → Array Value} {vs' : List Value} (U : Upd l (Lst vs) (Lst vs') H H') (hf : f vs.toArray = vs'.toArray) (k : Nat) :
    St s₁ L b H' { s with heap := s.heap.update l (Obj.mapSeq f), toks := k } := by
  obtain ⟨⟨c, d, dt, sl⟩, ho, hc, hd, hs, n, hdt⟩ := S.get U.mem
  simp only at hc hd hs hdt; subst hc hd hs hdt
  refine S.upd U k (fun c o hc e => (Heap.get?_update_other _ _ (Ne.symm hc)).trans e) ⟨_, Heap.get?_update_self _ ho rfl, rfl, rfl, rfl, ?_⟩
  exact ⟨_, by show Data.seq _ _ = _; rw [hf]⟩

theorem l_append {Q : Value → Shared → Prop} {vs : List Value} {x : Value} (S : St s₁ L b H s) (U : Upd l (Lst vs) (Lst (vs ++ [x])) H H') (hsz : vs.length ≤ sizeLine) (h : ∀ s', St s₁ L b H' s' → Q .none s') :
    wpAny (model prog w) A (call (.builtin "list.append") [.ref l, x]) Q E s := by
  have hl : s.heap.IsList l vs.toArray := Lst.isList (S.get U.mem)
  obtain ⟨o, ho, hc, n, hd⟩ := id hl
  refine wpAny_call_entry slot_list_append hl.typeIs entry_list_append ?_ (args_list_append _ _)
  show wpAny _ _ (updateSeq l (·.push x) >>= fun _ => ret .none) _ _ s
  refine wpAny_bind (wpAny_updateSeq ho hd (wpAny_pure ⟨.none, rfl, h _ (S.mapSeq U (by simp) s.toks)⟩) (by rw [List.size_toArray]; exact hsz))

/-- the tests of a comprehension's clause -/
abbrev tests (ifs : List Expr) (env : Env) : Sem Bool := forIn ifs true fun c r => if r = true then do let ok ← isTrue c env (eval c env); pure (ForInStep.yield ok) else pure (ForInStep.yield r)
theorem tests_nil {Q : Bool → Shared → Prop} (h : Q true s) : wpAny (model prog w) A (tests [] env) Q E s := wpAny_pure h
theorem tests_one {c : Expr} {Q : Bool → Shared → Prop} (h : wpAny (model prog w) A (isTrue c env (eval c env)) Q E s) : wpAny (model prog w) A (tests [c] env) Q E s := wpAny_tests_one h

def CompEnd (s₁ : Shared) (C : Addr) (X : List Ent) (J : List Ent → Prop) (s : Shared) : Prop := ∃ b H, St s₁ C b (X ++ H) s ∧ J H

theorem comp_loop {n : Nat} {P : Nat → Obj → Prop} {V : Nat → Value → Prop} {R : Heap → Prop} {x : Str} {px pos : Pos} {elt iter : Expr} {ifs : List Expr} {scope : Scope} {RR : Result → Shared → Prop} {bC : List (Str × Value)}
    (W : Itr prog w A I n P V R) (J : Nat → List Value → List Ent → Prop)
    (S : St s₁ C bC ((D, Lst []) :: (I, P 0) :: (L, Frm b) :: H) s) (h0 : J 0 [] H) (hn : n ≤ sizeLine) (hR : ∀ i ys H s bC, i ≤ n → J i ys H → St s₁ C bC ((D, Lst ys) :: (I, P i) :: (L, Frm b) :: H) s → R s.heap)
    (hx : env.kindOf x = some .local) (hL : env.locals = C) (hk : env.scope.kind = .function)
    (turn : ∀ i v ys H' s', i < n → V i v → J i ys H' → St s₁ C [(x, v)] ((D, Lst ys) :: (I, P (i + 1)) :: (L, Frm b) :: H') s' →
      wpAny (model prog w) A (tests ifs env) (fun ok s₃ => if ok = true then wpAny (model prog w) A (eval elt env) (fun y s₄ => CompEnd s₁ C [(D, Lst ys), (I, P (i + 1)), (L, Frm b)] (J (i + 1) (ys ++ [y])) s₄) (fun _ _ => False) s₃
        else CompEnd s₁ C [(D, Lst ys), (I, P (i + 1)), (L, Frm b)] (J (i + 1) ys) s₃) (fun _ _ => False) s')
    (done : ∀ ys H' s' bC, J n ys H' → St s₁ C bC ((D, Lst ys) :: (L, Frm b) :: H') s' → RR (.ok .next) s') :
    codeAny (model prog w) A (.compLoop (.ListComp elt [⟨.Name x px, iter, ifs, 0⟩] scope pos) 0 (.ref I) (.ref D) env) RR s := by
  refine codeAny_compLoop_tests (fun k s' => ∃ bC ys H' i, St s₁ C bC ((D, Lst ys) :: (I, P i) :: (L, Frm b) :: H') s' ∧ J i ys H' ∧ i ≤ n ∧ ys.length ≤ i ∧ k = n + 1 - i) ?_ (n + 1) ⟨bC, [], H, 0, S, h0, Nat.zero_le _, Nat.le_refl _, rfl⟩
  rintro k s' ⟨bC', ys, H', i, S', hJ, hi, hlen, rfl⟩
  have hR' := hR i ys H' s' bC' hi hJ S'
  have S₀ := S'.perm (List.Perm.swap (I, P i) (D, Lst ys) ((L, Frm b) :: H')).symm
  by_cases hlt : i < n
  · refine W.item i _ _ _ hlt (getHead S₀) hR' fun v h₁ tk₁ hV hP₁ hk₁ => ?_
    have S₁ := (S₀.step tk₁ hP₁ hk₁).perm (List.Perm.swap (I, P (i + 1)) (D, Lst ys) ((L, Frm b) :: H'))
    refine wpAny_assign_Name (st_L S₁ hx (fun s₂ S₂ => ?_) hL hk)
    have S₃ := S₂.bind (b' := [(x, v)]) (Sub.cons (by rw [lk_up]; simp) (Sub.nil _))
    refine wpAny_mono (turn i v ys H' s₂ hlt hV hJ S₃) (fun ok s₃ h₃ => ?_) fun _ _ e => e.elim
    cases ok with
    | false =>
      obtain ⟨b₃, H₃, S₃, hJ₃⟩ := h₃
      exact ⟨n + 1 - (i + 1), by omega, b₃, ys, H₃, i + 1, S₃, hJ₃, hlt, by omega, rfl⟩
    | true =>
      refine wpAny_mono h₃ (fun y s₄ h₄ => ?_) fun _ _ e => e.elim
      obtain ⟨b₄, H₄, S₄, hJ₄⟩ := h₄
      refine l_append S₄ (.head _) (by omega) fun s₅ S₅ => ?_
      exact ⟨n + 1 - (i + 1), by omega, b₄, ys ++ [y], H₄, i + 1, S₅, hJ₄, hlt, by simp; omega, rfl⟩
  · have hin : i = n := by omega
    subst hin
    refine W.done _ _ _ (getHead S₀) hR' fun h₁ tk₁ hk₁ => ?_
    exact done ys H' _ bC' hJ (S₀.gone tk₁ hk₁)

/-- what stands behind a comprehension -/
def CompDone (prog : Program) (w : World) (A : Around) (use : Option (Value → Sem Unit)) (Q : Value → Shared → Prop) (E : Value → Shared → Prop) (s₁ : Shared) (L : Addr) (b : List (Str × Value)) (C D : Addr) (ys : List Value) (H' : List Ent) (s' : Shared) : Prop :=
  match use with
  | none => ∀ s'', St s₁ L b ((D, Lst ys) :: H') s'' → Q (.ref D) s''
  | some u => wpAny (model prog w) A (u (.ref D)) (fun _ s₂ => ∃ b₂ H₂, St s₁ L b₂ ((C, Frm []) :: H₂) s₂ ∧ ∀ s₃, St s₁ L b₂ H₂ s₃ → Q .none s₃) E s'
/-- where a comprehension's source is known -/
def CompAt (prog : Program) (w : World) (A : Around) (elt : Expr) (x : Str) (px pos : Pos) (iter : Expr) (ifs : List Expr) (scope : Scope) (env : Env) (cl : List (Str × Addr)) (use : Option (Value → Sem Unit)) (Q : Value → Shared → Prop) (E : Value → Shared → Prop) (xv : Value) (s : Shared) : Prop :=
  wpAny (model prog w) A (pyIter xv) (fun it s₂ => wpAny (model prog w) A (newList []) (fun acc s₃ =>
      wpAny (model prog w) A (newFunctionEnv scope env.globals cl [] env.qual none .none (some env)) (fun cenv s₄ =>
        codeAny (model prog w) A (.compStart (.ListComp elt [⟨.Name x px, iter, ifs, 0⟩] scope pos) 0 it acc { cenv with scope := relabel scope env }) (compPost (model prog w) A E use Q acc cenv.locals) s₄) E s₃) E s₂) E s

theorem comp_at {n : Nat} {P : Nat → Obj → Prop} {V : Nat → Value → Prop} {R : Heap → Prop} {x : Str} {px pos : Pos} {elt iter : Expr} {ifs : List Expr} {scope : Scope} {cl : List (Str × Addr)} {use : Option (Value → Sem Unit)} {Q : Value → Shared → Prop}
    (W : Itr prog w A I n P V R) (J : Nat → List Value → List Ent → Prop) (S : St s₁ L b ((I, P 0) :: H) s) (h0 : J 0 [] H) (hn : n ≤ sizeLine)
    (hR : ∀ C D i ys H s bC, i ≤ n → J i ys H → St s₁ C bC ((D, Lst ys) :: (I, P i) :: (L, Frm b) :: H) s → R s.heap) (hR0 : ∀ s b', St s₁ L b' ((I, P 0) :: H) s → R s.heap)
    (hcell : ∀ y ∈ scope.names, y.2 ≠ .cell) (hkind : scope.kind = .function) (hx : scope.names.lookup x = some .local)
    (turn : ∀ C D i v ys H' s', i < n → V i v → J i ys H' → St s₁ C [(x, v)] ((D, Lst ys) :: (I, P (i + 1)) :: (L, Frm b) :: H') s' →
      wpAny (model prog w) A (tests ifs (compEnvC scope cl C env)) (fun ok s₃ => if ok = true then wpAny (model prog w) A (eval elt (compEnvC scope cl C env)) (fun y s₄ => CompEnd s₁ C [(D, Lst ys), (I, P (i + 1)), (L, Frm b)] (J (i + 1) (ys ++ [y])) s₄) (fun _ _ => False) s₃
        else CompEnd s₁ C [(D, Lst ys), (I, P (i + 1)), (L, Frm b)] (J (i + 1) ys) s₃) (fun _ _ => False) s')
    (done : ∀ C D ys H' s', J n ys H' → St s₁ L b ((C, Frm []) :: (D, Lst ys) :: H') s' →
      CompDone prog w A use Q E s₁ L b C D ys H' s') :
    wpAny (model prog w) A (newList []) (fun acc s₃ =>
      wpAny (model prog w) A (newFunctionEnv scope env.globals cl [] env.qual none .none (some env)) (fun cenv s₄ =>
        codeAny (model prog w) A (.compStart (.ListComp elt [⟨.Name x px, iter, ifs, 0⟩] scope pos) 0 (.ref I) acc { cenv with scope := relabel scope env }) (compPost (model prog w) A E use Q acc cenv.locals) s₄) E s₃) E s := by
  refine new_list S (by simp [sizeLine_eq]) fun s₃ D S₃ => ?_
  refine wpAny_newFunctionEnv hcell (by intro y hy; simp at hy) (fun h₁ hns₁ hsb₁ => ?_) hkind
  have S₄ := S₃.enter (b' := []) (s₃.toks + ([] : List (Str × Value)).length) hns₁ (fun c o e => hsb₁.extBut c o (Nat.ne_of_lt (Heap.lt_size e)) (Heap.get?_push_of_some _ e)) (fun x v e => by simp [lk] at e)
  generalize hC : s₃.heap.objs.size = C at S₄ ⊢
  have S₅ : St s₁ C [] ((D, Lst []) :: (I, P 0) :: (L, Frm b) :: H) _ := S₄.perm (by
    refine List.Perm.trans ?_ (List.perm_middle (l₁ := [(D, Lst []), (I, P 0)]) (l₂ := H) (a := (L, Frm b)))
    exact List.Perm.refl _)
  have loop : ∀ s₆, St s₁ C [] ((D, Lst []) :: (I, P 0) :: (L, Frm b) :: H) s₆ → codeAny (model prog w) A (.compLoop (.ListComp elt [⟨.Name x px, iter, ifs, 0⟩] scope pos) 0 (.ref I) (.ref D) (compEnvC scope cl C env)) (compPost (model prog w) A E use Q (.ref D) C) s₆ := by
    intro s₆ S₆
    refine comp_loop (env := compEnvC scope cl C env) W J S₆ h0 hn (fun i ys H s bC hi hJ S => hR C D i ys H s bC hi hJ S) (lookup_relabel_local hx) rfl hkind (fun i v ys H' s' hi hV hJ S => turn C D i v ys H' s' hi hV hJ S) fun ys H' s' bC hJ S' => ?_
    have Sc : St s₁ L b ((C, Frm []) :: (D, Lst ys) :: H') s' := by
      have S0 : St s₁ C bC ((L, Frm b) :: (D, Lst ys) :: H') s' := S'.perm (List.Perm.swap (D, Lst ys) (L, Frm b) H')
      have fC := S0.ns
      have hb := S0.back
      refine ⟨hb.ns, hb.keep, hb.fr, ?_, ?_, ?_, hb.eq⟩
      · intro p hp
        rcases List.mem_cons.mp hp with rfl | hp
        · obtain ⟨o, ho, h⟩ := fC; exact ⟨o, ho, h.weak (Sub.nil _)⟩
        · exact hb.nw p hp
      · intro p hp
        rcases List.mem_cons.mp hp with rfl | hp
        · exact ⟨Ne.symm (S0.fresh (L, Frm b) (List.mem_cons_self ..)).1, S0.fr⟩
        · exact hb.fresh p hp
      · exact List.nodup_cons.mpr ⟨fun hm => by
          obtain ⟨q, hq, e⟩ := List.mem_map.mp hm
          exact (S0.fresh q (List.mem_cons_of_mem _ hq)).1 e, hb.nd⟩
    have fin := done C D ys H' s' hJ Sc
    have nsC : ∀ {b' : List (Str × Value)} {K : List Ent} {s₇ : Shared}, St s₁ L b' ((C, Frm []) :: K) s₇ → ∃ m, s₇.heap.Ns C m ∧ ∀ h', Heap.SameBut C s₇.heap h' → St s₁ L b' K { s₇ with heap := h' } := by
      intro b' K s₇ S₇
      obtain ⟨o, ho, es, ep, hd, hk, hf⟩ := getHead S₇
      exact ⟨nsFind es, ⟨o, es, ep, ho, hd, hk, fun _ => rfl⟩, fun h' hs => S₇.gone s₇.toks fun c o hc e => hs.extBut c o hc e⟩
    cases use with
    | none =>
      obtain ⟨m, hm, hS⟩ := nsC Sc
      exact ⟨m, hm, fun h' hs => fin _ (hS h' hs)⟩
    | some u =>
      refine wpAny_mono fin (fun _ s₂ h₂ => ?_) fun _ _ e => e
      obtain ⟨b₂, H₂, S₂, hq⟩ := h₂
      obtain ⟨m, hm, hS⟩ := nsC S₂
      exact ⟨m, hm, fun h' hs => hq _ (hS h' hs)⟩
  have go := loop _ S₅
  have hRs : R h₁ := hR C D 0 [] H _ [] (Nat.zero_le _) h0 S₅
  exact codeAny_compStart_list go (W.self 0 _ _ _ (getHead (S₅.perm (List.Perm.swap (I, P 0) (D, Lst []) ((L, Frm b) :: H)).symm)) hRs go)

theorem ev_comp {x : Str} {px pos : Pos} {elt iter : Expr} {ifs : List Expr} {scope : Scope} {cl : List (Str × Addr)} {Q : Value → Shared → Prop}
    (hclos : closureFor scope env = pure cl) (hkind : scope.kind = .function) (hnames : ∀ y ∈ scope.names, y.2 = .local → scope.names.lookup y.1 = some .local)
    (h : wpAny (model prog w) A (eval iter env) (fun xv s₁ => CompAt prog w A elt x px pos iter ifs scope env cl none Q E xv s₁) E s) (hs : ∀ x, foldedSetIterable iter env x = pure x) :
    wpAny (model prog w) A (eval (.ListComp elt [⟨.Name x px, iter, ifs, 0⟩] scope pos) env) Q E s := by
  rw [eval_ListComp]
  exact wpAny_comprehension_free (use := none) rfl hs hclos hkind hnames h
theorem ex_comp {x y : Str} {px py pos spos : Pos} {elt iter : Expr} {ifs : List Expr} {scope : Scope} {cl : List (Str × Addr)} {Q : Flow → Shared → Prop}
    (hsw : swapsWith (.ListComp elt [⟨.Name x px, iter, ifs, 0⟩] scope pos) (some (.Name y py)) spos.line env = pure true)
    (hclos : closureFor scope env = pure cl) (hkind : scope.kind = .function) (hnames : ∀ y ∈ scope.names, y.2 = .local → scope.names.lookup y.1 = some .local)
    (h : wpAny (model prog w) A (eval iter env) (fun xv s₁ => CompAt prog w A elt x px pos iter ifs scope env cl (some (assign (.Name y py) env)) (fun _ s' => Q .next s') E xv s₁) E s) (hs : ∀ x, foldedSetIterable iter env x = pure x) :
    wpAny (model prog w) A (exec (.Assign [.Name y py] (.ListComp elt [⟨.Name x px, iter, ifs, 0⟩] scope pos) spos) env) Q E s := by
  rw [exec_Assign_Name_used _ _ _ _ hsw]
  refine wpAny_bind (wpAny_standAt (wpAny_bind ?_))
  show wpAny _ A (do let _ ← comprehension (.ListComp elt [⟨.Name x px, iter, ifs, 0⟩] scope pos) scope env _ (newList []) false (eval iter env) (some (assign (.Name y py) env))) _ _ s
  exact wpAny_bind (wpAny_mono (wpAny_comprehension_free (use := some (assign (.Name y py) env)) (Q := fun _ s' => Q .next s') rfl hs hclos hkind hnames h) (fun _ s' hq => wpAny_pure (wpAny_pure hq)) fun _ _ e => e)

/-- over a list -/
theorem comp_list {x : Str} {px pos : Pos} {elt iter : Expr} {ifs : List Expr} {scope : Scope} {cl : List (Str × Addr)} {use : Option (Value → Sem Unit)} {Q : Value → Shared → Prop} {vs : List Value} (J : Nat → List Value → List Ent → Prop)
    (S : St s₁ L b H s) (h0 : J 0 [] H) (hn : vs.length ≤ sizeLine) (hl : (l, Lst vs) ∈ H ∨ s₁.heap.IsList l vs.toArray) (hJ : ∀ i ys H, J i ys H → (l, Lst vs) ∈ H ∨ s₁.heap.IsList l vs.toArray) (hh : A.handled = none)
    (hcell : ∀ y ∈ scope.names, y.2 ≠ .cell) (hkind : scope.kind = .function) (hx : scope.names.lookup x = some .local)
    (turn : ∀ C D I i v ys H' s', vs[i]? = some v → J i ys H' → St s₁ C [(x, v)] ((D, Lst ys) :: (I, LI l (i + 1)) :: (L, Frm b) :: H') s' →
      wpAny (model prog w) A (tests ifs (compEnvC scope cl C env)) (fun ok s₃ => if ok = true then wpAny (model prog w) A (eval elt (compEnvC scope cl C env)) (fun y s₄ => CompEnd s₁ C [(D, Lst ys), (I, LI l (i + 1)), (L, Frm b)] (J (i + 1) (ys ++ [y])) s₄) (fun _ _ => False) s₃
        else CompEnd s₁ C [(D, Lst ys), (I, LI l (i + 1)), (L, Frm b)] (J (i + 1) ys) s₃) (fun _ _ => False) s')
    (done : ∀ C D ys H' s', J vs.length ys H' → St s₁ L b ((C, Frm []) :: (D, Lst ys) :: H') s' →
      CompDone prog w A use Q E s₁ L b C D ys H' s') :
    CompAt prog w A elt x px pos iter ifs scope env cl use Q E (.ref l) s :=
  it_list S hl fun s' I hne S' => comp_at (Itr.list vs hh hne) J S' h0 hn
    (fun C D i ys H s bC _ h S => (hJ i ys H h).elim (fun m => Lst.isList (S.get (List.mem_cons_of_mem _ (List.mem_cons_of_mem _ (List.mem_cons_of_mem _ m))))) fun ⟨o, ho, r⟩ => ⟨o, S.keep _ _ ho, r⟩)
    (fun s b' S => hl.elim (fun m => Lst.isList (S.get (List.mem_cons_of_mem _ m))) fun ⟨o, ho, r⟩ => ⟨o, S.keep _ _ ho, r⟩) hcell hkind hx
    (fun C D i v ys H' s' hi hV hJ S => turn C D I i v ys H' s' hV hJ S) done
end
end Mine
namespace Mine

/-! ### lists of texts -/
inductive TxAre : List Value → List (List Nat) → Prop
  | nil : TxAre [] []
  | cons (l : List Nat) (t : Tok) {vs ls} : TxAre vs ls → TxAre (.str (T l) t :: vs) (l :: ls)
theorem TxAre.append : ∀ {vs us : List Value} {ls ms : List (List Nat)}, TxAre vs ls → TxAre us ms → TxAre (vs ++ us) (ls ++ ms)
  | _, _, _, _, .nil, h => h
  | _, _, _, _, .cons l t r, h => .cons l t (r.append h)
theorem TxAre.values : ∀ {vs : List Value} {ls : List (List Nat)}, TxAre vs ls → ∃ p : List (Str × Tok), vs = strValues p ∧ p.map (·.1) = ls.map T
  | _, _, .nil => ⟨[], rfl, rfl⟩
  | _, _, .cons l t r => by obtain ⟨p, rfl, e⟩ := r.values; exact ⟨(T l, t) :: p, rfl, by simp [e]⟩
theorem glued_nil : ∀ (ls : List (List Nat)) (acc : List Nat), (ls.map T).foldl (fun acc p => acc ++ (T []).cps ++ p.cps) acc.toArray = (acc ++ ls.flatten).toArray
  | [], acc => by simp
  | l :: r, acc => by
    simp only [List.map_cons, List.foldl_cons]
    have e : acc.toArray ++ (T []).cps ++ (T l).cps = (acc ++ l).toArray := by simp [T]
    rw [e, glued_nil r]; simp
theorem join_T (ls : List (List Nat)) : Txt.join (T []) (ls.map T) = T ls.flatten := by
  unfold Txt.join Builtin.Str.glued
  cases ls with
  | nil => rfl
  | cons l r =>
    show Str.mk (((l :: r).map T).drop 1 |>.foldl _ _) = _
    simp only [List.map_cons, List.drop_one, List.tail_cons, List.headD_cons]
    have := glued_nil r l
    rw [show (T l).cps = l.toArray from rfl, this]; simp [T]

def tx (s : String) : List Nat := (Str.ofString s).cps.toList

section
variable {prog : Program} {w : World} {A : Around} {E : Value → Shared → Prop} {s s₁ : Shared} {L l a c : Addr} {b : List (Str × Value)} {H H' : List Ent} {env : Env} {Q : Value → Shared → Prop} {t u : Tok} {i j : Int}

theorem c_tx {x : String} {k : Nat} {pos : Pos} (S : St s₁ L b H s) (h : ∀ s' t', St s₁ L b H s' → Q (.str (T (tx x)) t') s') : wpAny (model prog w) A (eval (.Constant (.str (Str.ofString x)) k pos) env) Q E s :=
  c_str S fun s' t' S' => by have := h s' t' S'; rwa [show T (tx x) = Str.ofString x from T_of _] at this

/-! ### where a list lies -/
def IsAt (s₁ : Shared) (H : List Ent) (l : Addr) (vs : List Value) : Prop := (l, Lst vs) ∈ H ∨ s₁.heap.IsList l vs.toArray
theorem IsAt.isList {vs : List Value} (S : St s₁ L b H s) (h : IsAt s₁ H l vs) : s.heap.IsList l vs.toArray := h.elim (fun m => Lst.isList (S.get m)) fun ⟨o, ho, r⟩ => ⟨o, S.keep _ _ ho, r⟩

theorem i_neg (S : St s₁ L b H s) (h : ∀ s' t', St s₁ L b H s' → Q (.int (-i) t') s') : wpAny (model prog w) A (unaryOp .USub (.int i t)) Q E s := neg_int (h _ _ (S.tok _))
theorem c_lenL {vs : List Value} (S : St s₁ L b H s) (hl : IsAt s₁ H l vs) (hsz : vs.length ≤ sizeLine) (h : ∀ s' t', St s₁ L b H s' → Q (.int vs.length t') s') : wpAny (model prog w) A (call (.builtin "len") [.ref l]) Q E s := by
  have h' := h { s with toks := s.toks + 1 + 1 } (s.toks + 1) (S.tok _)
  refine len_list (hl.isList S) (by rw [sizeLine_eq] at hsz; rw [List.size_toArray]; omega) ?_
  rw [List.size_toArray]; exact h'
theorem c_sum {vs : List Value} {ns : List Int} (S : St s₁ L b H s) (hh : A.handled = none) (hl : IsAt s₁ H l vs) (hi : IntsAre vs ns) (h : ∀ s' t', St s₁ L b H s' → Q (.int ns.sum t') s') : wpAny (model prog w) A (call (.builtin "sum") [.ref l]) Q E s := by
  obtain ⟨xs, hx⟩ := hi.allInts.items
  refine sum_intListG hh (xs := xs) (by rw [← hx]; exact hl.isList S) fun h' tk t' hk => ?_
  have e : ns.sum = preSum (numAt xs) xs.size := by
    have h1 : numsOf vs.toArray.toList = ns := hi.numsOf
    rw [hx, nums_intItems] at h1
    rw [preSum_eq, List.take_of_length_le (by simp), ← h1]
  rw [← e]; exact h _ _ (S.ext tk hk)
theorem c_join {vs : List Value} {ls : List (List Nat)} (S : St s₁ L b H s) (hl : IsAt s₁ H l vs) (ht : TxAre vs ls) {x : Str} (hx : x = T []) (hsz : (ls.map List.length).sum ≤ sizeLine) (h : ∀ s' t', St s₁ L b H s' → Q (.str (T ls.flatten) t') s') :
    wpAny (model prog w) A (call (.builtin "str.join") [.str x t, .ref l]) Q E s := by
  subst hx
  obtain ⟨p, rfl, e⟩ := ht.values
  refine SC.join (l := p) (hl.isList S) e ?_ fun t' k => ?_
  · unfold JoinOk
    rw [StrLaws.joinTotal]
    simp only [T_len, List.length_nil, Nat.mul_zero, Nat.add_zero, List.map_map]
    have : (ls.map ((fun x : Str => x.length) ∘ T)) = ls.map List.length := List.map_congr_left fun l _ => T_len l
    rw [this]
    simp only [Builtin.Str.tooLong, Bool.not_eq_true', decide_eq_false_iff_not]
    omega
  · rw [join_T]; exact h _ _ (S.tok _)

theorem t_item {value slice : Expr} {l : List Nat} {k : Int} {ch : Nat} (S : St s₁ L b H s) (h0 : 0 ≤ k) (h1 : k < 2 ^ 62) (hx : l[k.toNat]? = some ch) (h : ∀ s' t', St s₁ L b H s' → Q (.str (T [ch]) t') s')
    (hs : subscripted slice false (.str (T l) t) (.int k u) = operate [.str (T l) t, .int k u] (getItem (.str (T l) t) (.int k u))) :
    wpAny (model prog w) A (subscriptTail value slice (.str (T l) t) (.int k u)) Q E s := by
  refine tail_any (typeIs_str s _ t) F.slot_str_getitem.lookup (getItem_str (c := ch) (by simp; omega) ?_ (h _ _ (S.tok _))) hs
  have hlt : k.toNat < l.length := (List.getElem?_eq_some_iff.mp hx).1
  rw [T_len, seqIndex_of h0 (by omega)]
  simpa [T] using hx
theorem l_item {value slice : Expr} {vs : List Value} {k : Int} {x : Value} (S : St s₁ L b H s) (hl : IsAt s₁ H l vs) (h0 : 0 ≤ k) (h1 : k < 2 ^ 62) (hx : vs[k.toNat]? = some x) (h : Q x s)
    (hs : subscripted slice false (.ref l) (.int k u) = operate [.ref l, .int k u] (getItem (.ref l) (.int k u))) :
    wpAny (model prog w) A (subscriptTail value slice (.ref l) (.int k u)) Q E s :=
  tail_any (hl.isList S).typeIs slot_list_getitem.lookup (wpAny_getItem_list (hl.isList S) h0 (by omega) (by simpa using hx) h) hs
theorem l_last {value slice : Expr} {vs : List Value} {k : Int} {x : Value} (S : St s₁ L b H s) (hl : IsAt s₁ H l vs) (h0 : k < 0) (h1 : -(vs.length : Int) ≤ k) (hb : vs.length ≤ sizeLine) (hx : vs[(k + vs.length).toNat]? = some x) (h : Q x s)
    (hs : subscripted slice false (.ref l) (.int k u) = operate [.ref l, .int k u] (getItem (.ref l) (.int k u))) :
    wpAny (model prog w) A (subscriptTail value slice (.ref l) (.int k u)) Q E s :=
  tail_any (hl.isList S).typeIs slot_list_getitem.lookup (wpAny_getItem_list_neg (hl.isList S) h0 (by simpa using h1) (by rw [sizeLine_eq] at hb; omega) (by simpa using hx) h) hs

theorem unpack_tup {vs : List Value} {n : Nat} {Q : List Value → Shared → Prop} (S : St s₁ L b ((a, Tup vs) :: H) s) (hh : A.handled = none) (hn : n = vs.length) (h : ∀ s', St s₁ L b H s' → Q vs s') : wpAny (model prog w) A (unpackItems (.ref a) n none) Q E s := by
  have ht : IsTup s.heap a vs.toArray := Tup.isTup (getHead S)
  subst hn
  have := unpackItems_tuple (prog := prog) (w := w) (E := E) (Q := Q) hh ht fun h' he => h _ (S.drop.ext s.toks fun c o e => he c o (Nat.ne_of_lt (Heap.lt_size e)) e)
  simpa using this

theorem PlainL {vs : List Value} (S : St s₁ L b H s) (hl : (l, Lst vs) ∈ H) : ∀ c, Value.ref l = .ref c → ∃ o, s.heap.get? c = some o ∧ o.dict = none := fun c e => by
  cases e
  obtain ⟨o, ho, _, hd, _⟩ := S.get hl; exact ⟨o, ho, hd⟩
theorem m_append {vs : List Value} {pl : Sem Bool} {Q : Value × List Value → Shared → Prop} (S : St s₁ L b H s) (hl : (l, Lst vs) ∈ H) (h : Q (.builtin "list.append", [.ref l]) s) : wpAny (model prog w) A (getMethod (.ref l) "append" pl) Q E s := by
  obtain ⟨o, ho, hc, hd, _⟩ := S.get hl
  exact getMethod_list_append ho hc hd h

/-! ### == -/
def lEq (e : Value → Value → Bool) : List Value → List Value → Bool
  | [], [] => true
  | x :: xs, y :: ys => e x y && lEq e xs ys
  | _, _ => false
theorem lEq_len {e : Value → Value → Bool} : ∀ {xs ys : List Value}, lEq e xs ys = true → xs.length = ys.length
  | [], [], _ => rfl
  | [], _ :: _, h => by simp [lEq] at h
  | _ :: _, [], h => by simp [lEq] at h
  | _ :: xs, _ :: ys, h => by simp only [lEq, Bool.and_eq_true] at h; simp [lEq_len h.2]
theorem lEq_iff {e : Value → Value → Bool} : ∀ {xs ys : List Value}, lEq e xs ys = true ↔ xs.length = ys.length ∧ ∀ (j : Nat) (x y : Value), xs[j]? = some x → ys[j]? = some y → e x y = true
  | [], [] => by simp [lEq]
  | [], _ :: _ => by simp [lEq]
  | _ :: _, [] => by simp [lEq]
  | x :: xs, y :: ys => by
    simp only [lEq, Bool.and_eq_true, List.length_cons, Nat.add_right_cancel_iff]
    rw [lEq_iff]
    constructor
    · rintro ⟨h1, h2, h3⟩
      refine ⟨h2, fun j x' y' hx hy => ?_⟩
      cases j with
      | zero => simp at hx hy; subst hx hy; exact h1
      | succ j => exact h3 j x' y' (by simpa using hx) (by simpa using hy)
    · rintro ⟨h1, h2⟩
      exact ⟨h2 0 x y rfl rfl, h1, fun j x' y' hx hy => h2 (j + 1) x' y' (by simpa using hx) (by simpa using hy)⟩
theorem all_range_lEq {e : Value → Value → Bool} {xs ys : List Value} (h : xs.length = ys.length) : (List.range xs.toArray.size).all (fun j => e (xs[j]?.getD .none) (ys[j]?.getD .none)) = lEq e xs ys := by
  rw [Bool.eq_iff_iff, lEq_iff, List.all_eq_true]
  simp only [List.mem_range, List.size_toArray]
  constructor
  · intro hh
    refine ⟨h, fun j x y hx hy => ?_⟩
    have := hh j (List.getElem?_eq_some_iff.mp hx).1
    rwa [hx, hy] at this
  · rintro ⟨_, hh⟩ j hj
    have h2 : j < ys.length := h ▸ hj
    exact hh j _ _ (by simp [hj]) (by simp [h2])
section
open SeqAt
theorem rc_lists {e : Value → Value → Bool} {vs us : List Value} (ha : s.heap.IsList a vs.toArray) (hc : s.heap.IsList c us.toArray) (hu : A.units < cLine) (he : ∀ x ∈ vs, ∀ y ∈ us, EqAt A.in1 s x y (e x y)) :
    RcAt A s (.ref a) (.ref c) (lEq e vs us) := by
  by_cases hl : vs.length = us.length
  · rw [← all_range_lEq hl]
    exact RcAt.lists ha hc (by simpa using hl) hu fun j h1 h2 => by
      have h1' : j < vs.length := by simpa using h1
      have h2' : j < us.length := by simpa using h2
      have := he vs[j] (List.getElem_mem h1') us[j] (List.getElem_mem h2')
      simpa [h1', h2'] using this
  · have : lEq e vs us = false := by
      cases h : lEq e vs us with
      | false => rfl
      | true => exact absurd (lEq_len h) hl
    rw [this]
    exact RcAt.lists_lengths ha hc (by simpa using hl) hu
end
theorem l_eqInts {vs us : List Value} {ns ms : List Int} (S : St s₁ L b H s) (ha : IsAt s₁ H a vs) (hc : IsAt s₁ H c us) (hv : IntsAre vs ns) (hw : IntsAre us ms) (hu : A.units + 64 < cLine) (h : Q (.bool (decide (ns = ms))) s) :
    wpAny (model prog w) A (compareOp .Eq (.ref a) (.ref c)) Q E s := ke_eq_ints (ha.isList S) (hc.isList S) hv hw hu h
theorem l_neInts {vs us : List Value} {ns ms : List Int} (S : St s₁ L b H s) (ha : IsAt s₁ H a vs) (hc : IsAt s₁ H c us) (hv : IntsAre vs ns) (hw : IntsAre us ms) (hu : A.units + 64 < cLine) (h : Q (.bool (!decide (ns = ms))) s) :
    wpAny (model prog w) A (compareOp .NotEq (.ref a) (.ref c)) Q E s := ke_ne_ints (ha.isList S) (hc.isList S) hv hw hu h
end
end Mine
namespace Mine
theorem law_end {c : ClaimW} {cl : Str → Option Addr} {mean : ExcName → Option Value} {args : List WData} {s₁ s' : Shared} {L : Addr} {b : List (Str × Value)} {H : List Ent} (S : St s₁ L b H s') (hg : s₁.gens = #[])
    (hn : ∀ cls, c.raises args cls = false) (hp : c.post args (.bool true) args = true) : GoodW c cl mean args s₁ (.ok (.ret (.bool true))) s' := by
  obtain ⟨h, tk, e⟩ := S.eq
  exact ⟨.inl ⟨.bool true, .bool true, [], rfl, hn, .bool true, hp, unshared_nil⟩, S.keep, by rw [e], by rw [e]; exact hg⟩
/-- the start: the frame that the call has laid -/
theorem law_start0 {s₁ : Shared} {L : Addr} {h : Heap} {m : Str → Option Value} {b : List (Str × Value)} (tk : Nat) (F : Fr s₁.heap L h m) (hb : ∀ x v, lk b x = some v → m x = some v) : St s₁ L b [] { s₁ with heap := h, toks := tk } where
  ns := Frm.of_Ns F.ns hb
  keep := F.keep
  fr := Heap.get?_none_of_le F.above
  nw := fun _ hp => nomatch hp
  fresh := fun _ hp => nomatch hp
  nd := List.nodup_nil
  eq := ⟨h, tk, rfl⟩
theorem lk1 {x : Str} {v : Value} {m : Str → Option Value} (h : m x = some v) : ∀ y u, lk [(x, v)] y = some u → m y = some u := fun y u e => by
  simp only [lk] at e
  by_cases hx : x = y
  · subst hx; simp at e; subst e; exact h
  · simp [hx] at e
end Mine
namespace Mine
def fdAt (K : Frag) (f : Addr) : FuncData := match K.lookup f with
  | some ⟨_, _, .func fd, _⟩ => fd
  | _ => default
def bodyAt (fd : FuncData) : List Stmt := match fd.body with
  | .stmts b => b
  | _ => []
end Mine
namespace Mine
end Mine
namespace Mine
section
variable {prog : Program} {w : World} {A : Around} {E : Value → Shared → Prop} {s s₁ : Shared} {L l a c : Addr} {b : List (Str × Value)} {H H' : List Ent} {env : Env}
/-- a statement's own post -/
theorem ex_post {st : Stmt} {rest : List Stmt} {Q : Flow → Shared → Prop} (P : Shared → Prop) (h : wpAny (model prog w) A (exec st env) (fun f s' => f = .next ∧ P s') E s) (k : ∀ s', P s' → wpAny (model prog w) A (execs rest env) Q E s') : wpAny (model prog w) A (execs (st :: rest) env) Q E s :=
  wpAny_execs_cons (wpAny_mono h (fun f s' ⟨e, p⟩ => by subst e; exact k s' p) fun _ _ x => x)
end
end Mine
namespace Mine
end Mine
namespace Mine
end Mine
namespace Mine
section
variable {prog : Program} {w : World} {A : Around} {E : Value → Shared → Prop} {s s₁ : Shared} {L l a c : Addr} {b : List (Str × Value)} {H H' : List Ent} {env : Env} {Q : Value → Shared → Prop} {t u : Tok} {i j : Int}

theorem slicePick_cut (vs : List Value) (lo hi : Option Int) : slicePick vs.toArray lo hi none = (cut vs lo hi).toArray := by
  have e : sliceBounds lo hi none vs.toArray.size = ((loC vs.length lo : Int), (hiC vs.length hi : Int), 1) := by
    unfold sliceBounds
    rw [List.size_toArray]
    cases lo <;> cases hi <;> simp only [loC, hiC, clip, Option.getD_none, show ((1 : Int) > 0) = True from by simp, if_true] <;> (refine Prod.ext ?_ (Prod.ext ?_ rfl)) <;> simp only <;> omega
  unfold slicePick
  rw [e, sliceRange1]
  have := picked vs (loC vs.length lo) (hiC vs.length hi) (hiC_le _ _)
  congr 1
  simpa [cut] using this
theorem partOf (p : Option (Int × Tok)) : IsPart (partValue p) (p.map (·.1)) := by
  cases p with
  | none => exact .none
  | some x => exact .int _ _
theorem l_slice {value slice : Expr} {vs : List Value} {lo hi : Option Int} (S : St s₁ L b ((a, Slc lo hi) :: H) s) (hl : IsAt s₁ H l vs) (hsz : vs.length ≤ sizeLine) (h : ∀ s' c, St s₁ L b ((c, Lst (cut vs lo hi)) :: H) s' → Q (.ref c) s')
    (hs : subscripted slice false (.ref l) (.ref a) = operate [.ref a, .ref l] (getItem (.ref l) (.ref a))) : wpAny (model prog w) A (subscriptTail value slice (.ref l) (.ref a)) Q E s := by
  obtain ⟨o, ho, lo', hi', hc, hd, rfl, rfl⟩ := S.get (List.mem_cons_self ..)
  have hl' : s.heap.IsList l vs.toArray := hl.isList S.drop
  refine tail_any hl'.typeIs slot_list_getitem.lookup (wpAny_getItem_list_slice (st := none) hl' ⟨o, ho, hc, hd⟩ (partOf lo') (partOf hi') .none (by simp) ?_ (by rw [List.size_toArray]; exact hsz)) hs
  refine h _ _ (S.drop.push (P := Lst _) ⟨rfl, rfl, rfl, 0, ?_⟩ s.toks)
  show Data.seq _ _ = _
  rw [slicePick_cut]
theorem c_max2 (S : St s₁ L b H s) (hh : A.handled = none) (h : ∀ s' t', St s₁ L b H s' → Q (.int (max i j) t') s') : wpAny (model prog w) A (call (.builtin "max") [.int i t, .int j u]) Q E s :=
  max_two_ints hh fun h' tk hk => by
    split
    · rename_i hc; rw [show j = max i j by omega]; exact h _ _ (S.ext tk hk)
    · rename_i hc; rw [show i = max i j by omega]; exact h _ _ (S.ext tk hk)
end
section
variable {prog : Program} {w : World} {A : Around} {E : Value → Shared → Prop} {s s₁ : Shared} {L I l : Addr} {b : List (Str × Value)} {H H' : List Ent} {env : Env}
theorem comp_use {y : Str} {py : Pos} {C D : Addr} {ys : List Value} {Q : Value → Shared → Prop} (S : St s₁ L b ((C, Frm []) :: (D, Lst ys) :: H) s) (hx : env.kindOf y = some .local) (hL : env.locals = L) (hk : env.scope.kind = .function)
    (h : ∀ s₃, St s₁ L (up y (.ref D) b) ((D, Lst ys) :: H) s₃ → Q .none s₃) : CompDone prog w A (some (assign (.Name y py) env)) Q E s₁ L b C D ys H s :=
  wpAny_assign_Name (st_L S hx (fun s' S' => ⟨_, _, S', h⟩) hL hk)
end
end Mine
open PyProof.Rows.TI (gone gone_some gone_none gone_get)
open PySem.AutoSeq1 (wpAny_loadPart')
open PySem.SeqAt PySem.MeetsSeq PySem.MeetsSeq2 PySem.MeetsSeq3 PySem.SeqRoads2
namespace Mine

section
variable {prog : Program} {w : World} {A : Around} {E : Value → Shared → Prop} {s s₁ : Shared} {L l : Addr} {b : List (Str × Value)} {H H' : List Ent} {env : Env}

theorem lst_get {vs : List Value} (S : St s₁ L b H s) (hl : (l, Lst vs) ∈ H) : ∃ n, s.heap.get? l = some { cls := .type "list", dict := none, data := .seq vs.toArray n, slots := #[] } := by
  obtain ⟨⟨c, d, dt, sl⟩, ho, hc, hd, hs, n, hdt⟩ := S.get hl
  simp only at hc hd hs hdt; subst hc hd hs hdt
  exact ⟨n, ho⟩

theorem l_extend {vs us : List Value} {c : Addr} {Q : Value → Shared → Prop} (S : St s₁ L b H s) (hc : (c, Lst us) ∈ H) (U : Upd l (Lst vs) (Lst (vs ++ us)) H H') (hsz : vs.length + us.length ≤ sizeLine)
    (h : ∀ s', St s₁ L b H' s' → Q .none s') : wpAny (model prog w) A (call (.builtin "list.extend") [.ref l, .ref c]) Q E s := by
  obtain ⟨n, hl⟩ := lst_get S U.mem
  obtain ⟨n2, hb⟩ := lst_get S hc
  have hsz' : vs.toArray.size + us.toArray.size ≤ sizeLine := by simpa using hsz
  refine call_meets PySem.F.slot_list_extend ⟨_, hl, rfl⟩ PySem.F.entry_list_extend (PySem.F.args_list_extend_2 _ _) (AutoSeq1.list_extend_list_list_0 l vs.toArray n c us.toArray n2 (extend_door hsz') (Nat.le_trans (Nat.le_add_right _ _) hsz')) ⟨hl, hb, ?_⟩
  exact h _ (S.mapSeq U (by simp) s.toks)

theorem m_list {vs : List Value} {name : Str} {id : String} {pl : Sem Bool} {Q : Value × List Value → Shared → Prop} (S : St s₁ L b H s) (hl : IsAt s₁ H l vs) (slot : Slot "list" name id) (hty : typeOf (.builtin id) = pure (.type "method_descriptor"))
    (hp : (l, Lst vs) ∈ H) (h : Q (.builtin id, [.ref l]) s) : wpAny (model prog w) A (getMethod (.ref l) name pl) Q E s :=
  getMethod_builtin (IsAt.isList S hl).typeIs PySem.F.plainAttrs_list slot hty (PlainL S hp) h

/-! ### a try -/
def FrsIn (L : Addr) (H : List Ent) (l : List Env) : Prop := ∀ env ∈ l, env.scope.kind ≠ .module ∧ ∃ F, env.frame = some F ∧ (F = L ∨ ∃ b, (F, Frm b) ∈ H)

structure Hld (s₁ : Shared) (L : Addr) (b : List (Str × Value)) (H : List Ent) (l : List Env) (base : Heap) (e : Addr) (X : String) (a0 fl : Value) (s : Shared) : Prop where
  S : St s₁ L b H s
  nw : ∀ p ∈ H, (∃ o, base.get? p.1 = some o ∧ p.2 o) ∨ ∃ b', p.2 = Frm b'
  kb : ∀ a o, s₁.heap.get? a = some o → base.get? a = some o
  st : base.StaysIn s.heap
  ff : s.heap.FunFrames base l
  tr : s.heap.TracedAtW base e (.type X) a0 fl

theorem Hld.next {l : List Env} {base : Heap} {e : Addr} {X : String} {a0 fl fl' : Value} (h : Hld s₁ L b H l base e X a0 fl s) {h' : Heap} (tk : Nat) (st : base.StaysIn h') (ff : h'.FunFrames base l) (tr : h'.TracedAtW base e (.type X) a0 fl')
    (up : s.heap.UpToSlots h') : Hld s₁ L b H l base e X a0 fl' { s with heap := h', toks := tk } := by
  have fr : ∀ (a : Addr) (b' : List (Str × Value)), (∃ o, s.heap.get? a = some o ∧ Frm b' o) → ∃ o, h'.get? a = some o ∧ Frm b' o := by
    rintro a b' ⟨o, ho, es, ep, hd, r⟩
    obtain ⟨sl, h2⟩ := up a o ho (fun vs q => by rw [hd] at q; cases q)
    exact ⟨_, h2, es, ep, hd, r⟩
  refine ⟨⟨fr _ _ h.S.ns, fun a o x => st a o (h.kb a o x), h.S.fr, fun p hp => ?_, h.S.fresh, h.S.nd, ?_⟩, h.nw, h.kb, st, ff, tr⟩
  · rcases h.nw p hp with ⟨o, ho, hP⟩ | ⟨b', hb⟩
    · exact ⟨o, st _ _ ho, hP⟩
    · have := h.S.nw p hp
      rw [hb] at this ⊢
      exact fr _ _ this
  · obtain ⟨_, _, e⟩ := h.S.eq
    exact ⟨h', tk, by rw [e]⟩

theorem Hld.flight {l : List Env} {base : Heap} {e : Addr} {X : String} {a0 fl : Value} {Q : Unit → Shared → Prop} (h : Hld s₁ L b H l base e X a0 fl s) (k : ∀ s', Hld s₁ L b H l base e X a0 .none s' → Q () s') :
    wpAny (model prog w) A (setFlight (.ref e) none) Q E s := by
  refine wpAny_setFlight_noneW h.st h.ff h.tr fun h' k1 k2 k3 k4 => ?_
  exact k _ (h.next s.toks k1 k2 k3.at fun a o ho hn => ⟨o.slots, k4 a o ho hn⟩)

theorem mem_fst_unique {H : List Ent} (nd : (H.map (·.1)).Nodup) {p q : Ent} (hp : p ∈ H) (hq : q ∈ H) (e : p.1 = q.1) : p = q := by
  induction H with
  | nil => simp at hp
  | cons r H ih =>
    simp only [List.map_cons, List.nodup_cons] at nd
    rcases List.mem_cons.mp hp with h1 | h1 <;> rcases List.mem_cons.mp hq with h2 | h2
    · rw [h1, h2]
    · exact absurd (List.mem_map.mpr ⟨q, h2, by rw [← e, h1]⟩) nd.1
    · exact absurd (List.mem_map.mpr ⟨p, h1, by rw [e, h2]⟩) nd.1
    · exact ih nd.2 h1 h2

theorem St.funFrames {base : Heap} (S : St s₁ L b H s) : ∀ {l : List Env}, FrsIn L H l → (∀ env ∈ l, ∀ F, env.frame = some F → base.get? F = none) → s.heap.FunFrames base l
  | [], _, _ => trivial
  | env :: l, hF, hb => by
    obtain ⟨hk, F, hf, hm⟩ := hF env (List.mem_cons_self ..)
    have : ∃ b' o, s.heap.get? F = some o ∧ Frm b' o := by
      rcases hm with rfl | ⟨b', hm⟩
      · obtain ⟨o, ho, h⟩ := S.ns; exact ⟨b, o, ho, h⟩
      · obtain ⟨o, ho, h⟩ := S.get hm; exact ⟨b', o, ho, h⟩
    obtain ⟨b', o, ho, es, ep, hd, _⟩ := this
    exact ⟨hk, ⟨F, o, hf, hb env (List.mem_cons_self ..) F hf, ho, fun vs q => by rw [hd] at q; cases q⟩, S.funFrames (fun e he => hF e (List.mem_cons_of_mem _ he)) fun e he => hb e (List.mem_cons_of_mem _ he)⟩

/-- the state in which a try's body raised -/
def Rais (s₁ : Shared) (L : Addr) (X : String) (J : List (Str × Value) → List Ent → Prop) (ev : Value) (s' : Shared) : Prop :=
  ∃ b H s h' tk e, ev = .ref e ∧ s' = { s with heap := h', toks := tk } ∧ St s₁ L b H s ∧ Heap.NewExc s.heap h' e X ∧ J b H

end
end Mine
open PySem.SeqAt
namespace Mine
/-! ### the plain law -/
section
variable (num : Value → Int)
end

/-! ### rows that are made one by one -/
def Kof (ps : List (Addr × List Value)) : List Ent := ps.map fun p => (p.1, Lst p.2)
theorem Kof_upd {a : Addr} {vs vs' : List Value} : ∀ {ps : List (Addr × List Value)} {k : Nat}, ps[k]? = some (a, vs) → Upd a (Lst vs) (Lst vs') (Kof ps) (Kof (ps.set k (a, vs')))
  | [], k, h => by simp at h
  | p :: ps, 0, h => by simp at h; subst h; exact Upd.head _
  | p :: ps, k + 1, h => by simp at h; exact Upd.tail _ (Kof_upd h)
theorem Kof_mem {ps : List (Addr × List Value)} {p : Addr × List Value} (h : p ∈ ps) : (p.1, Lst p.2) ∈ Kof ps := List.mem_map.mpr ⟨p, h, rfl⟩

section
variable {prog : Program} {w : World} {A : Around} {E : Value → Shared → Prop} {s s₁ : Shared} {L l : Addr} {b : List (Str × Value)} {H H' : List Ent} {env : Env}
end
end Mine
open PySem.SeqAt
namespace Mine
section
variable {prog : Program} {w : World} {A : Around} {E : Value → Shared → Prop} {s s₁ : Shared} {L l f : Addr} {b b' : List (Str × Value)} {H H' : List Ent} {Q : Value → Shared → Prop} {fd : FuncData} {body : List Stmt} {binds : List (Str × Value)}
theorem lookup_of_mem_nodup {cs : List (Str × Addr)} (hn : (cs.map (·.1)).Nodup) {n : Str} {c : Addr} (h : (n, c) ∈ cs) : cs.lookup n = some c := by
  induction cs with
  | nil => simp at h
  | cons p r ih =>
    obtain ⟨n', c'⟩ := p
    simp only [List.map_cons, List.nodup_cons] at hn
    rcases List.mem_cons.mp h with e | h2
    · cases e; simp
    · have hne : n ≠ n' := by rintro rfl; exact hn.1 (List.mem_map.mpr ⟨(n, c), h2, rfl⟩)
      rw [List.lookup_cons]
      have : (n == n') = false := by simp [hne]
      rw [this]; exact ih hn.2 h2
theorem St.enterC (S : St s₁ L b H s) {s' : Shared} {L' : Addr} {m cm : Str → Option Value} {cs : List (Str × Addr)} (x : InCallC s L' m cs cm s') (hL : L' = s.heap.objs.size) (hcn : (cs.map (·.1)).Nodup) (hb : ∀ y v, lk b' y = some v → m y = some v) :
    St s₁ L' b' (cs.map (fun p => (p.2, Cel (cm p.1))) ++ (L, Frm b) :: H) s' where
  ns := Frm.of_Ns x.toInCall.ns hb
  keep := fun a o e => x.toInCall.keep _ _ (S.keep a o e)
  fr := by rw [hL]; exact S.size.1
  nw := fun p hp => by
    rcases List.mem_append.mp hp with hp | hp
    · obtain ⟨⟨n, c⟩, hm, rfl⟩ := List.mem_map.mp hp
      obtain ⟨o, ho, hd⟩ := x.cell n c (lookup_of_mem_nodup hcn hm)
      exact ⟨o, ho, hd⟩
    · rcases List.mem_cons.mp hp with rfl | hp
      · obtain ⟨o, ho, h⟩ := S.ns; exact ⟨o, x.toInCall.keep _ _ ho, h⟩
      · obtain ⟨o, ho, h⟩ := S.nw p hp; exact ⟨o, x.toInCall.keep _ _ ho, h⟩
  fresh := fun p hp => by
    rcases List.mem_append.mp hp with hp | hp
    · obtain ⟨⟨n, c⟩, hm, rfl⟩ := List.mem_map.mp hp
      have := x.above n c hm
      refine ⟨Nat.ne_of_gt this, ?_⟩
      cases e : s₁.heap.get? c with
      | none => rfl
      | some o =>
        have := Heap.lt_size (S.keep _ _ e)
        have h2 := x.above n c hm
        rw [hL] at h2
        exact absurd (Nat.lt_trans this h2) (Nat.lt_irrefl _)
    · rcases List.mem_cons.mp hp with rfl | hp
      · exact ⟨by rw [hL]; exact Ne.symm S.size.2.1, S.fr⟩
      · exact ⟨by rw [hL]; exact S.size.2.2 p hp, (S.fresh p hp).2⟩
  nd := by
    rw [List.map_append, List.map_map]
    refine List.nodup_append.mpr ⟨?_, ?_, ?_⟩
    · have := x.apart
      rw [List.Nodup, List.pairwise_map]
      exact this.imp fun h => h
    · refine List.nodup_cons.mpr ⟨fun hm => ?_, S.nd⟩
      obtain ⟨q, hq, e⟩ := List.mem_map.mp hm
      exact (S.fresh q hq).1 e
    · intro a ha c hc e
      subst e
      obtain ⟨⟨n, c⟩, hm, rfl⟩ := List.mem_map.mp ha
      have h2 := x.above n c hm
      rw [hL] at h2
      simp only [Function.comp] at hc
      rcases List.mem_cons.mp hc with e | hc
      · obtain ⟨o, ho, _⟩ := S.ns
        have := Heap.lt_size ho
        simp only at e
        rw [← e] at this
        exact absurd (Nat.lt_trans this h2) (Nat.lt_irrefl _)
      · obtain ⟨q, hq, e⟩ := List.mem_map.mp hc
        obtain ⟨o, ho, _⟩ := S.nw q hq
        have := Heap.lt_size ho
        rw [e] at this
        exact absurd (Nat.lt_trans this h2) (Nat.lt_irrefl _)
  eq := by
    obtain ⟨h, tk, e⟩ := x.toInCall.same
    obtain ⟨h', tk', e'⟩ := S.eq
    exact ⟨h, tk, by rw [e, e']⟩
theorem call_fnC {K : Frag} {oc : Value} {od : Option Addr} {osl : Array (Option Value)} {args : List Value} (ents : Addr → List Ent)
    (S : St s₁ L b H s) (X : K.In s₁.heap) (hlim : s₁.heap.NoLimit) (ho : K.lookup f = some ⟨oc, od, .func fd, osl⟩) (hcd : codeIn K fd.code fd.qualname = true) (hroom : A.depth < recursionLimit)
    (hbody : fd.body = .stmts body) (hbind : bindArgs fd ⟨args, []⟩ = pure binds) (hclo : fd.closure = [])
    (hkind : ∀ n, (binds.all fun x => decide (fd.scope.names.lookup x.1 = some .local) || (decide (fd.scope.names.lookup x.1 = some .cell) && ((cellsFrom n fd.scope.names []).lookup x.1).isSome)) = true)
    (cns : List Str) (hcs : ∀ n, (cellsFrom n fd.scope.names []).map (·.1) = cns) (hcn : cns.Nodup)
    (hb : ∀ L' y v, lk b' y = some v → bindL (callEnvC fd L' f).kindOf binds (fun _ => none) y = some v)
    (he : ∀ L', (cellsFrom (L' + 1) fd.scope.names []).map (fun p => (p.2, Cel (bindC (callEnvC fd L' f).kindOf binds (fun _ => none) p.1))) = ents L')
    (h : ∀ s' L', St s₁ L' b' (ents L' ++ (L, Frm b) :: H) s' →
      wpAny (model prog w) (A.deeper (callEnvC fd L' f)) (execs body (callEnvC fd L' f)) (fun fl s'' => Q (match fl with | .ret v => v | _ => .none) s'') (fun _ _ => False) s')
    (hco : fd.scope.isCoroutine = false) (hgen : fd.scope.isGenerator = false) (hk : fd.scope.kind = .function) : wpAny (model prog w) A (call (.ref f) args) Q E s := by
  have X' := X.keeps S.keep
  refine wpAny_call (codeAny_call_cells hroom (X' _ _ ho) rfl (hlim.keeps S.keep) (codeRec_of X' hcd) hbody hbind hclo (fun x hx => ?_) (fun s₂ x => ?_) hco hgen hk)
  · have := List.all_eq_true.mp (hkind (s.heap.objs.size + 1)) x hx
    simpa using this
  have S' := S.enterC (b' := b') x rfl (by rw [show (callEnvC fd s.heap.objs.size f).cells = cellsFrom (s.heap.objs.size + 1) fd.scope.names [] from rfl, hcs]; exact hcn) (hb _)
  refine wpAny_mono (h _ _ ?_) (fun _ _ q => q) (fun _ _ q => q.elim)
  rw [← he]
  exact S'
end
end Mine
open PySem.SeqAt
namespace Mine
/-! ### map objects -/
section
variable {prog : Program} {w : World} {A : Around} {E : Value → Shared → Prop} {s : Shared}
end
section
variable {prog : Program} {w : World} {A : Around} {h₀ : Heap} {z TI J t : Addr} {f : Value} {xs : Array Value} {P : Nat → Value → Prop}
end
end Mine
open PySem.SeqAt
namespace Mine
section
variable {prog : Program} {w : World} {A : Around} {E : Value → Shared → Prop} {s : Shared} {I : Addr} {fp wr : List Addr} {G : Array GenState → Array GenState → Prop} {n : Nat} {P : Nat → Value → Prop} {St : Nat → Shared → Prop}
end
end Mine
open PySem.SeqAt
namespace Mine
section
variable {prog : Program} {w : World} {A : Around} {E : Value → Shared → Prop} {s s₁ : Shared} {L m TA J t : Addr} {b : List (Str × Value)} {H : List Ent} {Q : Value → Shared → Prop} {f : Value} {vs : List Value}
/-! ### a call out of any state -/
end
end Mine
open PySem.SeqAt
namespace Mine
section
variable {prog : Program} {w : World} {A : Around} {E : Value → Shared → Prop} {s s₁ : Shared} {L I : Addr} {b : List (Str × Value)} {H : List Ent} {env : Env}
/-- some made objects pass from one state to the next -/
theorem St.swapX {X X' : List Ent} {wr : List Addr} (S : St s₁ L b (X ++ H) s) (hX : X.map (·.1) = wr) (hX' : X'.map (·.1) = wr) {h' : Heap} (tk : Nat) (hk : ∀ c o, c ∉ wr → s.heap.get? c = some o → h'.get? c = some o)
    (hP : ∀ p ∈ X', ∃ o, h'.get? p.1 = some o ∧ p.2 o) : St s₁ L b (X' ++ H) { s with heap := h', toks := tk } := by
  have hmem : ∀ a ∈ wr, ∃ p ∈ X, p.1 = a := fun a ha => by rw [← hX] at ha; obtain ⟨p, hp, e⟩ := List.mem_map.mp ha; exact ⟨p, hp, e⟩
  have hnd : ((X' ++ H).map (·.1)).Nodup := by
    have := S.nd
    rw [List.map_append, hX] at this
    rw [List.map_append, hX']; exact this
  have hL : L ∉ wr := fun h => by obtain ⟨p, hp, e⟩ := hmem L h; exact (S.fresh p (List.mem_append_left _ hp)).1 e
  have h1 : ∀ a o, s₁.heap.get? a = some o → a ∉ wr := fun a o e h => by
    obtain ⟨p, hp, e'⟩ := hmem a h
    have := (S.fresh p (List.mem_append_left _ hp)).2
    rw [e', e] at this; cases this
  have hH : ∀ p ∈ H, p.1 ∉ wr := fun p hp h => by
    have := S.nd
    rw [List.map_append, hX] at this
    exact (List.nodup_append.mp this).2.2 p.1 h p.1 (List.mem_map.mpr ⟨p, hp, rfl⟩) rfl
  refine ⟨?_, fun a o e => hk _ _ (h1 a o e) (S.keep a o e), S.fr, ?_, ?_, hnd, ?_⟩
  · obtain ⟨o, ho, h⟩ := S.ns; exact ⟨o, hk _ _ hL ho, h⟩
  · intro p hp
    rcases List.mem_append.mp hp with hp | hp
    · exact hP p hp
    · obtain ⟨o, ho, h⟩ := S.nw p (List.mem_append_right _ hp); exact ⟨o, hk _ _ (hH p hp) ho, h⟩
  · intro p hp
    rcases List.mem_append.mp hp with hp | hp
    · have : p.1 ∈ wr := by rw [← hX']; exact List.mem_map.mpr ⟨p, hp, rfl⟩
      obtain ⟨q, hq, e⟩ := hmem _ this
      rw [← e]; exact S.fresh q (List.mem_append_left _ hq)
    · exact S.fresh p (List.mem_append_right _ hp)
  · obtain ⟨h, tk', e⟩ := S.eq; exact ⟨h', tk, by rw [e]⟩
/-- what a turn of a for over pairs leaves -/
def TurnEndX (s₁ : Shared) (L : Addr) (X : List Ent) (J : List (Str × Value) → List Ent → Prop) (Q : Flow → Shared → Prop) (f : Flow) (s : Shared) : Prop :=
  match f with
  | .next | .cont => ∃ b H, St s₁ L b (X ++ H) s ∧ J b H
  | .brk => Q .next s
  | .ret v => Q (.ret v) s
end
end Mine
open PySem.SeqAt
namespace Mine
def SiO (ty : String) (x : Str) (t : Tok) (i : Nat) (o : Obj) : Prop := o.cls = .type ty ∧ o.data = .fields #[.str x t, .int i 0]
section
variable {prog : Program} {w : World} {A : Around} {E : Value → Shared → Prop} {s s₁ : Shared} {L e it : Addr} {b : List (Str × Value)} {H : List Ent} {env : Env} {l : List Nat} {t : Tok}
end
end Mine
namespace Mine
/-! ### zip over any two sources -/
structure Apart (z TI TO i1 i2 : Addr) (f1 f2 : List Addr) : Prop where
  TIz : TI ≠ z
  TOz : TO ≠ z
  TITO : TI ≠ TO
  TIi1 : TI ≠ i1
  TIi2 : TI ≠ i2
  m1 : i1 ∈ f1
  m2 : i2 ∈ f2
  n1 : z ∉ f1 ∧ TO ∉ f1 ∧ i2 ∉ f1
  n2 : z ∉ f2 ∧ TO ∉ f2 ∧ i1 ∉ f2
section
variable {prog : Program} {w : World} {A : Around} {z TI TO i1 i2 : Addr} {f1 f2 : List Addr} {n1 n2 : Nat} {P1 P2 : Nat → Value → Prop} {S1 S2 : Nat → Heap → Prop}
theorem keepF {f : List Addr} {h h' : Heap} {c : Addr} (hc : c ∉ f) (hs : Heap.SameBut c h h') : ∀ b ∈ f, ∀ o, h.get? b = some o → h'.get? b = some o := fun b hb o e => hs.extBut _ _ (fun q => hc (q ▸ hb)) e
theorem WalksT.zipD (hh : A.handled = none) (D1 : Draws prog w A.in1 i1 f1 n1 P1 S1) (D2 : Draws prog w A.in1 i2 f2 n2 P2 S2) (D : Apart z TI TO i1 i2 f1 f2) :
    WalksT prog w A z (z :: TI :: TO :: (f1 ++ f2)) [z, TO, i1, i2] (min n1 n2) (fun i vals => ∃ x y, P1 i x ∧ P2 i y ∧ vals = #[x, y])
      (fun i h => IsZip h z TI TO .none ∧ IsPair h TI (.ref i1) (.ref i2) ∧ (∃ a b, IsPair h TO a b) ∧ S1 i h ∧ S2 i h)
      (fun i T h => IsZip h z TI TO (rawInt T) ∧ IsPair h TI (.ref i1) (.ref i2) ∧ (∃ a b, IsPair h TO a b) ∧ S1 (i + 1) h ∧ S2 (i + 1) h ∧ T ≠ z ∧ T ≠ TO ∧ T ≠ i1 ∧ T ≠ i2) where
  sub := fun c hc => by
    simp at hc ⊢
    rcases hc with rfl | rfl | rfl | rfl
    · simp
    · simp
    · exact Or.inr (Or.inr (Or.inr (Or.inl D.m1)))
    · exact Or.inr (Or.inr (Or.inr (Or.inr D.m2)))
  frame := fun i h h' hst hk => by
    obtain ⟨hz, hTI, ⟨a, b, hTO⟩, h1, h2⟩ := hst
    exact ⟨hk z (by simp) _ hz, hk TI (by simp) _ hTI, ⟨a, b, hk TO (by simp) _ hTO⟩, D1.frame _ _ _ h1 fun c hc o e => hk c (by simp [hc]) o e, D2.frame _ _ _ h2 fun c hc o e => hk c (by simp [hc]) o e⟩
  item := fun i s Q E hi hst hQ => by
    obtain ⟨hz, hTI, ⟨a, b, hTO⟩, h1, h2⟩ := hst
    have hT : s.TypeIs (.ref z) "zip" := ⟨_, hz, rfl⟩
    have i1z : i1 ≠ z := fun e => D.n1.1 (e ▸ D.m1)
    have i2z : i2 ≠ z := fun e => D.n2.1 (e ▸ D.m2)
    have TOi1 : TO ≠ i1 := fun e => D.n1.2.1 (e ▸ D.m1)
    have TOi2 : TO ≠ i2 := fun e => D.n2.2.1 (e ▸ D.m2)
    have i12 : i1 ≠ i2 := fun e => D.n1.2.2 (e ▸ D.m1)
    unfold pyNext
    refine wpAny_bind (wpAny_attempt (wpAny_callSpecial?_slot (name := Str.ofString "__next__") hT F.slot_zip_next (wpAny_call_entry F.slot_zip_next hT F.entry_zip_next ?_ (F.args_zip_next_1 _))))
    show wpAny _ _ (field (.ref z) 2 >>= _) _ _ _
    refine wpAny_bind (wpAny_field hz rfl (x := .bool false) rfl ?_)
    show wpAny _ _ (field (.ref z) 3 >>= _) _ _ _
    refine wpAny_bind (wpAny_field hz rfl (x := .ref TI) rfl ?_)
    refine wpAny_bind (wpAny_seqItems hTI rfl ?_)
    show wpAny _ _ (Builtin.SmallTypes.ownedTupleIsFree (.ref z) >>= _) _ _ _
    refine wpAny_bind ?_
    unfold Builtin.SmallTypes.ownedTupleIsFree
    refine wpAny_bind (wpAny_field hz rfl (x := .none) rfl (wpAny_pure ?_))
    simp only [if_true]
    refine wpAny_bind (wpAny_rule ?_)
    refine wpAny_bind (wpAny_field hz rfl (x := .ref TO) rfl ?_)
    refine wpAny_bind (wpAny_setField_rec hz (by simp) fun h₁ hz₁ hs₁ => ?_)
    replace hz₁ : IsZip h₁ z TI TO .ellipsis := hz₁
    refine wpAny_bind ?_
    simp only [List.zipIdx_cons, List.zipIdx_nil, List.forIn_cons, List.forIn_nil]
    refine wpAny_bind (wpAny_bind (wpAny_onRaise ?_))
    show wpAny _ _ (Builtin.SmallTypes.nextOf (.ref i1) >>= _) _ _ _
    refine wpAny_bind (D1.item i _ _ _ (by omega) (D1.frame _ _ _ h1 (keepF D.n1.1 hs₁)) fun x h₂ tk₂ px h1₂ hs₂ => wpAny_pure ?_)
    have hTO₂ : IsPair h₂ TO a b := hs₂.extBut _ _ TOi1 (hs₁.extBut _ _ D.TOz hTO)
    refine wpAny_bind (wpAny_seqItems hTO₂ rfl ?_)
    refine wpAny_bind (wpAny_updateSeq_pair hTO₂ fun h₃ hTO₃ hs₃ => ?_)
    replace hTO₃ : IsPair h₃ TO x b := hTO₃
    refine wpAny_bind (wpAny_letGo (wpAny_pure ?_))
    refine wpAny_bind (wpAny_bind (wpAny_onRaise ?_))
    show wpAny _ _ (Builtin.SmallTypes.nextOf (.ref i2) >>= _) _ _ _
    have h2₃ : S2 i h₃ := D2.frame _ _ _ (D2.frame _ _ _ (D2.frame _ _ _ h2 (keepF D.n2.1 hs₁)) (keepF D.n2.2.2 hs₂)) (keepF D.n2.2.1 hs₃)
    refine wpAny_bind (D2.item i _ _ _ (by omega) h2₃ fun y h₄ tk₄ py h2₄ hs₄ => wpAny_pure ?_)
    have hTO₄ : IsPair h₄ TO x b := hs₄.extBut _ _ TOi2 hTO₃
    refine wpAny_bind (wpAny_seqItems hTO₄ rfl ?_)
    refine wpAny_bind (wpAny_updateSeq_pair hTO₄ fun h₅ hTO₅ hs₅ => ?_)
    replace hTO₅ : IsPair h₅ TO x y := hTO₅
    refine wpAny_bind (wpAny_letGo (wpAny_pure (wpAny_pure ?_)))
    refine wpAny_bind (wpAny_seqItems hTO₅ rfl ?_)
    refine wpAny_bind (wpAny_newTuple ?_)
    have hsz : h₅.objs.size = s.heap.objs.size := by rw [hs₅.1, hs₄.1, hs₃.1, hs₂.1, hs₁.1]
    have hz₅ : IsZip h₅ z TI TO .ellipsis := hs₅.extBut _ _ D.TOz.symm (hs₄.extBut _ _ i2z.symm (hs₃.extBut _ _ D.TOz.symm (hs₂.extBut _ _ i1z.symm hz₁)))
    have hk₅ : ∀ c o, c ≠ z → c ≠ TO → c ≠ i1 → c ≠ i2 → s.heap.get? c = some o → h₅.get? c = some o := fun c o c1 c2 c3 c4 e =>
      hs₅.extBut _ _ c2 (hs₄.extBut _ _ c4 (hs₃.extBut _ _ c2 (hs₂.extBut _ _ c3 (hs₁.extBut _ _ c1 e))))
    have h1₅ : S1 (i + 1) h₅ := D1.frame _ _ _ (D1.frame _ _ _ (D1.frame _ _ _ h1₂ (keepF D.n1.2.1 hs₃)) (keepF D.n1.2.2 hs₄)) (keepF D.n1.2.1 hs₅)
    have h2₅ : S2 (i + 1) h₅ := D2.frame _ _ _ h2₄ (keepF D.n2.2.1 hs₅)
    have hzlt : z < h₅.objs.size := Heap.lt_size hz₅
    show wpAny _ _ (Builtin.SmallTypes.ownedTupleHandOut (.ref z) (.ref h₅.objs.size) >>= _) _ _ _
    refine wpAny_bind ?_
    unfold Builtin.SmallTypes.ownedTupleHandOut
    have hz₆ : IsZip (h₅.push { cls := .type "tuple", data := .seq #[x, y] }) z TI TO .ellipsis := Heap.get?_push_of_some _ hz₅
    refine wpAny_bind (wpAny_setField_rec hz₆ (by simp) fun h₇ hz₇ hs₇ => ?_)
    replace hz₇ : IsZip h₇ z TI TO (rawInt h₅.objs.size) := hz₇
    refine wpAny_setField_rec hz₇ (by simp) fun h₈ hz₈ hs₈ => ?_
    replace hz₈ : IsZip h₈ z TI TO (rawInt h₅.objs.size) := hz₈
    have up : ∀ c o, c ≠ z → h₅.get? c = some o → h₈.get? c = some o := fun c o c1 e => hs₈.extBut _ _ c1 (hs₇.extBut _ _ c1 (Heap.get?_push_of_some _ e))
    have hT₈ : IsPair h₈ h₅.objs.size x y := hs₈.extBut _ _ (Nat.ne_of_gt hzlt) (hs₇.extBut _ _ (Nat.ne_of_gt hzlt) (Heap.get?_push_size _ rfl))
    refine wpAny_pure ⟨_, rfl, wpAny_pure ?_⟩
    have live : ∀ {c o}, s.heap.get? c = some o → h₅.objs.size ≠ c := fun e => by rw [hsz]; exact Nat.ne_of_gt (Heap.lt_size e)
    obtain ⟨o1, ho1⟩ := D1.live _ _ h1
    obtain ⟨o2, ho2⟩ := D2.live _ _ h2
    refine hQ h₅.objs.size #[x, y] h₈ tk₄ ⟨x, y, px, py, rfl⟩ (by rw [hsz]; exact Nat.le_refl _) ⟨_, hT₈, rfl, _, rfl⟩
      ⟨hz₈, up _ _ D.TIz (hk₅ _ _ D.TIz D.TITO D.TIi1 D.TIi2 hTI), ⟨_, _, up _ _ D.TOz hTO₅⟩, D1.frame _ _ _ h1₅ fun c hc o e => up c o (fun q => D.n1.1 (q ▸ hc)) e, D2.frame _ _ _ h2₅ fun c hc o e => up c o (fun q => D.n2.1 (q ▸ hc)) e, live hz, live hTO, live ho1, live ho2⟩ ?_
    intro c o hc e
    simp only [List.mem_cons, List.not_mem_nil, or_false, not_or] at hc
    exact up c o hc.1 (hk₅ c o hc.1 hc.2.1 hc.2.2.1 hc.2.2.2 e)
  go := fun elts k pos i T s Q E hm hQ => by
    obtain ⟨hz, hTI, ⟨a, b, hTO⟩, h1, h2, _⟩ := hm
    refine wpAny_letOwnedTupleGo_zip hz fun h' hz' hs' => hQ h' ⟨hz', hs'.extBut _ _ D.TIz hTI, ⟨a, b, hs'.extBut _ _ D.TOz hTO⟩, D1.frame _ _ _ h1 (keepF D.n1.1 hs'), D2.frame _ _ _ h2 (keepF D.n2.1 hs')⟩ fun c o hc e => hs'.extBut _ _ (fun x => hc (by simp [x])) e
  apart := fun i T h hm hT => by
    obtain ⟨_, _, _, _, _, t1, t2, t3, t4⟩ := hm
    simp at hT
    rcases hT with rfl | rfl | rfl | rfl
    · exact t1 rfl
    · exact t2 rfl
    · exact t3 rfl
    · exact t4 rfl
  done := fun s Q E hst hQ => by
    obtain ⟨hz, hTI, ⟨a, b, hTO⟩, h1, h2⟩ := hst
    have hT : s.TypeIs (.ref z) "zip" := ⟨_, hz, rfl⟩
    have i1z : i1 ≠ z := fun e => D.n1.1 (e ▸ D.m1)
    have i2z : i2 ≠ z := fun e => D.n2.1 (e ▸ D.m2)
    have TOi1 : TO ≠ i1 := fun e => D.n1.2.1 (e ▸ D.m1)
    unfold pyNext
    refine wpAny_bind (wpAny_attempt (wpAny_callSpecial?_slot (name := Str.ofString "__next__") hT F.slot_zip_next (wpAny_call_entry F.slot_zip_next hT F.entry_zip_next ?_ (F.args_zip_next_1 _))))
    show wpAny _ _ (field (.ref z) 2 >>= _) _ _ _
    refine wpAny_bind (wpAny_field hz rfl (x := .bool false) rfl ?_)
    show wpAny _ _ (field (.ref z) 3 >>= _) _ _ _
    refine wpAny_bind (wpAny_field hz rfl (x := .ref TI) rfl ?_)
    refine wpAny_bind (wpAny_seqItems hTI rfl ?_)
    show wpAny _ _ (Builtin.SmallTypes.ownedTupleIsFree (.ref z) >>= _) _ _ _
    refine wpAny_bind ?_
    unfold Builtin.SmallTypes.ownedTupleIsFree
    refine wpAny_bind (wpAny_field hz rfl (x := .none) rfl (wpAny_pure ?_))
    simp only [if_true]
    refine wpAny_bind (wpAny_rule ?_)
    refine wpAny_bind (wpAny_field hz rfl (x := .ref TO) rfl ?_)
    refine wpAny_bind (wpAny_setField_rec hz (by simp) fun h₁ hz₁ hs₁ => ?_)
    replace hz₁ : IsZip h₁ z TI TO .ellipsis := hz₁
    refine wpAny_bind ?_
    simp only [List.zipIdx_cons, List.zipIdx_nil, List.forIn_cons, List.forIn_nil]
    refine wpAny_bind (wpAny_bind (wpAny_onRaise ?_))
    show wpAny _ _ (Builtin.SmallTypes.nextOf (.ref i1) >>= _) _ _ _
    by_cases hn : n1 ≤ n2
    · rw [Nat.min_eq_left hn] at h1 h2
      refine wpAny_bind (D1.done _ _ _ (D1.frame _ _ _ h1 (keepF D.n1.1 hs₁)) fun h₂ e hs₂ he => ?_)
      obtain ⟨oe, hoe, hce⟩ := he
      have hz₂ : IsZip h₂ z TI TO .ellipsis := hs₂ _ _ i1z.symm hz₁
      have hez : e ≠ z := fun x => by subst x; rw [hz₂] at hoe; cases hoe; simp at hce
      refine wpAny_setField_rec hz₂ (by simp) fun h₃ _ hs₃ => ?_
      obtain ⟨hoe', hce'⟩ : h₃.get? e = some oe ∧ oe.cls = .type "StopIteration" := ⟨hs₃.extBut _ _ hez hoe, hce⟩
      refine wpAny_bind (wpAny_isInstance (T := "StopIteration") (b := true) ⟨oe, hoe', hce'⟩ isSubtype_stop ?_)
      refine wpAny_pure (hQ _ _ fun c o hc x => ?_)
      simp only [List.mem_cons, List.not_mem_nil, or_false, not_or] at hc
      exact hs₃.extBut _ _ hc.1 (hs₂ _ _ hc.2.2.1 (hs₁.extBut _ _ hc.1 x))
    · rw [Nat.min_eq_right (by omega)] at h1 h2
      refine wpAny_bind (D1.item n2 _ _ _ (by omega) (D1.frame _ _ _ h1 (keepF D.n1.1 hs₁)) fun x h₂ tk₂ px h1₂ hs₂ => wpAny_pure ?_)
      have hTO₂ : IsPair h₂ TO a b := hs₂.extBut _ _ TOi1 (hs₁.extBut _ _ D.TOz hTO)
      refine wpAny_bind (wpAny_seqItems hTO₂ rfl ?_)
      refine wpAny_bind (wpAny_updateSeq_pair hTO₂ fun h₃ hTO₃ hs₃ => ?_)
      refine wpAny_bind (wpAny_letGo (wpAny_pure ?_))
      refine wpAny_bind (wpAny_bind (wpAny_onRaise ?_))
      show wpAny _ _ (Builtin.SmallTypes.nextOf (.ref i2) >>= _) _ _ _
      have h2₃ : S2 n2 h₃ := D2.frame _ _ _ (D2.frame _ _ _ (D2.frame _ _ _ h2 (keepF D.n2.1 hs₁)) (keepF D.n2.2.2 hs₂)) (keepF D.n2.2.1 hs₃)
      refine wpAny_bind (D2.done _ _ _ h2₃ fun h₄ e hs₄ he => ?_)
      obtain ⟨oe, hoe, hce⟩ := he
      have hz₄ : IsZip h₄ z TI TO .ellipsis := hs₄ _ _ i2z.symm (hs₃.extBut _ _ D.TOz.symm (hs₂.extBut _ _ i1z.symm hz₁))
      have hez : e ≠ z := fun x => by subst x; rw [hz₄] at hoe; cases hoe; simp at hce
      refine wpAny_setField_rec hz₄ (by simp) fun h₅ _ hs₅ => ?_
      refine wpAny_bind (wpAny_isInstance (T := "StopIteration") (b := true) ⟨oe, hs₅.extBut _ _ hez hoe, hce⟩ isSubtype_stop ?_)
      refine wpAny_pure (hQ _ _ fun c o hc x => ?_)
      simp only [List.mem_cons, List.not_mem_nil, or_false, not_or] at hc
      exact hs₅.extBut _ _ hc.1 (hs₄ _ _ hc.2.2.2 (hs₃.extBut _ _ hc.2.1 (hs₂.extBut _ _ hc.2.2.1 (hs₁.extBut _ _ hc.1 x))))
  self := fun i s Q E hst hQ => wpAny_pyIter_zip hst.1 hQ
end
end Mine
namespace Mine
def ZipO (TI TO : Addr) (o : Obj) : Prop := o = { cls := .type "zip", dict := none, data := .fields #[.none, .bool false, .bool false, .ref TI, .ref TO], slots := #[] }
def PrO (a b : Value) (o : Obj) : Prop := o = { cls := .type "tuple", data := .seq #[a, b] }
def PrE (o : Obj) : Prop := ∃ a b, PrO a b o
/-- iter(x) makes just this object -/
def Iters (x : Value) (o : Obj) (s : Shared) : Prop := ∀ (prog : Program) (w : World) (A : Around) (E : Value → Shared → Prop) (Q : Value → Shared → Prop), Q (.ref s.heap.objs.size) { s with heap := s.heap.push o } → wpAny (model prog w) A (pyIter x) Q E s
abbrev zH3 (h : Heap) (o1 o2 : Obj) : Heap := ((h.push o1).push o2).push { cls := .type "tuple", data := .seq #[.ref h.objs.size, .ref (h.push o1).objs.size] }
abbrev zH4 (h : Heap) (o1 o2 : Obj) : Heap := (zH3 h o1 o2).push { cls := .type "tuple", data := .seq #[.none, .none] }
abbrev zH5 (h : Heap) (o1 o2 : Obj) : Heap := (zH4 h o1 o2).push { cls := .type "zip", data := .fields #[.none, .bool false, .bool false, .ref ((h.push o1).push o2).objs.size, .ref (zH3 h o1 o2).objs.size] }
theorem meets_zipG (x y : Value) (o1 o2 : Obj) :
    Meets (Builtin.«zip.__new__» ⟨[.type "zip", x, y], []⟩) (fun _ R s => Iters x o1 s ∧ Iters y o2 { s with heap := s.heap.push o1 } ∧ R (.ok (.ret (.ref (zH4 s.heap o1 o2).objs.size))) { s with heap := zH5 s.heap o1 o2 }) :=
  .of_wp fun prog w A R s h => by
    obtain ⟨hp, g, d, tk, os⟩ := s; obtain ⟨hi1, hi2, h⟩ := h
    have hsub := sub_zip
    have k1 : ∀ {A' : Around} {E' : Value → Shared → Prop} {Q' : Value → Shared → Prop}, Q' (.ref hp.objs.size) ⟨hp.push o1, g, d, tk, os⟩ → wpAny (model prog w) A' (pyIter x) Q' E' ⟨hp, g, d, tk, os⟩ := fun h => hi1 prog w _ _ _ h
    have k2 : ∀ {A' : Around} {E' : Value → Shared → Prop} {Q' : Value → Shared → Prop}, Q' (.ref (hp.push o1).objs.size) ⟨(hp.push o1).push o2, g, d, tk, os⟩ → wpAny (model prog w) A' (pyIter y) Q' E' ⟨hp.push o1, g, d, tk, os⟩ := fun h => hi2 prog w _ _ _ h
    wp_walk using k1, k2
    exact ⟨_, rfl, h⟩
section
variable {prog : Program} {w : World} {A : Around} {E : Value → Shared → Prop} {s s₁ : Shared} {L I : Addr} {b : List (Str × Value)} {H : List Ent} {env : Env}
theorem c_zipG {Q : Value → Shared → Prop} {x y : Value} {o1 o2 : Obj} {P1 P2 : Obj → Prop} (S : St s₁ L b H s) (hi1 : Iters x o1 s) (hi2 : Iters y o2 { s with heap := s.heap.push o1 }) (f1 : o1.isFreed = false) (f2 : o2.isFreed = false) (hP1 : P1 o1) (hP2 : P2 o2)
    (h : ∀ s' z TI TO i1 i2, St s₁ L b ((z, ZipO TI TO) :: (TO, PrE) :: (i1, P1) :: (i2, P2) :: (TI, PrO (.ref i1) (.ref i2)) :: H) s' → Q (.ref z) s') : wpAny (model prog w) A (call (.type "zip") [x, y]) Q E s := by
  refine callType_new F.called_zip (by decide) (F.typeCall_zip_2 _ _) (F.newCall_zip_2 _ _) (fun obj => F.args_object_init_3 obj _ _) F.entry_zip_new (meets_zipG x y o1 o2) ⟨hi1, hi2, ?_⟩
  refine ⟨⟨_, Heap.get?_push_size _ rfl, rfl⟩, ?_⟩
  have S1 := S.push (o := o1) (P := P1) hP1 s.toks f1
  have S2 := S1.push (o := o2) (P := P2) hP2 s.toks f2
  have S3 := S2.push (o := { cls := .type "tuple", data := .seq #[.ref s.heap.objs.size, .ref (s.heap.push o1).objs.size] }) (P := PrO _ _) rfl s.toks
  have S4 := S3.push (o := { cls := .type "tuple", data := .seq #[.none, .none] }) (P := PrE) ⟨_, _, rfl⟩ s.toks
  have S5 := S4.push (o := { cls := .type "zip", data := .fields #[.none, .bool false, .bool false, .ref ((s.heap.push o1).push o2).objs.size, .ref (zH3 s.heap o1 o2).objs.size] }) (P := ZipO _ _) rfl s.toks
  refine h _ (zH4 s.heap o1 o2).objs.size ((s.heap.push o1).push o2).objs.size (zH3 s.heap o1 o2).objs.size s.heap.objs.size (s.heap.push o1).objs.size (St.perm S5 ?_)
  refine .cons _ (.cons _ ?_)
  exact (List.perm_middle (l₁ := [(s.heap.objs.size, P1), ((s.heap.push o1).objs.size, P2)]) (l₂ := H)).trans (.cons _ (.swap _ _ _))
/-- the entries of a block are given up -/
theorem St.leave {X : List Ent} {wr : List Addr} (S' : St s₁ L b (X ++ H) s) (hX : X.map (·.1) = wr) {h₁ : Heap} (tk₁ : Nat) (hk₁ : ∀ c o, c ∉ wr → s.heap.get? c = some o → h₁.get? c = some o) : St s₁ L b H { s with heap := h₁, toks := tk₁ } := by
  have hnd := S'.nd
  rw [List.map_append, hX] at hnd
  have hLw : L ∉ wr := fun h => by
    rw [← hX] at h; obtain ⟨p, hp, e⟩ := List.mem_map.mp h; exact (S'.fresh p (List.mem_append_left _ hp)).1 e
  have h1 : ∀ a o, s₁.heap.get? a = some o → a ∉ wr := fun a o e h => by
    rw [← hX] at h; obtain ⟨p, hp, e'⟩ := List.mem_map.mp h
    have := (S'.fresh p (List.mem_append_left _ hp)).2
    rw [e', e] at this; cases this
  have hHw : ∀ p ∈ H, p.1 ∉ wr := fun p hp h => (List.nodup_append.mp hnd).2.2 p.1 h p.1 (List.mem_map.mpr ⟨p, hp, rfl⟩) rfl
  refine ⟨?_, fun a o e => hk₁ _ _ (h1 a o e) (S'.keep a o e), S'.fr, ?_, fun p hp => S'.fresh p (List.mem_append_right _ hp), (List.nodup_append.mp hnd).2.1, ?_⟩
  · obtain ⟨o, ho, h⟩ := S'.ns; exact ⟨o, hk₁ _ _ hLw ho, h⟩
  · intro p hp; obtain ⟨o, ho, h⟩ := S'.nw p (List.mem_append_right _ hp); exact ⟨o, hk₁ _ _ (hHw p hp) ho, h⟩
  · obtain ⟨h, tk', e⟩ := S'.eq; exact ⟨h₁, tk₁, by rw [e]⟩
theorem loop_pairsJ {fp wr : List Addr} {n : Nat} {Pt : Nat → Array Value → Prop} {Stt : Nat → Heap → Prop} {Mid : Nat → Addr → Heap → Prop} {xi xc : Str} {pk pv pt : Pos} {x1 : Nat} {body : List Stmt} {Q : Flow → Shared → Prop} {RE : Value → Shared → Prop}
    (W : WalksU prog w A I fp wr n Pt Stt Mid) (X : Nat → List Ent) (J : Nat → List (Str × Value) → List Ent → Prop) (hXa : ∀ i, (X i).map (·.1) = wr) (hXs : ∀ i b' H' s', J i b' H' → St s₁ L b' (X i ++ H') s' → Stt i s'.heap) (hXr : ∀ i h, Stt i h → ∀ p ∈ X i, ∃ o, h.get? p.1 = some o ∧ p.2 o)
    (hPt : ∀ i vals, Pt i vals → ∃ v0 v1, vals = #[v0, v1])
    (S : St s₁ L b (X 0 ++ H) s) (h0 : J 0 b H) (hh : A.handled = none) (hxi : env.kindOf xi = some .local) (hxc : env.kindOf xc = some .local) (hL : env.locals = L) (hk : env.scope.kind = .function)
    (turn : ∀ i v0 v1 b' H' s', i < n → Pt i #[v0, v1] → J i b' H' → St s₁ L (up xc v1 (up xi v0 b')) (X (i + 1) ++ H') s' → wpAny (model prog w) A (execs body env) (TurnEndX s₁ L (X (i + 1)) (J (i + 1)) Q) (fun _ _ => False) s')
    (done : ∀ b' H' s', J n b' H' → St s₁ L b' H' s' → Q .next s') :
    codeAny (model prog w) A (.forLoop (.Tuple [.Name xi pk, .Name xc pv] x1 pt) (.ref I) body [] env) (fun r s' => match r with | .ok f => Q f s' | .error e => RE e s') s := by
  refine codeAny_forLoop_any (fun k s' => ∃ b' H' i, St s₁ L b' (X i ++ H') s' ∧ J i b' H' ∧ i ≤ n ∧ k = n + 1 - i) ?_ (n + 1) ⟨b, H, 0, S, h0, Nat.zero_le _, rfl⟩
  rintro k s' ⟨b', H', i, S', hJ, hi, rfl⟩
  have hSt := hXs i b' H' s' hJ S'
  by_cases hlt : i < n
  · refine W.item i _ _ _ hlt hSt fun T vals h₁ tk₁ hP hT hMid hk₁ => ?_
    refine W.go _ _ _ i T _ _ _ hMid fun h₂ hSt₂ hk₂ => ?_
    have S₂ : St s₁ L b' (X (i + 1) ++ H') { s' with heap := h₂, toks := tk₁ } := S'.swapX (hXa i) (hXa (i + 1)) tk₁ (fun c o hc e => hk₂ c o hc (hk₁ c o hc e)) (hXr (i + 1) h₂ hSt₂)
    obtain ⟨v0, v1, rfl⟩ := hPt i vals hP
    have hT₂ : h₂.IsTuple T #[v0, v1] := let ⟨o, ho, r⟩ := hT; ⟨o, hk₂ _ _ (W.apart i T h₁ hMid) ho, r⟩
    refine assign_Tuple_tuple (s := { s' with heap := h₂, toks := tk₁ }) hh hT₂ (by rfl) (by rfl) fun h₃ hx₃ => ?_
    have S₃ := S₂.ext tk₁ fun c o e => hx₃ c o (Nat.ne_of_lt (Heap.lt_size e)) e
    show wpAny _ _ (assignInOrder [assign (.Name xi pk) env, assign (.Name xc pv) env] [v0, v1]) _ _ _
    unfold assignInOrder
    refine wpAny_bind (wpAny_holding ?_)
    refine wpAny_assign_Name (st_L S₃ hxi (fun s₄ S₄ => ?_) hL hk)
    unfold assignInOrder
    refine wpAny_bind (wpAny_holding ?_)
    refine wpAny_assign_Name (st_L S₄ hxc (fun s₅ S₅ => ?_) hL hk)
    unfold assignInOrder
    refine wpAny_pure ?_
    refine wpAny_mono (turn i v0 v1 b' H' s₅ hlt hP hJ S₅) (fun f s₆ h₆ => ?_) fun _ _ e => e.elim
    cases f with
    | next => obtain ⟨b'', H'', S₆, hJ₆⟩ := h₆; exact ⟨n + 1 - (i + 1), by omega, b'', H'', i + 1, S₆, hJ₆, hlt, rfl⟩
    | cont => obtain ⟨b'', H'', S₆, hJ₆⟩ := h₆; exact ⟨n + 1 - (i + 1), by omega, b'', H'', i + 1, S₆, hJ₆, hlt, rfl⟩
    | brk => exact h₆
    | ret v => exact h₆
  · have hin : i = n := by omega
    subst hin
    refine W.done _ _ _ hSt fun h₁ tk₁ hk₁ => wpAny_execs_nil (done b' H' _ hJ ?_)
    exact S'.leave (hXa i) tk₁ hk₁
theorem for_zipG {z TI TO i1 i2 : Addr} {f1 f2 : List Addr} {n1 n2 : Nat} {V1 V2 : Nat → Value → Prop} {S1 S2 : Nat → Heap → Prop} {Q1 Q2 : Nat → Obj → Prop} {xi xc : Str} {pk pv pt : Pos} {x1 : Nat} {body : List Stmt} {Q : Flow → Shared → Prop}
    (J : Nat → List (Str × Value) → List Ent → Prop) (S : St s₁ L b ((z, ZipO TI TO) :: (TO, PrE) :: (i1, Q1 0) :: (i2, Q2 0) :: H) s) (h0 : J 0 b H)
    (D1 : Draws prog w A.in1 i1 f1 n1 V1 S1) (D2 : Draws prog w A.in1 i2 f2 n2 V2 S2) (D : Apart z TI TO i1 i2 f1 f2)
    (hT : ∀ i b H, J i b H → (TI, PrO (.ref i1) (.ref i2)) ∈ H)
    (r1 : ∀ i b' H' X s', J i b' H' → (i1, Q1 i) ∈ X → St s₁ L b' (X ++ H') s' → S1 i s'.heap) (r2 : ∀ i b' H' X s', J i b' H' → (i2, Q2 i) ∈ X → St s₁ L b' (X ++ H') s' → S2 i s'.heap)
    (g1 : ∀ i h, S1 i h → ∃ o, h.get? i1 = some o ∧ Q1 i o) (g2 : ∀ i h, S2 i h → ∃ o, h.get? i2 = some o ∧ Q2 i o)
    (hh : A.handled = none) (hxi : env.kindOf xi = some .local) (hxc : env.kindOf xc = some .local) (hL : env.locals = L) (hk : env.scope.kind = .function)
    (turn : ∀ i v0 v1 X b' H' s', i < min n1 n2 → V1 i v0 → V2 i v1 → J i b' H' → St s₁ L (up xc v1 (up xi v0 b')) (X ++ H') s' → wpAny (model prog w) A (execs body env) (TurnEndX s₁ L X (J (i + 1)) Q) (fun _ _ => False) s')
    (done : ∀ b' H' s', J (min n1 n2) b' H' → St s₁ L b' H' s' → Q .next s') : ForAt prog w A (.Tuple [.Name xi pk, .Name xc pv] x1 pt) body env Q E (.ref z) s := by
  have W := (WalksT.zipD hh D1 D2 D).toU
  obtain ⟨o, ho, rfl⟩ := S.get (List.mem_cons_self ..)
  refine wpAny_pyIter_zip ho ?_
  refine loop_pairsJ W (fun i => [(z, ZipO TI TO), (TO, PrE), (i1, Q1 i), (i2, Q2 i)]) J (fun i => rfl) (fun i b' H' s' hJ S' => ?_) (fun i h st p hp => ?_) (fun i vals hP => ?_) S h0 hh hxi hxc hL hk (fun i v0 v1 b' H' s' hi hP hJ S' => ?_) done
  · obtain ⟨oz, hz, rfl⟩ := S'.get (a := z) (P := ZipO TI TO) (by simp)
    obtain ⟨oT, hTo, a, c, rfl⟩ := S'.get (a := TO) (P := PrE) (by simp)
    obtain ⟨oI, hI, rfl⟩ := S'.get (a := TI) (P := PrO (.ref i1) (.ref i2)) (List.mem_append_right _ (hT i b' H' hJ))
    exact ⟨hz, hI, ⟨a, c, hTo⟩, r1 i b' H' _ s' hJ (by simp) S', r2 i b' H' _ s' hJ (by simp) S'⟩
  · obtain ⟨hz, _, ⟨a, c, hTo⟩, s1, s2⟩ := st
    simp only [List.mem_cons, List.not_mem_nil, or_false] at hp
    rcases hp with rfl | rfl | rfl | rfl
    · exact ⟨_, hz, rfl⟩
    · exact ⟨_, hTo, a, c, rfl⟩
    · exact g1 i h s1
    · exact g2 i h s2
  · obtain ⟨x, y, _, _, rfl⟩ := hP; exact ⟨_, _, rfl⟩
  · obtain ⟨x, y, p1, p2, e⟩ := hP
    have e0 : v0 = x ∧ v1 = y := by
      have := congrArg Array.toList e
      simpa using this
    obtain ⟨rfl, rfl⟩ := e0
    exact turn i v0 v1 _ b' H' s' hi p1 p2 hJ S'
theorem apart2 {z TI TO i1 i2 a c : Addr} {K : List Addr} (nd : (z :: TO :: i1 :: i2 :: TI :: K).Nodup) (ha : a ∈ K) (hc : c ∈ K) : Apart z TI TO i1 i2 [i1, a] [i2, c] := by
  simp only [List.nodup_cons, List.mem_cons, not_or] at nd
  obtain ⟨⟨z1, z2, z3, z4, z5⟩, ⟨o1, o2, o3, o4⟩, ⟨a1, a2, a3⟩, ⟨b1, b2⟩, ⟨t1, _⟩⟩ := nd
  have na : ∀ {x}, x ∉ K → x ≠ a := fun h e => h (e ▸ ha)
  have nc : ∀ {x}, x ∉ K → x ≠ c := fun h e => h (e ▸ hc)
  refine ⟨Ne.symm z4, Ne.symm z1, Ne.symm o3, Ne.symm a2, Ne.symm b1, by simp, by simp, ?_, ?_⟩
  · simp only [List.mem_cons, List.not_mem_nil, or_false, not_or]
    exact ⟨⟨z2, na z5⟩, ⟨o1, na o4⟩, ⟨Ne.symm a1, na b2⟩⟩
  · simp only [List.mem_cons, List.not_mem_nil, or_false, not_or]
    exact ⟨⟨z3, nc z5⟩, ⟨o2, nc o4⟩, ⟨a1, nc a3⟩⟩
end
end Mine
open PyProof.Rows.TI (gone gone_some gone_none gone_get)
namespace Mine
section
variable {prog : Program} {w : World} {A : Around} {E : Value → Shared → Prop} {s s₁ : Shared} {L t m TA J : Addr} {b : List (Str × Value)} {H : List Ent} {Q : Value → Shared → Prop}
end
/-! ### an exception that comes out of a call -/
section
variable {prog : Program} {w : World} {A : Around} {E : Value → Shared → Prop} {s s₁ : Shared} {L f : Addr} {b : List (Str × Value)} {H : List Ent} {env : Env} {fd : FuncData} {body : List Stmt}
theorem tr_noteE {l : List Env} {e : Addr} {X : String} {h' : Heap} {tk : Nat} {Q : Unit → Shared → Prop} (S : St s₁ L b H s) (hx : Heap.NewExc s.heap h' e X) (hfr : A.frames = some (env :: l)) (hF : FrsIn L H (env :: l)) (hf : env.frame = some L)
    (k : ∀ base a0 s', base.get? e = none → Hld s₁ L b H (env :: l) base e X a0 (rawInt L) s' → Q () s') : wpAny (model prog w) A (noteFrame (.ref e) env) Q E { s with heap := h', toks := tk } := by
  obtain ⟨ob, tp, he, hcls, hd⟩ := hx.there
  have S' : St s₁ L b H { s with heap := h', toks := tk } := S.ext tk hx.keeps
  let fs := (env :: l).filterMap (·.frame)
  have hfs : ∀ env' ∈ env :: l, ∀ F, env'.frame = some F → F ∈ fs := fun env' he' F hF' => List.mem_filterMap.mpr ⟨env', he', hF'⟩
  have hinv : ∀ F ∈ fs, F = L ∨ ∃ b, (F, Frm b) ∈ H := fun F hm => by
    obtain ⟨env', he', e'⟩ := List.mem_filterMap.mp hm
    obtain ⟨_, F', e2, hm'⟩ := hF env' he'
    rw [e2] at e'; cases e'; exact hm'
  have hL : ∀ F ∈ fs, s₁.heap.get? F = none := fun F hm => by
    rcases hinv F hm with rfl | ⟨b', hm'⟩
    · exact S.fr
    · exact (S.fresh _ hm').2
  have hst : (gone s.heap fs).StaysIn h' := fun a o ha => hx.keeps a o (gone_some ha).2
  have hen : (gone s.heap fs).get? e = none := by
    cases hq : (gone s.heap fs).get? e with
    | none => rfl
    | some o => have := (gone_some hq).2; rw [hx.new] at this; cases this
  have hFF : h'.FunFrames (gone s.heap fs) (env :: l) := S'.funFrames hF fun env' he' F e' => gone_none (hfs env' he' F e')
  unfold noteFrame
  simp only [hf]
  refine wpAny_bind (wpAny_field he hd (x := .none) rfl ?_)
  rw [if_neg (show ¬ ((Value.none != Value.none) = true) by decide)]
  refine wpAny_entryW (base := gone s.heap fs) hfr hFF hf he hst hen hd (by simp) (a0 := tp) rfl fun h2 hN => ?_
  obtain ⟨k1, k2, k3, k4⟩ := hN
  rw [hcls] at k3
  have H0 : Hld s₁ L b H (env :: l) (gone s.heap fs) e X tp (rawInt L) { s with heap := h2, toks := tk } := by
    have fr : ∀ (a : Addr) (b' : List (Str × Value)), (∃ o, s.heap.get? a = some o ∧ Frm b' o) → ∃ o, h2.get? a = some o ∧ Frm b' o := by
      rintro a b' ⟨o, ho, es, ep, hd, r⟩
      obtain ⟨sl, h3⟩ := k4 a o (hx.keeps _ _ ho) (fun vs q => by rw [hd] at q; cases q)
      exact ⟨_, h3, es, ep, hd, r⟩
    have nw : ∀ p ∈ H, (∃ o, (gone s.heap fs).get? p.1 = some o ∧ p.2 o) ∨ ∃ b', p.2 = Frm b' := fun p hp => by
      by_cases hm : p.1 ∈ fs
      · rcases hinv _ hm with q | ⟨b', hm'⟩
        · exact absurd q (S.fresh p hp).1
        · have := mem_fst_unique S.nd hp hm' rfl
          exact Or.inr ⟨b', by rw [this]⟩
      · obtain ⟨o, ho, h⟩ := S.nw p hp
        exact Or.inl ⟨o, (gone_get hm).trans ho, h⟩
    have kb : ∀ a o, s₁.heap.get? a = some o → (gone s.heap fs).get? a = some o := fun a o ha => (gone_get fun hm => by rw [hL a hm] at ha; cases ha).trans (S.keep a o ha)
    refine ⟨⟨fr _ _ S.ns, fun a o ha => k1 a o (kb a o ha), S.fr, fun p hp => ?_, S.fresh, S.nd, ?_⟩, nw, kb, k1, k2, k3⟩
    · rcases nw p hp with ⟨o, ho, hP⟩ | ⟨b', hb⟩
      · exact ⟨o, k1 _ _ ho, hP⟩
      · have := S.nw p hp
        rw [hb] at this ⊢
        exact fr _ _ this
    · obtain ⟨_, _, e⟩ := S.eq
      exact ⟨h2, tk, by rw [e]⟩
  exact k _ _ _ hen H0


theorem Hld.back {L' : Addr} {b' : List (Str × Value)} {X0 : List Ent} {env' : Env} {l : List Env} {base : Heap} {e : Addr} {X : String} {a0 : Value} (h : Hld s₁ L' b' (X0 ++ (L, Frm b) :: H) (env' :: l) base e X a0 .none s) : Hld s₁ L b H l base e X a0 .none s := by
  refine ⟨(h.S.perm (H' := (L, Frm b) :: (X0 ++ H)) List.perm_middle.symm).back.sub (List.sublist_append_right _ _), fun p hp => h.nw p (by simp [hp]), h.kb, h.st, h.ff.2.2, h.tr⟩
/-- an exception is under way, out of a call -/
def RaisF (s₁ : Shared) (L : Addr) (X : String) (l : List Env) (J : List (Str × Value) → List Ent → Prop) (ev : Value) (s' : Shared) : Prop :=
  ∃ b H base a0 e, ev = .ref e ∧ base.get? e = none ∧ Hld s₁ L b H l base e X a0 .none s' ∧ J b H
/-- a call's frame is left by an exception -/
theorem leave_raise {L' : Addr} {b' : List (Str × Value)} {X0 : List Ent} {l : List Env} {X : String} {J : List (Str × Value) → List Ent → Prop} {A' : Around} {s0 : Shared} {h' : Heap} {tk : Nat} {e : Addr} {E' : Value → Shared → Prop}
    (S : St s₁ L' b' (X0 ++ (L, Frm b) :: H) s0) (hx : Heap.NewExc s0.heap h' e X) (hfr : A'.frames = some (env :: l)) (hF : FrsIn L' (X0 ++ (L, Frm b) :: H) (env :: l)) (hf : env.frame = some L') (hJ : J b H) :
    wpAny (model prog w) A' (leaving env (.ref e)) (fun _ s'' => RaisF s₁ L X l J (.ref e) s'') E' { s0 with heap := h', toks := tk } := by
  unfold leaving
  refine wpAny_bind (tr_noteE S hx hfr hF hf fun base a0 s2 hen K2 => ?_)
  refine K2.flight fun s3 K3 => ?_
  exact ⟨b, H, base, a0, e, rfl, hen, K3.back, hJ⟩
theorem ex_tryF {body suite : List Stmt} {b₀ : Stmt} {t : Expr} {pos hpos : Pos} {X T : String} {l : List Env} {Q : Flow → Shared → Prop} (J : List (Str × Value) → List Ent → Prop)
    (hfr : A.frames = some (env :: l)) (hf : env.frame = some L)
    (hexc : isSubtype (.type T) (.type "BaseException") = pure true) (hnt : isSubtype (.type ((Manifest.find? T).elim "type" fun x => x.metatype)) (.type "tuple") = pure false) (hsub : isSubtype (.type X) (.type T) = pure true)
    (hbody : wpAny (model prog w) A (execs body env) Q (RaisF s₁ L X (env :: l) J) s)
    (hname : ∀ b H s' e E' (Q' : Value → Shared → Prop), St s₁ L b H s' → J b H → Q' (.type T) s' → wpAny (model prog w) (A.mark (some e)) (eval t env) Q' E' s')
    (hsuite : ∀ b H s' e, St s₁ L b H s' → J b H → wpAny (model prog w) (A.mark (some e)) (execs (b₀ :: suite) env) Q (fun _ _ => False) s') :
    wpAny (model prog w) A (exec (.Try body [.ExceptHandler (some t) none (b₀ :: suite) hpos] [] [] pos) env) Q E s := by
  refine wpAny_Try_except (wpAny_mono hbody (fun f s' hq => ?_) fun ev s' hr => ?_)
  · cases f with
    | next => exact wpAny_execs_nil hq
    | _ => exact hq
  · obtain ⟨b', H', base, a0, e, rfl, hen, K0, hJ⟩ := hr
    refine wpAny_noteFrame_onW hfr K0.ff hf K0.tr K0.st hen fun h' hN => ?_
    obtain ⟨k1, k2, k3, k4⟩ := hN
    have K₂ := K0.next s'.toks k1 k2 k3 k4
    refine K₂.flight fun s₃ K₃ => ?_
    refine wpAny_handleBy_builtin (X := X) (T := T) (b := true) hexc hnt hsub ?_
    refine hname b' H' s₃ _ _ _ K₃.S hJ ⟨rfl, K₃.tr.there, ?_⟩
    simp only [if_true]
    refine K₃.flight fun s₄ K₄ => ?_
    exact wpAny_mono (hsuite b' H' s₄ _ K₄.S hJ) (fun _ _ q => q) fun _ _ q => q.elim
end
end Mine
namespace Mine
section
variable {prog : Program} {w : World} {A : Around} {E : Value → Shared → Prop} {s s₁ : Shared} {L f : Addr} {b : List (Str × Value)} {H : List Ent} {env : Env} {fd : FuncData} {body : List Stmt}
/-- what a raising callee leaves -/
def InCal (L : Addr) (b : List (Str × Value)) (J : List (Str × Value) → List Ent → Prop) (_ : List (Str × Value)) (H'' : List Ent) : Prop := ∃ X0 H1, H'' = X0 ++ (L, Frm b) :: H1 ∧ J b H1
theorem leave_call {L' : Addr} {l : List Env} {X : String} {J : List (Str × Value) → List Ent → Prop} {ev : Value} {s' : Shared} {E' : Value → Shared → Prop} {env' : Env} (hfr : A.frames = some l) (hF : ∀ H1, J b H1 → FrsIn L H1 l) (hf : env'.frame = some L') (hk : env'.scope.kind = .function)
    (hr : Rais s₁ L' X (InCal L b J) ev s') : wpAny (model prog w) (A.deeper env') (leaving env' ev) (fun _ s'' => RaisF s₁ L X l J ev s'') E' s' := by
  obtain ⟨b'', H'', s0, h', tk, e, rfl, rfl, S, hx, X0, H1, rfl, hJ⟩ := hr
  refine leave_raise S hx (Around.frames_deeper hfr) ?_ hf hJ
  intro env0 h0
  rcases List.mem_cons.mp h0 with rfl | h0
  · exact ⟨by rw [hk]; decide, L', hf, Or.inl rfl⟩
  · obtain ⟨q1, F, q2, q3⟩ := hF H1 hJ env0 h0
    refine ⟨q1, F, q2, Or.inr ?_⟩
    rcases q3 with rfl | ⟨b0, q3⟩
    · exact ⟨b, by simp⟩
    · exact ⟨b0, by simp [q3]⟩
theorem call_fnE {K : Frag} {oc : Value} {od : Option Addr} {osl : Array (Option Value)} {args : List Value} {binds b' : List (Str × Value)} {l : List Env} {X : String} {Q : Value → Shared → Prop} (J : List (Str × Value) → List Ent → Prop)
    (hfr : A.frames = some l) (hF : ∀ H1, J b H1 → FrsIn L H1 l)
    (S : St s₁ L b H s) (XK : K.In s₁.heap) (hlim : s₁.heap.NoLimit) (ho : K.lookup f = some ⟨oc, od, .func fd, osl⟩) (hcd : codeIn K fd.code fd.qualname = true) (hroom : A.depth < recursionLimit)
    (hbody : fd.body = .stmts body) (hbind : BindsTo s fd ⟨args, []⟩ binds) (hcell : ∀ x ∈ fd.scope.names, x.2 ≠ .cell) (hloc : ∀ x ∈ binds, fd.scope.names.lookup x.1 = some .local) (hb : b' = binds.reverse)
    (h : ∀ s' L', St s₁ L' b' ((L, Frm b) :: H) s' →
      wpAny (model prog w) (A.deeper (callEnv fd L' f)) (execs body (callEnv fd L' f)) (fun fl s'' => Q (match fl with | .ret v => v | _ => .none) s'') (Rais s₁ L' X (InCal L b J)) s')
    (hco : fd.scope.isCoroutine = false) (hgen : fd.scope.isGenerator = false) (hk : fd.scope.kind = .function) : wpAny (model prog w) A (call (.ref f) args) Q (RaisF s₁ L X l J) s := by
  have X' := XK.keeps S.keep
  refine wpAny_call (codeAny_call_def hroom (X' _ _ ho) rfl (hlim.keeps S.keep) (codeRec_of X' hcd) hbody hbind hcell hloc (fun h₀ hns hk₀ => ?_) hco hgen hk)
  refine wpAny_mono (h _ _ (S.enter (b' := b') (s.toks + binds.length) hns hk₀ fun x v e => ?_)) (fun _ _ q => q) (fun ev s5 hr => ?_)
  · subst hb
    rw [← e]
    clear h hns hk₀ hloc hbind e
    induction binds.reverse with
    | nil => rfl
    | cons p r ih =>
      obtain ⟨n, u⟩ := p
      simp only [List.lookup_cons, lk, ih]
      by_cases hx : n = x
      · subst hx; simp
      · have : (x == n) = false := by simp [Ne.symm hx]
        simp [this, hx]
  · exact leave_call hfr hF rfl hk hr
end
end Mine
open PySem.AutoSeq1 (wpAny_loadPart')
open PySem.SeqAt PySem.MeetsSeq PySem.MeetsSeq2 PySem.MeetsSeq3 PySem.SeqRoads2
namespace Mine
/-! ### lists, ordered -/
def OrdAt (op : CmpOp) (A : Around) (s : Shared) (x y : Value) (b : Bool) : Prop := ∀ (prog : Program) (w : World) (E : Value → Shared → Prop) (Q : Value → Shared → Prop), Q (.bool b) s → wpAny (model prog w) A (richCompare op x y) Q E s
/-- the first place at which two lists are unlike decides -/
def lexR (e o : Value → Value → Bool) (b0 : Bool) : List Value → List Value → Bool
  | x :: xs, y :: ys => if e x y then lexR e o b0 xs ys else o x y
  | _, _ => b0
theorem lt_loop (l b : Addr) (items items2 : Array Value) (n n2 : Nat) (dd dd2 : Option Addr) (sl sl2 : Array (Option Value)) (e o : Value → Value → Bool) (k : Nat) :
    ∀ i : Nat, items.size - i = k → Meets (Builtin.«list.__eq__.loop» ⟨[.ref l, .ref b, rawInt i, rawInt 0], []⟩)
      (fun A R s => s.heap.get? l = some { cls := .type "list", dict := dd, data := .seq items n, slots := sl } ∧ s.heap.get? b = some { cls := .type "list", dict := dd2, data := .seq items2 n2, slots := sl2 } ∧
        (∀ j (h1 : j < items.size) (h2 : j < items2.size), EqAt A.in1 s items[j] items2[j] (e items[j] items2[j])) ∧
        (∀ j (h1 : j < items.size) (h2 : j < items2.size), e items[j] items2[j] = false → OrdAt .Lt A.in1 s items[j] items2[j] (o items[j] items2[j])) ∧
        R (.ok (.ret (.bool (lexR e o (decide (items.size < items2.size)) (items.toList.drop i) (items2.toList.drop i))))) s) := by
  have done : ∀ i : Nat, (items.size ≤ i ∨ items2.size ≤ i) → Meets (Builtin.«list.__eq__.loop» ⟨[.ref l, .ref b, rawInt i, rawInt 0], []⟩)
      (fun A R s => s.heap.get? l = some { cls := .type "list", dict := dd, data := .seq items n, slots := sl } ∧ s.heap.get? b = some { cls := .type "list", dict := dd2, data := .seq items2 n2, slots := sl2 } ∧
        (∀ j (h1 : j < items.size) (h2 : j < items2.size), EqAt A.in1 s items[j] items2[j] (e items[j] items2[j])) ∧
        (∀ j (h1 : j < items.size) (h2 : j < items2.size), e items[j] items2[j] = false → OrdAt .Lt A.in1 s items[j] items2[j] (o items[j] items2[j])) ∧
        R (.ok (.ret (.bool (lexR e o (decide (items.size < items2.size)) (items.toList.drop i) (items2.toList.drop i))))) s) := by
    intro i hi prog w A R s h
    obtain ⟨hp, g, d, tk, os⟩ := s; obtain ⟨hl, hb, he, ho, h⟩ := h
    wp_walk using wpAny_loadPart' hl, wpAny_loadPart' hb
    have hx : lexR e o (decide (items.size < items2.size)) (items.toList.drop i) (items2.toList.drop i) = decide (items.size < items2.size) := by
      rcases hi with hi | hi
      · rw [List.drop_eq_nil_of_le (as := items.toList) (by simpa using hi)]; rfl
      · rw [List.drop_eq_nil_of_le (as := items2.toList) (by simpa using hi)]; cases items.toList.drop i <;> rfl
    rw [hx] at h
    have hm : items[((i : Nat) : Int).toNat]? = none ∨ items2[((i : Nat) : Int).toNat]? = none := by
      rcases hi with hi | hi
      · exact Or.inl (by simp; omega)
      · exact Or.inr (by simp; omega)
    cases q1 : items[((i : Nat) : Int).toNat]? with
    | none =>
      cases q2 : items2[((i : Nat) : Int).toNat]? with
      | none => wp_walk using wpAny_loadPart' hl, wpAny_loadPart' hb; exact h
      | some y => wp_walk using wpAny_loadPart' hl, wpAny_loadPart' hb; exact h
    | some x =>
      cases q2 : items2[((i : Nat) : Int).toNat]? with
      | none => wp_walk using wpAny_loadPart' hl, wpAny_loadPart' hb; exact h
      | some y => rw [q1, q2] at hm; simp at hm
  induction k with
  | zero => exact fun i hk => done i (Or.inl (by omega))
  | succ k ih =>
    intro i hk
    by_cases h2 : items2.size ≤ i
    · exact done i (Or.inr h2)
    intro prog w A R s h
    obtain ⟨hp, g, d, tk, os⟩ := s; obtain ⟨hl, hb, he, ho, h⟩ := h
    wp_walk using wpAny_loadPart' hl, wpAny_loadPart' hb
    have hlt : i < items.size := by omega
    have hlt2 : i < items2.size := by omega
    have hi1 : items[((i : Nat) : Int).toNat]? = some items[i] := by simp [hlt]
    have hi2 : items2[((i : Nat) : Int).toNat]? = some items2[i] := by simp [hlt2]
    have hd1 : items.toList.drop i = items[i] :: items.toList.drop (i + 1) := by simp [List.drop_eq_getElem_cons, hlt]
    have hd2 : items2.toList.drop i = items2[i] :: items2.toList.drop (i + 1) := by simp [List.drop_eq_getElem_cons, hlt2]
    have hc : ((i : Int) + 1) = ((i + 1 : Nat) : Int) := by push_cast; rfl
    rw [hd1, hd2, lexR] at h
    rw [hi1, hi2]
    refine wpAny_bind (he i hlt hlt2 prog w _ _ ?_)
    cases hb' : e items[i] items2[i] with
    | true =>
      rw [hb'] at h
      wp_walk
      rw [hc]
      exact ⟨plainId_quiet plain_eq_loop _, codeAny_builtin entry_eq_loop (by
        rw [Around.under_plainId plain_eq_loop _]
        exact ih (i + 1) (by omega) prog w A R _ ⟨hl, hb, he, ho, by simpa using h⟩)⟩
    | false =>
      rw [hb'] at h
      wp_walk using wpAny_loadPart' hl, wpAny_loadPart' hb
      rw [hi1, hi2]
      refine wpAny_bind (ho i hlt hlt2 hb' prog w _ _ ?_)
      wp_walk
      simpa using h
theorem list_lt (l b : Addr) (items items2 : Array Value) (n n2 : Nat) (dd dd2 : Option Addr) (sl sl2 : Array (Option Value)) (e o : Value → Value → Bool) :
    Meets (Builtin.«list.__lt__» ⟨[.ref l, .ref b], []⟩)
      (fun A R s => s.heap.get? l = some { cls := .type "list", dict := dd, data := .seq items n, slots := sl } ∧ s.heap.get? b = some { cls := .type "list", dict := dd2, data := .seq items2 n2, slots := sl2 } ∧
        (∀ j (h1 : j < items.size) (h2 : j < items2.size), EqAt A.in1 s items[j] items2[j] (e items[j] items2[j])) ∧
        (∀ j (h1 : j < items.size) (h2 : j < items2.size), e items[j] items2[j] = false → OrdAt .Lt A.in1 s items[j] items2[j] (o items[j] items2[j])) ∧
        R (.ok (.ret (.bool (lexR e o (decide (items.size < items2.size)) items.toList items2.toList)))) s) := by
  intro prog w A R s h
  obtain ⟨hp, g, d, tk, os⟩ := s; obtain ⟨hl, hb, he, ho, h⟩ := h
  have f3 := AutoSeq1.sub_list_list
  wp_walk using wpAny_loadPart' hl, wpAny_loadPart' hb
  exact ⟨plainId_quiet plain_eq_loop _, codeAny_builtin entry_eq_loop (by
    rw [Around.under_plainId plain_eq_loop _]
    exact lt_loop l b items items2 n n2 dd dd2 sl sl2 e o _ 0 rfl prog w A R _ ⟨hl, hb, he, ho, by simpa using h⟩)⟩
theorem OrdAt.lists_lt {A : Around} {s : Shared} {l b : Addr} {vs us : List Value} {e o : Value → Value → Bool} (hl : s.heap.IsList l vs.toArray) (hb : s.heap.IsList b us.toArray) (hu : A.units < cLine)
    (he : ∀ x ∈ vs, ∀ y ∈ us, EqAt A.in1 s x y (e x y)) (ho : ∀ x ∈ vs, ∀ y ∈ us, e x y = false → OrdAt .Lt A.in1 s x y (o x y)) : OrdAt .Lt A s (.ref l) (.ref b) (lexR e o (decide (vs.length < us.length)) vs us) := fun prog w E Q h => by
  obtain ⟨⟨cls, dd, data, sl⟩, ho1, hc, n, hd⟩ := id hl
  obtain ⟨⟨cls2, dd2, data2, sl2⟩, ho2, hc2, n2, hd2⟩ := id hb
  simp only at hc hd hc2 hd2
  subst hc hd hc2 hd2
  exact richCompare_meets_room (op := .Lt) ⟨_, ho1, rfl⟩ ⟨_, ho2, rfl⟩ F.slot_list_lt F.entry_list_lt (F.args_list_lt_2 _ _) (list_lt l b vs.toArray us.toArray n n2 dd dd2 sl sl2 e o)
    ⟨ho1, ho2, fun j h1 h2 => he _ (by simp at h1; simpa using List.getElem_mem h1) _ (by simp at h2; simpa using List.getElem_mem h2), fun j h1 h2 hf => ho _ (by simp at h1; simpa using List.getElem_mem h1) _ (by simp at h2; simpa using List.getElem_mem h2) hf, show Value.bool _ ≠ Value.notImplemented ∧ Q (.bool _) s from ⟨(fun x => nomatch x), by simpa using h⟩⟩ hu
theorem gt_loop (l b : Addr) (items items2 : Array Value) (n n2 : Nat) (dd dd2 : Option Addr) (sl sl2 : Array (Option Value)) (e o : Value → Value → Bool) (k : Nat) :
    ∀ i : Nat, items.size - i = k → Meets (Builtin.«list.__eq__.loop» ⟨[.ref l, .ref b, rawInt i, rawInt 4], []⟩)
      (fun A R s => s.heap.get? l = some { cls := .type "list", dict := dd, data := .seq items n, slots := sl } ∧ s.heap.get? b = some { cls := .type "list", dict := dd2, data := .seq items2 n2, slots := sl2 } ∧
        (∀ j (h1 : j < items.size) (h2 : j < items2.size), EqAt A.in1 s items[j] items2[j] (e items[j] items2[j])) ∧
        (∀ j (h1 : j < items.size) (h2 : j < items2.size), e items[j] items2[j] = false → OrdAt .Gt A.in1 s items[j] items2[j] (o items[j] items2[j])) ∧
        R (.ok (.ret (.bool (lexR e o (decide (items2.size < items.size)) (items.toList.drop i) (items2.toList.drop i))))) s) := by
  have done : ∀ i : Nat, (items.size ≤ i ∨ items2.size ≤ i) → Meets (Builtin.«list.__eq__.loop» ⟨[.ref l, .ref b, rawInt i, rawInt 4], []⟩)
      (fun A R s => s.heap.get? l = some { cls := .type "list", dict := dd, data := .seq items n, slots := sl } ∧ s.heap.get? b = some { cls := .type "list", dict := dd2, data := .seq items2 n2, slots := sl2 } ∧
        (∀ j (h1 : j < items.size) (h2 : j < items2.size), EqAt A.in1 s items[j] items2[j] (e items[j] items2[j])) ∧
        (∀ j (h1 : j < items.size) (h2 : j < items2.size), e items[j] items2[j] = false → OrdAt .Gt A.in1 s items[j] items2[j] (o items[j] items2[j])) ∧
        R (.ok (.ret (.bool (lexR e o (decide (items2.size < items.size)) (items.toList.drop i) (items2.toList.drop i))))) s) := by
    intro i hi prog w A R s h
    obtain ⟨hp, g, d, tk, os⟩ := s; obtain ⟨hl, hb, he, ho, h⟩ := h
    wp_walk using wpAny_loadPart' hl, wpAny_loadPart' hb
    have hx : lexR e o (decide (items2.size < items.size)) (items.toList.drop i) (items2.toList.drop i) = decide (items2.size < items.size) := by
      rcases hi with hi | hi
      · rw [List.drop_eq_nil_of_le (as := items.toList) (by simpa using hi)]; rfl
      · rw [List.drop_eq_nil_of_le (as := items2.toList) (by simpa using hi)]; cases items.toList.drop i <;> rfl
    rw [hx] at h
    have hm : items[((i : Nat) : Int).toNat]? = none ∨ items2[((i : Nat) : Int).toNat]? = none := by
      rcases hi with hi | hi
      · exact Or.inl (by simp; omega)
      · exact Or.inr (by simp; omega)
    cases q1 : items[((i : Nat) : Int).toNat]? with
    | none =>
      cases q2 : items2[((i : Nat) : Int).toNat]? with
      | none => wp_walk using wpAny_loadPart' hl, wpAny_loadPart' hb; exact h
      | some y => wp_walk using wpAny_loadPart' hl, wpAny_loadPart' hb; exact h
    | some x =>
      cases q2 : items2[((i : Nat) : Int).toNat]? with
      | none => wp_walk using wpAny_loadPart' hl, wpAny_loadPart' hb; exact h
      | some y => rw [q1, q2] at hm; simp at hm
  induction k with
  | zero => exact fun i hk => done i (Or.inl (by omega))
  | succ k ih =>
    intro i hk
    by_cases h2 : items2.size ≤ i
    · exact done i (Or.inr h2)
    intro prog w A R s h
    obtain ⟨hp, g, d, tk, os⟩ := s; obtain ⟨hl, hb, he, ho, h⟩ := h
    wp_walk using wpAny_loadPart' hl, wpAny_loadPart' hb
    have hlt : i < items.size := by omega
    have hlt2 : i < items2.size := by omega
    have hi1 : items[((i : Nat) : Int).toNat]? = some items[i] := by simp [hlt]
    have hi2 : items2[((i : Nat) : Int).toNat]? = some items2[i] := by simp [hlt2]
    have hd1 : items.toList.drop i = items[i] :: items.toList.drop (i + 1) := by simp [List.drop_eq_getElem_cons, hlt]
    have hd2 : items2.toList.drop i = items2[i] :: items2.toList.drop (i + 1) := by simp [List.drop_eq_getElem_cons, hlt2]
    have hc : ((i : Int) + 1) = ((i + 1 : Nat) : Int) := by push_cast; rfl
    rw [hd1, hd2, lexR] at h
    rw [hi1, hi2]
    refine wpAny_bind (he i hlt hlt2 prog w _ _ ?_)
    cases hb' : e items[i] items2[i] with
    | true =>
      rw [hb'] at h
      wp_walk
      rw [hc]
      exact ⟨plainId_quiet plain_eq_loop _, codeAny_builtin entry_eq_loop (by
        rw [Around.under_plainId plain_eq_loop _]
        exact ih (i + 1) (by omega) prog w A R _ ⟨hl, hb, he, ho, by simpa using h⟩)⟩
    | false =>
      rw [hb'] at h
      wp_walk using wpAny_loadPart' hl, wpAny_loadPart' hb
      rw [hi1, hi2]
      refine wpAny_bind (ho i hlt hlt2 hb' prog w _ _ ?_)
      wp_walk
      simpa using h
theorem list_gt (l b : Addr) (items items2 : Array Value) (n n2 : Nat) (dd dd2 : Option Addr) (sl sl2 : Array (Option Value)) (e o : Value → Value → Bool) :
    Meets (Builtin.«list.__gt__» ⟨[.ref l, .ref b], []⟩)
      (fun A R s => s.heap.get? l = some { cls := .type "list", dict := dd, data := .seq items n, slots := sl } ∧ s.heap.get? b = some { cls := .type "list", dict := dd2, data := .seq items2 n2, slots := sl2 } ∧
        (∀ j (h1 : j < items.size) (h2 : j < items2.size), EqAt A.in1 s items[j] items2[j] (e items[j] items2[j])) ∧
        (∀ j (h1 : j < items.size) (h2 : j < items2.size), e items[j] items2[j] = false → OrdAt .Gt A.in1 s items[j] items2[j] (o items[j] items2[j])) ∧
        R (.ok (.ret (.bool (lexR e o (decide (items2.size < items.size)) items.toList items2.toList)))) s) := by
  intro prog w A R s h
  obtain ⟨hp, g, d, tk, os⟩ := s; obtain ⟨hl, hb, he, ho, h⟩ := h
  have f3 := AutoSeq1.sub_list_list
  wp_walk using wpAny_loadPart' hl, wpAny_loadPart' hb
  exact ⟨plainId_quiet plain_eq_loop _, codeAny_builtin entry_eq_loop (by
    rw [Around.under_plainId plain_eq_loop _]
    exact gt_loop l b items items2 n n2 dd dd2 sl sl2 e o _ 0 rfl prog w A R _ ⟨hl, hb, he, ho, by simpa using h⟩)⟩
theorem OrdAt.lists_gt {A : Around} {s : Shared} {l b : Addr} {vs us : List Value} {e o : Value → Value → Bool} (hl : s.heap.IsList l vs.toArray) (hb : s.heap.IsList b us.toArray) (hu : A.units < cLine)
    (he : ∀ x ∈ vs, ∀ y ∈ us, EqAt A.in1 s x y (e x y)) (ho : ∀ x ∈ vs, ∀ y ∈ us, e x y = false → OrdAt .Gt A.in1 s x y (o x y)) : OrdAt .Gt A s (.ref l) (.ref b) (lexR e o (decide (us.length < vs.length)) vs us) := fun prog w E Q h => by
  obtain ⟨⟨cls, dd, data, sl⟩, ho1, hc, n, hd⟩ := id hl
  obtain ⟨⟨cls2, dd2, data2, sl2⟩, ho2, hc2, n2, hd2⟩ := id hb
  simp only at hc hd hc2 hd2
  subst hc hd hc2 hd2
  exact richCompare_meets_room (op := .Gt) ⟨_, ho1, rfl⟩ ⟨_, ho2, rfl⟩ F.slot_list_gt F.entry_list_gt (F.args_list_gt_2 _ _) (list_gt l b vs.toArray us.toArray n n2 dd dd2 sl sl2 e o)
    ⟨ho1, ho2, fun j h1 h2 => he _ (by simp at h1; simpa using List.getElem_mem h1) _ (by simp at h2; simpa using List.getElem_mem h2), fun j h1 h2 hf => ho _ (by simp at h1; simpa using List.getElem_mem h1) _ (by simp at h2; simpa using List.getElem_mem h2) hf, show Value.bool _ ≠ Value.notImplemented ∧ Q (.bool _) s from ⟨(fun x => nomatch x), by simpa using h⟩⟩ hu
end Mine
namespace Mine
/-! ### sets of the numbers 0 to 3 -/
def smE (l : List (Nat × Tok)) : Array (Int × Value) := (l.map fun p => ((p.1 : Int), Value.int (p.1 : Int) p.2)).toArray
def smTab (led : Bool) (pl : List Nat) : SetTable := { mask := 7, place := pl.toArray, dummies := #[], finger := 0, led := led, moves := 0, plain := true }
def nums (l : List (Nat × Tok)) : List Nat := l.map (·.1)
def subs4 : List (List Nat) := [[], [3], [2], [2, 3], [1], [1, 3], [1, 2], [1, 2, 3], [0], [0, 3], [0, 2], [0, 2, 3], [0, 1], [0, 1, 3], [0, 1, 2], [0, 1, 2, 3]]
def Inc (pl : List Nat) : Prop := pl ∈ subs4
def Sm (led : Bool) (l : List (Nat × Tok)) (o : Obj) : Prop := Inc (nums l) ∧ ∃ ep, o = { cls := .type "set", dict := none, data := .set (smE l) ep (smTab led (nums l)), slots := #[] }
theorem tab_fits : ∀ pl ∈ subs4, ∀ led : Bool, (smTab led pl).fits pl.length = true := by decide +kernel
def tabIns (pl : List Nat) (k : Nat) : List Nat := pl.take (SetTable.below pl.toArray k) ++ [k] ++ pl.drop (SetTable.below pl.toArray k)
def tabOk (pl : List Nat) (k : Nat) (led : Bool) : Bool :=
  pl.contains k || (decide ((smTab led pl).freeSlot (k : Int) = some (k, false)) && decide (((smTab led pl).put k).1 = smTab led (tabIns pl k)) && decide (((smTab led pl).put k).2 = SetTable.below pl.toArray k) && subs4.contains (tabIns pl k) && !(smTab led (tabIns pl k)).tooFull)
theorem tab_add : ∀ pl ∈ subs4, ∀ k, k < 4 → ∀ led : Bool, tabOk pl k led = true := by decide +kernel
def insE (l : List (Nat × Tok)) (k : Nat) (t : Tok) : List (Nat × Tok) := l.take (SetTable.below (nums l).toArray k) ++ [(k, t)] ++ l.drop (SetTable.below (nums l).toArray k)
theorem nums_ins (l : List (Nat × Tok)) (k : Nat) (t : Tok) : nums (insE l k t) = tabIns (nums l) k := by
  unfold insE tabIns nums; simp [List.map_take, List.map_drop]
theorem smE_ins (l : List (Nat × Tok)) (k : Nat) (t : Tok) : SetTable.insertAt (smE l) (SetTable.below (nums l).toArray k) ((k : Int), .int (k : Int) t) = smE (insE l k t) := by
  apply Array.ext'
  unfold SetTable.insertAt smE insE
  simp [List.map_take, List.map_drop]
  rw [List.take_of_length_le (by simp)]
theorem hash_small : ∀ k : Nat, k < 4 → hashInt (k : Int) = k := by decide +kernel
theorem smE_size (l : List (Nat × Tok)) : (smE l).size = (nums l).length := by simp [smE, nums]
section
variable {prog : Program} {w : World} {A : Around} {E : Value → Shared → Prop} {s s₁ : Shared} {a : Addr}
theorem Sm.elems {l : List (Nat × Tok)} (h : Inc (nums l)) : ElemsOf (intKind prog w) (smE l).toList := by
  intro e he
  simp only [smE, List.mem_map] at he
  obtain ⟨p, hp, rfl⟩ := he
  have hlt : p.1 < 4 := by
    have : ∀ pl ∈ subs4, ∀ n ∈ pl, n < 4 := by decide +kernel
    exact this _ h _ (List.mem_map.mpr ⟨p, hp, rfl⟩)
  exact ⟨⟨(p.1 : Int), by simp [intKind, Value.isInt], by show (p.1 : Int) = hashInt p.1; rw [hash_small _ hlt]⟩, rfl⟩
theorem Sm.mem_iff {l : List (Nat × Tok)} (k : Int) : (∃ e ∈ (smE l).toList, (intKind prog w).is k e.2 = true) ↔ ∃ n ∈ nums l, (n : Int) = k := by
  simp only [smE, nums, List.mem_map]
  constructor
  · rintro ⟨e, ⟨p, hp, rfl⟩, h⟩
    refine ⟨p.1, ⟨p, hp, rfl⟩, ?_⟩
    obtain ⟨t', e⟩ := Value.isInt_shape (show Value.isInt k (.int (p.1 : Int) p.2) = true from h)
    injection e
  · rintro ⟨n, ⟨p, hp, rfl⟩, rfl⟩
    exact ⟨_, ⟨p, hp, rfl⟩, by simp [intKind, Value.isInt]⟩
theorem Sm.len {l : List (Nat × Tok)} (h : Inc (nums l)) : (nums l).length ≤ 4 := by
  have : ∀ pl ∈ subs4, pl.length ≤ 4 := by decide +kernel
  exact this _ h
theorem Sm.fits {led : Bool} {l : List (Nat × Tok)} (h : Inc (nums l)) : (smTab led (nums l)).fits (smE l).size = true := by
  rw [smE_size]; exact tab_fits _ h led
theorem Sm.setOf {led : Bool} {l : List (Nat × Tok)} {h : Heap} (hs : ∃ o, h.get? a = some o ∧ Sm led l o) : h.SetOf (intKind prog w) a (fun k => (nums l).any fun n => decide ((n : Int) = k)) (nums l).length := by
  obtain ⟨o, ho, hi, ep, rfl⟩ := hs
  refine ⟨_, smE l, ep, smTab led (nums l), ho, ⟨rfl, rfl, rfl⟩, rfl, Sm.elems hi, fun k => ?_, ?_, Sm.fits hi, smE_size l⟩
  · rw [Sm.mem_iff]; simp
  · rw [smE_size]; have := Sm.len hi; show _ < 4096; omega
theorem add_sm {led : Bool} {l : List (Nat × Tok)} {k : Nat} {t : Tok} {Q : Bool → Shared → Prop} (hs : ∃ o, s.heap.get? a = some o ∧ Sm led l o) (hk : k < 4)
    (h : ∀ b h' l', (∀ n, n ∈ nums l' ↔ n ∈ nums l ∨ n = k) → (∃ o, h'.get? a = some o ∧ Sm led l' o) → Heap.SameBut a s.heap h' → Q b { s with heap := h' }) :
    wpAny (model prog w) A (setAddHashed a (.int (k : Int) t) (hashInt (k : Int))) Q E s := by
  obtain ⟨o, ho, hi, ep, rfl⟩ := hs
  have hel := Sm.elems (prog := prog) (w := w) hi
  have hf := Sm.fits (led := led) hi
  have hb : (smE l).size < scanBound := by rw [smE_size]; have := Sm.len hi; show _ < 4096; omega
  have hkey : (intKind prog w).is (k : Int) (.int (k : Int) t) = true := by simp [intKind, Value.isInt]
  unfold setAddHashed setAddHashedIn
  refine wpAny_holding (wpAny_bind (wpAny_setState_of ho rfl hf ?_))
  dsimp only
  rw [byScan_of (knd := intKind prog w) rfl hb hel]
  simp only [↓reduceIte]
  unfold setAddByScan
  refine wpAny_bind ?_
  refine wpAny_bind (wpAny_rule ?_)
  refine wpAny_bind (wpAny_setScan_of (knd := intKind prog w) (k := (k : Int)) hkey ho rfl hf hel ?_)
  have htab := tab_add _ hi k hk led
  unfold tabOk at htab
  cases hr : List.findIdx? (fun e => (intKind prog w).is (k : Int) e.2) (smE l).toList with
  | some j =>
    dsimp only
    obtain ⟨hj, hpj, _⟩ := List.findIdx?_eq_some_iff_getElem.mp hr
    have hmem : k ∈ nums l := by
      obtain ⟨n, hn, e⟩ := (Sm.mem_iff (prog := prog) (w := w) (k : Int)).mp ⟨_, List.getElem_mem hj, hpj⟩
      have : n = k := by omega
      rw [← this]; exact hn
    refine wpAny_pure (wpAny_pure ?_)
    have := h false s.heap l (fun n => ⟨Or.inl, fun q => q.elim id fun e => e ▸ hmem⟩) ⟨_, ho, hi, ep, rfl⟩ (Heap.SameBut.refl a s.heap)
    exact this
  | none =>
    dsimp only
    have hmem : k ∉ nums l := fun hm => by
      obtain ⟨e, he, hp⟩ := (Sm.mem_iff (prog := prog) (w := w) (k : Int)).mpr ⟨k, hm, rfl⟩
      have := List.findIdx?_eq_none_iff.mp hr e he
      rw [hp] at this; cases this
    have hc : (nums l).contains k = false := by rw [Bool.eq_false_iff]; simpa using hmem
    rw [hc] at htab
    simp only [Bool.false_or, Bool.and_eq_true, decide_eq_true_eq, Bool.not_eq_true'] at htab
    obtain ⟨⟨⟨⟨f1, f2⟩, f3⟩, f4⟩, f5⟩ := htab
    have hin : Inc (nums (insE l k t)) := by rw [nums_ins]; show tabIns (nums l) k ∈ subs4; simpa using f4
    have elay : layNew (smTab led (nums l)) (smE l) (hashInt (k : Int)) (.int (k : Int) t) = (smE (insE l k t), smTab led (nums (insE l k t)), false, false) := by
      unfold layNew
      rw [hash_small k hk, f1]
      dsimp only
      have e1 : ((smTab led (nums l)).put k) = (smTab led (tabIns (nums l) k), SetTable.below (nums l).toArray k) := Prod.ext f2 f3
      rw [e1]
      dsimp only
      rw [smE_ins]
      have e2 : (smTab led (tabIns (nums l) k)).fits (smE (insE l k t)).size = true := by rw [← nums_ins l k t]; exact Sm.fits hin
      rw [SetTable.orStandIn, if_pos e2, e2, nums_ins]
      rfl
    rw [elay]
    dsimp only
    refine wpAny_bind (wpAny_pure ?_)
    rw [if_pos (show (smTab led (nums (insE l k t))).plain = true from rfl)]
    refine wpAny_bind (wpAny_pure ?_)
    have hz : (smE (insE l k t)).size ≤ sizeLine := by rw [smE_size, sizeLine_eq]; have := Sm.len hin; omega
    refine wpAny_bind (wpAny_storeSet_of ho rfl ?_ hz)
    have f5' : (smTab led (nums (insE l k t))).tooFull = false := by rw [nums_ins]; exact f5
    simp only [if_true, f5', Bool.and_false, Bool.false_eq_true, if_false]
    refine wpAny_pure (wpAny_pure (h true _ (insE l k t) (fun n => ?_) ⟨_, Heap.get?_update_self _ ho rfl, hin, ep + 1, ?_⟩ (Heap.SameBut.update ..)))
    · rw [nums_ins]
      unfold tabIns
      simp only [List.mem_append, List.mem_singleton]
      constructor
      · rintro ((hm | hm) | hm)
        · exact Or.inl (List.mem_of_mem_take hm)
        · exact Or.inr hm
        · exact Or.inl (List.mem_of_mem_drop hm)
      · rintro (hm | hm)
        · have := List.take_append_drop (SetTable.below (nums l).toArray k) (nums l)
          rw [← this] at hm
          rcases List.mem_append.mp hm with q | q
          · exact Or.inl (Or.inl q)
          · exact Or.inr q
        · exact Or.inl (Or.inr hm)
    · rw [putSet_of _ _ rfl]
end
end Mine
namespace Mine
def byText (w : World) : Bool := w.params.followText "set-order"
section
variable {prog : Program} {w : World} {A : Around} {E : Value → Shared → Prop} {s s₁ : Shared} {R : Result → Shared → Prop} {I : Addr} {fp wr : List Addr} {n : Nat} {P : Nat → Value → Prop} {St : Nat → Heap → Prop}
abbrev freshSet (led : Bool) : Obj := { cls := .type "set", dict := none, data := .set #[] 0 (.fresh 0 0 led) }
theorem Sm.fresh (led : Bool) : Sm led [] (freshSet led) := ⟨by show ([] : List Nat) ∈ subs4; decide, 0, rfl⟩
theorem upd_loop (W : Walks prog w A.in1 I fp wr n P St) (S : Addr) (hSf : S ∉ fp) (led : Bool) (val : Nat → Nat) (hval : ∀ i v, P i v → val i < 4 ∧ ∃ t, v = .int (val i : Nat) t) :
    ∀ (k i : Nat) (s : Shared) (l : List (Nat × Tok)), n - i = k → i ≤ n → St i s.heap → (∃ o, s.heap.get? S = some o ∧ Sm led l o) → (∀ m, m ∈ nums l ↔ ∃ j, j < i ∧ val j = m) →
      (∀ h' tk l', (∃ o, h'.get? S = some o ∧ Sm led l' o) → (∀ m, m ∈ nums l' ↔ ∃ j, j < n ∧ val j = m) → (∀ b o, b ∉ wr → b ≠ S → s.heap.get? b = some o → h'.get? b = some o) → R (.ok (.ret .none)) { s with heap := h', toks := tk }) →
      codeAny (model prog w) A (.builtin "set.update.loop" ⟨[.ref S, .ref I], []⟩) R s := by
  have hSw : S ∉ wr := fun h => hSf (W.sub _ h)
  intro k
  induction k with
  | zero =>
    intro i s l hk hi hst hS hm hR
    have hin : i = n := by omega
    subst hin
    refine codeAny_builtin F.entry_set_update_loop ?_
    rw [Around.under_plainId F.plain_set_update_loop _]
    show wpAny _ A.in1 (pyNext (.ref I) >>= _) _ _ s
    refine wpAny_bind (W.done s _ _ hst fun h' tk hk' => ?_)
    show wpAny _ A.in1 (ret Value.none) _ _ _
    obtain ⟨o, ho, hso⟩ := hS
    exact wpAny_pure (hR h' tk l ⟨o, hk' S o hSw ho, hso⟩ hm fun b o hb _ e => hk' b o hb e)
  | succ k ih =>
    intro i s l hk hi hst hS hm hR
    have hlt : i < n := by omega
    refine codeAny_builtin F.entry_set_update_loop ?_
    rw [Around.under_plainId F.plain_set_update_loop _]
    show wpAny _ A.in1 (pyNext (.ref I) >>= _) _ _ s
    refine wpAny_bind (W.item i s _ _ hlt hst fun v h₁ tk₁ hP hst' hk' => ?_)
    obtain ⟨hv4, t, rfl⟩ := hval i v hP
    obtain ⟨o, ho, hso⟩ := hS
    show wpAny _ A.in1 (holding [Value.int (val i : Nat) t] (setAdd S (.int (val i : Nat) t)) >>= _) _ _ _
    refine wpAny_bind (wpAny_holding ?_)
    unfold setAdd
    refine wpAny_holding ?_
    refine wpAny_bind ((intKind prog w).pyHash (k := (val i : Int)) (by simp [intKind, Value.isInt]) ?_)
    refine add_sm (s := { s with heap := h₁, toks := tk₁ + 1 }) (led := led) (l := l) ⟨o, hk' S o hSw ho, hso⟩ hv4 fun bb h₂ l' hl' hS₂ hsb => ?_
    refine wpAny_pure ⟨plainId_quiet F.plain_set_update_loop _, ih (i + 1) _ l' (by omega) hlt (W.frame _ _ _ hst' fun b hb o e => hsb.extBut b o (fun q => hSf (q ▸ hb)) e) hS₂ (fun m => ?_) fun h₃ tk₃ l'' hS₃ hm₃ hk₃ => ?_⟩
    · rw [hl', hm]
      constructor
      · rintro (⟨j, hj, e⟩ | e)
        · exact ⟨j, by omega, e⟩
        · exact ⟨i, by omega, e.symm⟩
      · rintro ⟨j, hj, e⟩
        by_cases q : j = i
        · subst q; exact Or.inr e.symm
        · exact Or.inl ⟨j, by omega, e⟩
    · exact hR h₃ tk₃ l'' hS₃ hm₃ fun b o hb hbS e => hk₃ b o hb hbS (hsb.extBut b o hbS (hk' b o hb e))
theorem set_new_led (a : Value) {Q₁ : Value → Shared → Prop} (h : Q₁ (.ref s.heap.objs.size) { s with heap := s.heap.push (freshSet (!byText w)) }) :
    codeAny (model prog w) A (.call (.builtin "set.__new__") ⟨[.type "set", a], []⟩) (wants Q₁ E) s := by
  refine codeAny_of_tree ?_
  show wpAny _ A.in1 (do checkBuiltinCall "set.__new__" ⟨[.type "set", a], []⟩; again (.builtin "set.__new__" ⟨[.type "set", a], []⟩)) _ _ s
  refine wpAny_bind (wpAny_of_eq (F.newCall_set_1 a) (wpAny_pure ⟨plainId_quiet F.plain_set_new _, codeAny_builtin F.entry_set_new ?_⟩))
  rw [Around.under_plainId F.plain_set_new _]
  unfold Builtin.«set.__new__» Builtin.Frozenset.newClass
  have hsub := sub_set_self
  obtain ⟨hp, g, d, tk, os⟩ := s
  dsimp only
  wp_walk
  refine wpAny_askSetting (wpAny_pure ?_)
  dsimp only
  simp only [newObj]
  refine wpAny_bind (wpAny_alloc (wpAny_pure ?_))
  exact wpAny_pure h
theorem call_setS {l : Addr} {items : Array Value} {ns : List Nat} {Q : Value → Shared → Prop}
    (hh : A.handled = none) (hl : s.heap.IsList l items) (hlen : items.size = ns.length) (hi : ∀ (i : Nat) v, items[i]? = some v → ∃ n t, ns[i]? = some n ∧ n < 4 ∧ v = .int (n : Nat) t)
    (h : ∀ (h' : Heap) (tk : Nat) ls, (∃ o, h'.get? s.heap.objs.size = some o ∧ Sm (!byText w) ls o) → (∀ m, m ∈ nums ls ↔ m ∈ ns) →
      (∀ b o, s.heap.get? b = some o → h'.get? b = some o) → Q (.ref s.heap.objs.size) { s with heap := h', toks := tk }) :
    wpAny (model prog w) A (call (.type "set") [.ref l]) Q E s := by
  obtain ⟨c, tl, hmro⟩ := F.called_set.mro
  have hmade := F.called_set.made
  have hsub := F.called_set.sub
  refine wpAny_call (codeAny_of_tree ?_)
  show wpAny _ _ (callAny (.type "set") _) _ _ _
  refine wpAny_pure ⟨Code.quiet_builtin _ (by decide +kernel), codeAny_builtin F.entry_type_call ?_⟩
  rw [Around.under_plain (weight_type_call_type "set" [.ref l] []) rfl]
  have h1 := F.called_set.notType
  have h2 := F.called_set.canCreate
  have hct := F.typeCall_set_1 (.ref l)
  repeat (any_goals (first | assumption | wp_step))
  refine codeAny_mono (set_new_led (.ref l) (E := E) (Q₁ := fun obj s₁ => obj = .ref s.heap.objs.size ∧ s₁ = { s with heap := s.heap.push (freshSet (!byText w)) }) ⟨rfl, rfl⟩) fun r s₁ hr => ?_
  cases r with
  | error e => exact hr
  | ok fl =>
    cases fl with
    | ret obj =>
      obtain ⟨rfl, rfl⟩ := hr
      generalize hled : (!byText w) = led at h ⊢
      have hS : (s.heap.push (freshSet led)).get? s.heap.objs.size = some (freshSet led) := Heap.get?_push_size _ rfl
      have hT : Shared.TypeIs { s with heap := s.heap.push (freshSet led) } (.ref s.heap.objs.size) "set" := ⟨_, hS, rfl⟩
      have hli := F.called_set.init.lookup
      have hbi := F.called_set.init.bind (.ref s.heap.objs.size)
      repeat (any_goals (first | assumption | wp_step))
      refine codeAny_mono (codeAny_call_builtin (R := wants (fun r s₂ => r = .none ∧ ∃ h' tk ls, s₂ = { s with heap := h', toks := tk } ∧ (∃ o, h'.get? s.heap.objs.size = some o ∧ Sm led ls o) ∧ (∀ m, m ∈ nums ls ↔ m ∈ ns) ∧
          (∀ b o, s.heap.get? b = some o → h'.get? b = some o)) E) F.called_set.init.plain F.entry_set_init (check_set_init_1 hT ?_)) fun r₂ s₂ hr₂ => ?_
      · obtain ⟨ol, hol, hcl, nl, hdl⟩ := hl
        obtain ⟨ocls, odict, odata, oslots⟩ := ol
        simp only at hcl hdl
        subst hcl; subst hdl
        have hol' : (s.heap.push (freshSet led)).get? l = some { cls := .type "list", dict := odict, data := .seq items nl, slots := oslots } := Heap.get?_push_of_some _ hol
        have hsls := F.sub_list_set
        have hslf := F.sub_list_frozenset
        have hne : (Value.type "list" == Value.type "dict") = false := by decide
        have hl1 : (s.heap.push (freshSet led)).IsList l items := ⟨_, hol', rfl, nl, rfl⟩
        unfold Builtin.«set.__init__» noKeywords Builtin.Frozenset.updateFrom
        generalize hPI : pyIter = PI
        wp_walk
        subst hPI
        refine wpAny_pyIter_list hl1 ?_
        refine wpAny_bind (wpAny_runValue ?_)
        have hlS : l < s.heap.objs.size := Heap.lt_size hol
        have hh3 : A.in1.in1.in1.handled = none := by simp [hh]
        have hneI : l ≠ (s.heap.push (freshSet led)).objs.size := by
          rw [Heap.size_push]; exact Nat.ne_of_lt (Nat.lt_succ_of_lt hlS)
        have hSf : s.heap.objs.size ∉ [(s.heap.push (freshSet led)).objs.size, l] := by
          rw [Heap.size_push]; simp only [List.mem_cons, List.not_mem_nil, or_false, not_or]
          exact ⟨Nat.ne_of_lt (Nat.lt_succ_self _), Nat.ne_of_gt hlS⟩
        have hval : ∀ (i : Nat) (v : Value), items[i]? = some v → ns.getD i 0 < 4 ∧ ∃ t, v = .int (ns.getD i 0 : Nat) t := fun i v hv => by
          obtain ⟨m, t, e1, e2, e3⟩ := hi i v hv
          have : ns.getD i 0 = m := by simp [List.getD, e1]
          rw [this]; exact ⟨e2, t, e3⟩
        refine upd_loop (Walks.list hh3 _ l hneI items) s.heap.objs.size hSf led (fun i => ns.getD i 0) hval (items.size - 0) 0 _ [] (by omega) (Nat.zero_le _)
          ⟨⟨_, Heap.get?_push_size _ rfl, rfl, rfl⟩, (hl1.push _)⟩ ⟨_, Heap.get?_push_of_some _ hS, Sm.fresh led⟩ (fun m => by simp [nums]) ?_
        intro h' tk' ls hls hms hks
        show wpAny _ _ _ _ _ _
        refine wpAny_pure ?_
        show wpAny _ _ (ret Value.none) _ _ _
        refine wpAny_pure ⟨rfl, h', tk', ls, rfl, hls, fun m => ?_, fun b o e => ?_⟩
        · rw [hms, hlen]
          constructor
          · rintro ⟨j, hj, rfl⟩
            simp [List.getD, hj]
          · intro hm
            obtain ⟨j, hj, rfl⟩ := List.mem_iff_getElem.mp hm
            exact ⟨j, hj, by simp [List.getD, hj]⟩
        · have hb : b < s.heap.objs.size := Heap.lt_size e
          refine hks b o ?_ (Nat.ne_of_lt hb) (Heap.get?_push_of_some _ (Heap.get?_push_of_some _ e))
          rw [Heap.size_push]; simp only [List.mem_cons, List.not_mem_nil, or_false]
          exact Nat.ne_of_lt (Nat.lt_succ_of_lt hb)
      · cases r₂ with
        | error e => exact hr₂
        | ok fl₂ =>
          cases fl₂ with
          | ret r =>
            obtain ⟨rfl, h', tk, ls, rfl, hls, hms, hk'⟩ := hr₂
            repeat (any_goals (first | assumption | wp_step))
            exact h _ _ _ hls hms hk'
          | _ => exact hr₂.elim
    | _ => exact hr.elim
end
section
variable {prog : Program} {w : World} {A : Around} {E : Value → Shared → Prop} {s s₁ : Shared} {L l : Addr} {b : List (Str × Value)} {H : List Ent} {Q : Value → Shared → Prop}
theorem c_setS {vs : List Value} {ns : List Nat} (S : Mine.St s₁ L b H s) (hl : (l, Lst vs) ∈ H) (hh : A.handled = none) (hi : IntsAre vs (ns.map fun n : Nat => (n : Int))) (h4 : ∀ n ∈ ns, n < 4)
    (h : ∀ s' D ls, (∀ m, m ∈ nums ls ↔ m ∈ ns) → Mine.St s₁ L b ((D, Sm (!byText w) ls) :: H) s' → Q (.ref D) s') : wpAny (model prog w) A (call (.type "set") [.ref l]) Q E s := by
  refine call_setS (ns := ns) hh (Lst.isList (S.get hl)) (by simp [hi.length]) (fun i v hv => ?_) fun h' tk ls hls hms hk => ?_
  · obtain ⟨x, t, rfl, hx⟩ := hi.at i v (by simpa using hv)
    rw [List.getElem?_map] at hx
    obtain ⟨n, hn, rfl⟩ := Option.map_eq_some_iff.mp hx
    exact ⟨n, t, hn, h4 n (List.mem_of_getElem? hn), rfl⟩
  · exact h _ _ ls hms (S.new tk hk (get?_size_none _) hls)
end
end Mine
namespace Mine
/-! ### walking through a small set -/
theorem owner_set_iterator : Manifest.owners.lookup (String.ofList ['r', 'o', 't', 'a', 'r', 'e', 't', 'i', '_', 't', 'e', 's'].reverse) = some Manifest.sig_set_iterator := by kernel_rfl
theorem slot_setit_next : Slot "set_iterator" "__next__" "set_iterator.__next__" :=
  .of (owner := "set_iterator") (n := "__next__") (by rw [typeLookup_type, builtinLookup_eq_fast]; kernel_rfl) (by decide +kernel) (by decide +kernel) (by decide +kernel)
    (by first | exact .inl (by decide +kernel) | exact .inr (by decide +kernel)) (by rw [isSubtype_type]; kernel_rfl)
theorem entry_setit_next : entryFor table "set_iterator.__next__" = some Builtin.«set_iterator.__next__» := entryFor_of_tree (by kernel_rfl)
theorem args_setit_next_1 (a : Value) : argsOk "set_iterator.__next__" ⟨[a], []⟩ := by
  unfold argsOk; rw [signature?_of (id := "set_iterator.__next__") (n := ['_', '_', 't', 'x', 'e', 'n', '_', '_']) (o := ['r', 'o', 't', 'a', 'r', 'e', 't', 'i', '_', 't', 'e', 's']) (by kernel_rfl) owner_set_iterator]; kernel_rfl
theorem slot_setit_iter : Slot "set_iterator" "__iter__" "set_iterator.__iter__" :=
  .of (owner := "set_iterator") (n := "__iter__") (by rw [typeLookup_type, builtinLookup_eq_fast]; kernel_rfl) (by decide +kernel) (by decide +kernel) (by decide +kernel)
    (by first | exact .inl (by decide +kernel) | exact .inr (by decide +kernel)) (by rw [isSubtype_type]; kernel_rfl)
theorem entry_setit_iter : entryFor table "set_iterator.__iter__" = some Builtin.«dict_keyiterator.__iter__» :=
  entryFor_alias (id' := "dict_keyiterator.__iter__") (by kernel_rfl) rfl (by decide +kernel) (by kernel_rfl)
theorem args_setit_iter_1 (a : Value) : argsOk "set_iterator.__iter__" ⟨[a], []⟩ := by
  unfold argsOk; rw [signature?_of (id := "set_iterator.__iter__") (n := ['_', '_', 'r', 'e', 't', 'i', '_', '_']) (o := ['r', 'o', 't', 'a', 'r', 'e', 't', 'i', '_', 't', 'e', 's']) (by kernel_rfl) owner_set_iterator]; kernel_rfl
theorem entry_set_iter : entryFor table "set.__iter__" = some Builtin.«frozenset.__iter__» :=
  entryFor_alias (id' := "frozenset.__iter__") (by kernel_rfl) rfl (by decide +kernel) (by kernel_rfl)
/-- the order in which the world walks through it -/
def SmAt (led : Bool) (l : List (Nat × Tok)) (ep : Nat) (o : Obj) : Prop := Inc (nums l) ∧ o = { cls := .type "set", dict := none, data := .set (smE l) ep (smTab led (nums l)), slots := #[] }
theorem Sm.at {led : Bool} {l : List (Nat × Tok)} {h : Heap} {a : Addr} (hs : ∃ o, h.get? a = some o ∧ Sm led l o) : ∃ ep, ∃ o, h.get? a = some o ∧ SmAt led l ep o := by
  obtain ⟨o, ho, hi, ep, e⟩ := hs; exact ⟨ep, o, ho, hi, e⟩
theorem SmAt.sm {led : Bool} {l : List (Nat × Tok)} {ep : Nat} {o : Obj} (h : SmAt led l ep o) : Sm led l o := ⟨h.1, ep, h.2⟩
def ordS (w : World) (a : Addr) (ep : Nat) (l : List (Nat × Tok)) : Array (Int × Value) := if byText w then pickOrder (w.params.setOrder a ep) (smE l) else smE l
theorem cons_erase_perm {α : Type} : ∀ (l : List α) (i : Nat) (h : i < l.length), (l[i] :: l.eraseIdx i).Perm l
  | [], i, h => absurd h (by simp)
  | x :: l, 0, _ => .refl _
  | x :: l, i + 1, h => by
    simp only [List.getElem_cons_succ, List.eraseIdx_cons_succ]
    exact (List.Perm.swap _ _ _).trans (.cons _ (cons_erase_perm l i (by simpa using h)))
theorem pickGo_perm {α : Type} (next : Nat → Nat) : ∀ (fuel k : Nat) (left : List α) (out : Array α), left.length = fuel → (pickOrder.go next fuel k left out).toList.Perm (out.toList ++ left)
  | 0, k, left, out, h => by
    have : left = [] := List.eq_nil_of_length_eq_zero h
    subst this; simp [pickOrder.go]
  | fuel + 1, k, left, out, h => by
    have hlt : next k % left.length < left.length := Nat.mod_lt _ (by omega)
    rw [pickOrder.go, List.getElem?_eq_getElem hlt]
    simp only
    refine (pickGo_perm next fuel (k + 1) (left.eraseIdx (next k % left.length)) (out.push left[next k % left.length]) (by rw [List.length_eraseIdx_of_lt hlt]; omega)).trans ?_
    rw [Array.toList_push, List.append_assoc]
    refine List.Perm.append_left _ ?_
    exact cons_erase_perm left _ hlt
theorem ord_perm (w : World) (a : Addr) (ep : Nat) (l : List (Nat × Tok)) : (ordS w a ep l).toList.Perm (smE l).toList := by
  unfold ordS
  split
  · have := pickGo_perm (w.params.setOrder a ep) (smE l).size 0 (smE l).toList #[] (by simp)
    simpa [pickOrder] using this
  · exact .refl _
def slotS (bt : Bool) (pl : List Nat) (i : Nat) : Nat := if bt then 0 else if i = 0 then 0 else pl.getD (i - 1) 0 + 1
theorem below_slot : ∀ pl ∈ subs4, ∀ i, i < 5 → i ≤ pl.length → SetTable.below pl.toArray (slotS false pl i) = i := by decide +kernel
def SIt (w : World) (a : Addr) (ep : Nat) (l : List (Nat × Tok)) (i : Nat) (o : Obj) : Prop := o = { cls := .type "set_iterator", dict := none, data := .fields #[rawInt (slotS (byText w) (nums l) i), rawInt i, .ref a, rawInt (nums l).length, rawInt ep], slots := #[] }
section
variable {prog : Program} {w : World} {A : Around} {E : Value → Shared → Prop} {s s₁ : Shared} {L a I : Addr} {b : List (Str × Value)} {H : List Ent} {l : List (Nat × Tok)} {ep : Nat}
theorem setsByText_w {Q : Bool → Shared → Prop} (h : Q (byText w) s) : wpAny (model prog w) A setsByText Q E s := by
  unfold setsByText
  exact wpAny_bind (wpAny_askSetting (wpAny_pure h))
theorem setState_sm {Q : (Array (Int × Value) × Nat × SetTable) → Shared → Prop} (hs : ∃ o, s.heap.get? a = some o ∧ SmAt (!byText w) l ep o) (h : Q (smE l, ep, smTab (!byText w) (nums l)) s) : wpAny (model prog w) A (setState a) Q E s := by
  obtain ⟨o, ho, hi, rfl⟩ := hs
  exact wpAny_setState_of ho rfl (Sm.fits hi) h
theorem setNext_sm {i : Nat} {Q : Option (Value × Nat) → Shared → Prop} (hs : ∃ o, s.heap.get? a = some o ∧ SmAt (!byText w) l ep o) (hi : i ≤ (nums l).length)
    (h : Q (((ordS w a ep l)[i]?).map fun e => (e.2, slotS (byText w) (nums l) (i + 1))) s) : wpAny (model prog w) A (setNext a (slotS (byText w) (nums l) i) i ep) Q E s := by
  have hinc : Inc (nums l) := by obtain ⟨o, ho, hi, _⟩ := hs; exact hi
  have hlen := Sm.len hinc
  unfold setNext
  refine wpAny_bind (setState_sm hs ?_)
  dsimp only
  refine wpAny_bind (setsByText_w ?_)
  cases hb : byText w with
  | true =>
    simp only [if_true]
    rw [hb] at h
    refine wpAny_ite_split (fun hc => absurd hc (by simp)) (fun _ => ?_)
    unfold setWalk
    refine wpAny_bind (wpAny_bind (setState_sm hs ?_))
    dsimp only
    refine wpAny_bind (setsByText_w ?_)
    rw [hb]
    simp only [if_true]
    refine wpAny_bind (wpAny_askSetting (wpAny_pure (wpAny_pure ?_)))
    have e : ordS w a ep l = pickOrder (w.params.setOrder a ep) (smE l) := if_pos hb
    rw [e] at h
    exact h
  | false =>
    simp only [Bool.false_eq_true, if_false]
    rw [hb] at h
    refine wpAny_ite_split (fun hc => absurd hc (fun q => Bool.noConfusion (show false = true from q))) (fun _ => ?_)
    refine wpAny_bind (wpAny_of_eq (a := ()) rfl (wpAny_pure ?_))
    have e : ordS w a ep l = smE l := if_neg (by rw [hb]; decide)
    rw [e] at h
    have hbl := below_slot _ hinc i (by omega) hi
    have e2 : SetTable.below (smTab (!false) (nums l)).place (slotS false (nums l) i) = i := hbl
    rw [e2]
    by_cases hlt : i < (nums l).length
    · have h1 : (smE l)[i]? = some ((smE l)[i]'(by rw [smE_size]; exact hlt)) := Array.getElem?_eq_getElem _
      have h2 : (smTab (!false) (nums l)).place[i]? = some ((nums l)[i]) := by show (nums l).toArray[i]? = _; simp [hlt]
      have h3 : slotS false (nums l) (i + 1) = (nums l)[i] + 1 := by simp [slotS, List.getD, hlt]
      rw [h1, h3] at h
      rw [h1, h2]
      exact h
    · have h1 : (smE l)[i]? = none := Array.getElem?_eq_none (by rw [smE_size]; omega)
      rw [h1] at h ⊢
      exact h
theorem it_set {Q : Value → Shared → Prop} (S : St s₁ L b H s) (hm : (a, SmAt (!byText w) l ep) ∈ H) (h : ∀ s' I, St s₁ L b ((I, SIt w a ep l 0) :: H) s' → Q (.ref I) s') : wpAny (model prog w) A (pyIter (.ref a)) Q E s := by
  have hs := S.get hm
  have hs' := hs
  obtain ⟨o, ho, hi, he⟩ := hs
  have hT : s.TypeIs (.ref a) "set" := ⟨o, ho, by rw [he]⟩
  refine wpAny_pyIter_slot hT F.slot_set_iter (wpAny_call_entry F.slot_set_iter hT entry_set_iter ?_ (F.args_set_iter_1 _))
  unfold Builtin.«frozenset.__iter__»
  refine wpAny_bind (wpAny_of_eq (a := a) rfl ?_)
  unfold Builtin.Frozenset.sizeOf setEntries
  refine wpAny_bind (wpAny_bind (wpAny_bind (setState_sm hs' (wpAny_pure (wpAny_pure ?_)))))
  unfold setDrawn
  refine wpAny_bind (wpAny_bind (setState_sm hs' ?_))
  dsimp only
  refine wpAny_bind (setsByText_w (wpAny_pure ?_))
  have hdr : ∀ x : Bool, (!x && (fun (es : Array (Int × Value)) (t : SetTable) => !t.plain && decide (es.size > 1)) (smE l) (smTab (!x) (nums l))) = false := fun x => by cases x <;> rfl
  refine wpAny_ite_split (fun hc => absurd hc (fun q => by
    have := hdr (byText w)
    exact Bool.noConfusion (this.symm.trans q))) (fun _ => ?_)
  refine wpAny_bind (wpAny_pure ?_)
  unfold setEpoch
  refine wpAny_bind (wpAny_bind (setState_sm hs' (wpAny_pure ?_)))
  unfold newFields
  refine wpAny_bind (wpAny_newObj_type ?_)
  refine wpAny_pure ⟨_, rfl, "set_iterator", _, ⟨_, Heap.get?_push_size _ rfl, rfl⟩, slot_setit_next.lookup, ?_⟩
  have hsl : slotS (byText w) (nums l) 0 = 0 := by unfold slotS; split <;> rfl
  refine h _ _ (S.push (P := SIt w a ep l 0) ?_ s.toks)
  show _ = _
  rw [hsl, smE_size]
  rfl
theorem SIt.field {i : Nat} (hI : ∃ o, s.heap.get? I = some o ∧ SIt w a ep l i o) : s.heap.get? I = some { cls := .type "set_iterator", dict := none, data := .fields #[rawInt (slotS (byText w) (nums l) i), rawInt i, .ref a, rawInt (nums l).length, rawInt ep], slots := #[] } := by
  obtain ⟨o, ho, e⟩ := hI; rw [e] at ho; exact ho
theorem Itr.set (hh : A.handled = none) (hne : a ≠ I) :
    Itr prog w A I (nums l).length (fun i => SIt w a ep l i) (fun i v => ∃ hsh, (ordS w a ep l)[i]? = some (hsh, v)) (fun h => ∃ o, h.get? a = some o ∧ SmAt (!byText w) l ep o) where
  item := fun i s Q E hi hI hR hQ => by
    have hit := SIt.field hI
    have hT : s.TypeIs (.ref I) "set_iterator" := ⟨_, hit, rfl⟩
    have hsz : (ordS w a ep l).size = (nums l).length := by have := (ord_perm w a ep l).length_eq; rw [Array.length_toList, Array.length_toList, smE_size] at this; exact this
    unfold pyNext
    refine wpAny_bind (wpAny_attempt (wpAny_callSpecial?_slot (name := Str.ofString "__next__") hT slot_setit_next (wpAny_call_entry slot_setit_next hT entry_setit_next ?_ (args_setit_next_1 _))))
    unfold Builtin.«set_iterator.__next__»
    refine wpAny_bind (wpAny_of_eq (a := (Value.ref I, [])) rfl ?_)
    dsimp only
    refine wpAny_bind (wpAny_fieldsOf hit rfl ?_)
    show wpAny _ _ (setEntries a >>= _) _ _ _
    unfold setEntries
    refine wpAny_bind (wpAny_bind (setState_sm hR (wpAny_pure ?_)))
    refine wpAny_ite_split (fun hc => absurd hc (by rw [smE_size]; simp)) (fun _ => ?_)
    show wpAny _ _ (setNext a (slotS (byText w) (nums l) i) i ep >>= _) _ _ _
    refine wpAny_bind (setNext_sm hR (Nat.le_of_lt hi) ?_)
    have hlt : i < (ordS w a ep l).size := by omega
    rw [Array.getElem?_eq_getElem hlt]
    dsimp only [Option.map]
    refine wpAny_bind (wpAny_setField_rec hit (by simp) fun h₁ ho₁ hs₁ => ?_)
    refine wpAny_bind (wpAny_setField_rec ho₁ (by simp) fun h₂ ho₂ hs₂ => ?_)
    refine wpAny_pure ⟨_, rfl, wpAny_pure (hQ _ h₂ s.toks ⟨_, Array.getElem?_eq_getElem hlt⟩ ⟨_, ho₂, ?_⟩ fun c o hc e => hs₂.extBut _ _ hc (hs₁.extBut _ _ hc e))⟩
    show _ = _
    simp
  done := fun s Q E hI hR hQ => by
    have hit := SIt.field hI
    have hT : s.TypeIs (.ref I) "set_iterator" := ⟨_, hit, rfl⟩
    have hsz : (ordS w a ep l).size = (nums l).length := by have := (ord_perm w a ep l).length_eq; rw [Array.length_toList, Array.length_toList, smE_size] at this; exact this
    unfold pyNext
    refine wpAny_bind (wpAny_attempt (wpAny_callSpecial?_slot (name := Str.ofString "__next__") hT slot_setit_next (wpAny_call_entry slot_setit_next hT entry_setit_next ?_ (args_setit_next_1 _))))
    unfold Builtin.«set_iterator.__next__»
    refine wpAny_bind (wpAny_of_eq (a := (Value.ref I, [])) rfl ?_)
    dsimp only
    refine wpAny_bind (wpAny_fieldsOf hit rfl ?_)
    show wpAny _ _ (setEntries a >>= _) _ _ _
    unfold setEntries
    refine wpAny_bind (wpAny_bind (setState_sm hR (wpAny_pure ?_)))
    refine wpAny_ite_split (fun hc => absurd hc (by rw [smE_size]; simp)) (fun _ => ?_)
    show wpAny _ _ (setNext a (slotS (byText w) (nums l) (nums l).length) (nums l).length ep >>= _) _ _ _
    refine wpAny_bind (setNext_sm hR (Nat.le_refl _) ?_)
    rw [Array.getElem?_eq_none (by omega)]
    dsimp only [Option.map]
    refine wpAny_bind (wpAny_setField_rec hit (by simp) fun h₁ ho₁ hs₁ => ?_)
    show wpAny _ _ (newExc (.type "StopIteration") [] >>= _) _ _ _
    refine wpAny_bind ?_
    simp only [newExc, newTuple]
    refine wpAny_bind (wpAny_newObj_type ?_ (by size_fits))
    refine wpAny_bind (m := firstArgMember _ _) (wpAny_of_eq (a := Value.none) (by first | rfl | (simp only [firstArgMember]; rfl)) ?_)
    refine wpAny_newObj_type ?_ (by size_fits)
    simp only [raiseNew]
    refine wpAny_bind (wpAny_handled ?_)
    first | rw [show A.in1.handled = none from hh] | rw [hh]
    refine wpAny_bind (wpAny_pure (wpAny_throw ?_))
    refine wpAny_bind (wpAny_isInstance (T := "StopIteration") (b := true) ⟨_, Heap.get?_push_size _ rfl, rfl⟩ isSubtype_stop ?_)
    exact wpAny_pure (hQ _ _ fun c o hc e => Heap.get?_push_of_some _ (Heap.get?_push_of_some _ (hs₁.extBut _ _ hc e)))
  self := fun i s Q E hI hR hQ => by
    have hit := SIt.field hI
    have hT : s.TypeIs (.ref I) "set_iterator" := ⟨_, hit, rfl⟩
    refine wpAny_pyIter_slot hT slot_setit_iter (wpAny_call_entry slot_setit_iter hT entry_setit_iter ?_ (args_setit_iter_1 _))
    show wpAny _ _ (ret (.ref I)) _ _ s
    exact wpAny_pure ⟨_, rfl, "set_iterator", _, hT, slot_setit_next.lookup, hQ⟩
end
end Mine
open PySem.SeqAt
namespace Mine
theorem entry_set_lt : entryFor table "set.__lt__" = some Builtin.«frozenset.__lt__» := entryFor_alias (id' := "frozenset.__lt__") (by kernel_rfl) rfl (by decide +kernel) (by kernel_rfl)
theorem entry_set_gt : entryFor table "set.__gt__" = some Builtin.«frozenset.__gt__» := entryFor_alias (id' := "frozenset.__gt__") (by kernel_rfl) rfl (by decide +kernel) (by kernel_rfl)
def subN (l l' : List (Nat × Tok)) : Bool := (nums l).all fun n => (nums l').contains n
section
variable {prog : Program} {w : World} {A : Around} {E : Value → Shared → Prop} {s s₁ : Shared} {L a c : Addr} {led : Bool} {l l' : List (Nat × Tok)}
theorem setState_sm2 {Q : (Array (Int × Value) × Nat × SetTable) → Shared → Prop} (hs : ∃ o, s.heap.get? a = some o ∧ Sm led l o) (h : ∀ ep, Q (smE l, ep, smTab led (nums l)) s) : wpAny (model prog w) A (setState a) Q E s := by
  obtain ⟨o, ho, hi, ep, rfl⟩ := hs
  exact wpAny_setState_of ho rfl (Sm.fits hi) (h ep)
theorem quiet_loop {α : Type} {g : Sem (List (Int × Value))} {Q : Option (List (Int × Value)) × Unit → Shared → Prop} (h : Q (none, ()) s) : ∀ (es : List (Int × Value)), (∀ e ∈ es, ∃ n t, e.2 = .int n t) →
    wpAny (model prog w) A (forIn es ((none, ()) : Option (List (Int × Value)) × Unit) fun x __s => match x with
      | (_, x) => do
        let q ← Builtin.Frozenset.quietEq x
        if (!q) = true then do
            let r ← g
            pure (ForInStep.done (some r, ()))
          else pure (ForInStep.yield (none, ()))) Q E s
  | [], _ => wpAny_pure h
  | (hh, v) :: es, hv => by
    obtain ⟨n, t, rfl⟩ := hv _ (List.mem_cons_self ..)
    rw [List.forIn_cons]
    refine wpAny_bind ?_
    dsimp only
    refine wpAny_bind (wpAny_of_eq (a := true) rfl ?_)
    simp only [Bool.not_true, Bool.false_eq_true, if_false]
    refine wpAny_pure ?_
    exact quiet_loop (α := α) h es fun e he => hv e (List.mem_cons_of_mem _ he)
theorem find_loop {id : String} {was : Nat} {Q : Option Bool × Unit → Shared → Prop} (ha : ∃ o, s.heap.get? a = some o ∧ SmAt led l was o) (hc : ∃ o, s.heap.get? c = some o ∧ Sm led l' o) : ∀ (ps : List (Nat × Tok)), (∀ p ∈ ps, p.1 < 4) → Q (if (nums ps).all fun n => (nums l').contains n then none else some false, ()) s →
    wpAny (model prog w) A (forIn (smE ps).toList ((none, ()) : Option Bool × Unit) fun x __s => match x with
      | (h, x) => do
        let r ← holding [x] (setFind c x h)
        if r.isNone = true then pure (ForInStep.done (some false, ()))
          else do
            Builtin.Frozenset.unchanged id a was
            pure (ForInStep.yield (none, ()))) Q E s
  | [], _, h => wpAny_pure h
  | (n, t) :: ps, h4, h => by
    have e1 : (smE ((n, t) :: ps)).toList = ((n : Int), Value.int (n : Int) t) :: (smE ps).toList := by simp [smE]
    rw [e1, List.forIn_cons]
    refine wpAny_bind ?_
    dsimp only
    have hn4 := h4 _ (List.mem_cons_self ..)
    have hS := Sm.setOf (prog := prog) (w := w) hc
    refine wpAny_bind (wpAny_holding ?_)
    have hh : ((n : Nat) : Int) = (intKind prog w).hash (n : Int) := by show _ = hashInt (n : Int); rw [hash_small n hn4]
    have key : ∀ Q' : Option Nat → Shared → Prop, (∀ r : Option Nat, r.isSome = (nums l').contains n → Q' r s) → wpAny (model prog w) A (setFind c (.int (n : Int) t) (n : Int)) Q' E s := fun Q' hq => by
      have := wpAny_setFind_of (E := E) (A := A) (knd := intKind prog w) (k := (n : Int)) (x := .int (n : Int) t) (Q := Q') (by simp [intKind, Value.isInt]) rfl hS (fun r hr => hq r (by
        rw [hr]
        rw [Bool.eq_iff_iff]
        simp only [List.any_eq_true, decide_eq_true_eq, List.contains_iff_mem]
        constructor
        · rintro ⟨x, hx, e⟩
          have : x = n := by omega
          rw [← this]; exact hx
        · intro hx; exact ⟨n, hx, rfl⟩))
      rw [← hh] at this
      exact this
    refine key _ fun r hr => ?_
    cases hq : (nums l').contains n with
    | true =>
      rw [hq] at hr
      have hnn : r.isNone = false := by cases r with | none => exact Bool.noConfusion hr | some _ => rfl
      rw [hnn]
      simp only [Bool.false_eq_true, if_false]
      unfold Builtin.Frozenset.unchanged setEpoch
      refine wpAny_bind ?_
      obtain ⟨o, ho, hi, rfl⟩ := ha
      refine wpAny_bind (wpAny_bind (wpAny_setState_of ho rfl (Sm.fits hi) (wpAny_pure ?_)))
      refine wpAny_ite_split (fun hc => absurd hc (by simp)) (fun _ => ?_)
      refine wpAny_pure (wpAny_pure ?_)
      refine find_loop ⟨_, ho, hi, rfl⟩ hc ps (fun p hp => h4 p (List.mem_cons_of_mem _ hp)) ?_
      have : ((nums ((n, t) :: ps)).all fun n => (nums l').contains n) = ((nums ps).all fun n => (nums l').contains n) := by simp only [nums, List.map_cons, List.all_cons]; rw [show (List.map (fun x => x.1) l').contains n = true from hq]; rfl
      rw [this] at h
      exact h
    | false =>
      rw [hq] at hr
      have hnn : r.isNone = true := by cases r with | none => rfl | some _ => exact Bool.noConfusion hr
      rw [hnn]
      simp only [if_true]
      refine wpAny_pure (wpAny_pure ?_)
      have : ((nums ((n, t) :: ps)).all fun n => (nums l').contains n) = false := by simp only [nums, List.map_cons, List.all_cons]; rw [show (List.map (fun x => x.1) l').contains n = false from hq]; rfl
      rw [this] at h
      exact h
theorem smE_int (l : List (Nat × Tok)) : ∀ e ∈ (smE l).toList, ∃ n t, e.2 = .int n t := by
  intro e he
  simp only [smE, List.mem_map] at he
  obtain ⟨p, _, rfl⟩ := he
  exact ⟨_, _, rfl⟩
theorem subset_sm {id : String} {Q : Bool → Shared → Prop} (ha : ∃ o, s.heap.get? a = some o ∧ Sm led l o) (hc : ∃ o, s.heap.get? c = some o ∧ Sm led l' o) (hle : (nums l).length ≤ (nums l').length) (h : Q (subN l l') s) :
    wpAny (model prog w) A (Builtin.Frozenset.subsetOf id a c) Q E s := by
  unfold Builtin.Frozenset.subsetOf Builtin.Frozenset.sizeOf setEntries
  refine wpAny_bind (wpAny_bind (wpAny_bind (setState_sm2 ha fun ep => wpAny_pure (wpAny_pure ?_))))
  refine wpAny_bind (wpAny_bind (wpAny_bind (setState_sm2 hc fun ep' => wpAny_pure (wpAny_pure ?_))))
  refine wpAny_ite_split (fun hc => absurd hc (by rw [smE_size, smE_size]; omega)) (fun _ => ?_)
  obtain ⟨ep0, ha0⟩ := Sm.at ha
  unfold setEpoch
  have hst : ∀ {A' : Around} {Q' : (Array (Int × Value) × Nat × SetTable) → Shared → Prop}, Q' (smE l, ep0, smTab led (nums l)) s → wpAny (model prog w) A' (setState a) Q' E s := fun {A' Q'} hq => by
    obtain ⟨o, ho, hi, rfl⟩ := ha0
    exact wpAny_setState_of ho rfl (Sm.fits hi) hq
  refine wpAny_bind (wpAny_bind (hst (wpAny_pure ?_)))
  unfold Builtin.Frozenset.walkUnseen setEntries
  refine wpAny_bind (wpAny_bind (wpAny_bind (hst (wpAny_pure ?_))))
  refine wpAny_bind (wpAny_bind (setState_sm2 hc fun ep2 => wpAny_pure ?_))
  refine wpAny_bind (quiet_loop (α := Unit) ?_ _ (fun e he => ?_))
  · dsimp only
    refine wpAny_pure ?_
    have h4 : ∀ p ∈ l, p.1 < 4 := fun p hp => by
      obtain ⟨o, ho, hi, _⟩ := ha
      have : ∀ pl ∈ subs4, ∀ n ∈ pl, n < 4 := by decide +kernel
      exact this _ hi _ (List.mem_map.mpr ⟨p, hp, rfl⟩)
    refine wpAny_bind (find_loop ha0 hc l h4 ?_)
    cases hq : ((nums l).all fun n => (nums l').contains n) with
    | true =>
      simp only [if_true]
      have : subN l l' = true := hq
      rw [this] at h
      exact wpAny_pure h
    | false =>
      simp only [Bool.false_eq_true, if_false]
      have : subN l l' = false := hq
      rw [this] at h
      exact wpAny_pure h
  · rcases List.mem_append.mp he with q | q
    · exact smE_int l e q
    · exact smE_int l' e q
end
theorem set_ltM (a c : Addr) (led : Bool) (l l' : List (Nat × Tok)) :
    Meets (Builtin.«frozenset.__lt__» ⟨[.ref a, .ref c], []⟩) (fun _ R s => (∃ o, s.heap.get? a = some o ∧ Sm led l o) ∧ (∃ o, s.heap.get? c = some o ∧ Sm led l' o) ∧ R (.ok (.ret (.bool (decide ((nums l).length < (nums l').length) && subN l l')))) s) := by
  intro prog w A R s h
  obtain ⟨ha, hc, h⟩ := h
  obtain ⟨oc, hoc, hic, epc, ec⟩ := id hc
  have hT : s.TypeIs (.ref c) "set" := ⟨oc, hoc, by rw [ec]⟩
  show wpAny _ _ (Builtin.Frozenset.slot1 "__lt__" ⟨[.ref a, .ref c], []⟩ >>= _) _ _ _
  refine wpAny_bind (wpAny_of_eq (a := (Value.ref a, Value.ref c)) rfl ?_)
  dsimp only
  unfold Builtin.Frozenset.isAnySet
  refine wpAny_bind (wpAny_bind (wpAny_isInstance (T := "set") (b := true) hT sub_set_self ?_))
  refine wpAny_pure ?_
  simp only [Bool.not_true, Bool.false_eq_true, if_false]
  refine wpAny_bind (wpAny_of_eq (a := a) rfl ?_)
  refine wpAny_bind (wpAny_of_eq (a := c) rfl ?_)
  unfold Builtin.Frozenset.sizeOf setEntries
  refine wpAny_bind (wpAny_bind (wpAny_bind (setState_sm2 ha fun ep => wpAny_pure (wpAny_pure ?_))))
  refine wpAny_bind (wpAny_bind (wpAny_bind (setState_sm2 hc fun ep' => wpAny_pure (wpAny_pure ?_))))
  dsimp only
  rw [smE_size, smE_size]
  refine wpAny_ite_split (fun hq => ?_) (fun hq => ?_)
  · have e : (decide ((nums l).length < (nums l').length) && subN l l') = false := by rw [decide_eq_false (by omega)]; rfl
    rw [e] at h
    exact wpAny_pure h
  · refine wpAny_bind (subset_sm (led := led) ha hc (by omega) (wpAny_pure ?_))
    have e : decide ((nums l).length < (nums l').length) = true := decide_eq_true (by omega)
    rw [e, Bool.true_and] at h
    exact h
theorem OrdAt.sets_lt {A : Around} {s : Shared} {a c : Addr} {led : Bool} {l l' : List (Nat × Tok)} (ha : ∃ o, s.heap.get? a = some o ∧ Sm led l o) (hc : ∃ o, s.heap.get? c = some o ∧ Sm led l' o) (hu : A.units < cLine) :
    OrdAt .Lt A s (.ref a) (.ref c) (decide ((nums l).length < (nums l').length) && subN l l') := fun prog w E Q h => by
  obtain ⟨oa, hoa, hia, epa, ea⟩ := id ha
  obtain ⟨oc, hoc, hic, epc, ec⟩ := id hc
  exact richCompare_meets_room (op := .Lt) (T := "set") ⟨oa, hoa, by rw [ea]⟩ ⟨oc, hoc, by rw [ec]⟩ F.slot_set_lt entry_set_lt (F.args_set_lt_2 _ _) (set_ltM a c led l l')
    ⟨ha, hc, show Value.bool _ ≠ Value.notImplemented ∧ Q (.bool _) s from ⟨(fun x => nomatch x), h⟩⟩ hu
theorem set_gtM (a c : Addr) (led : Bool) (l l' : List (Nat × Tok)) :
    Meets (Builtin.«frozenset.__gt__» ⟨[.ref a, .ref c], []⟩) (fun _ R s => (∃ o, s.heap.get? a = some o ∧ Sm led l o) ∧ (∃ o, s.heap.get? c = some o ∧ Sm led l' o) ∧ R (.ok (.ret (.bool (decide ((nums l').length < (nums l).length) && subN l' l)))) s) := by
  intro prog w A R s h
  obtain ⟨ha, hc, h⟩ := h
  obtain ⟨oc, hoc, hic, epc, ec⟩ := id hc
  have hT : s.TypeIs (.ref c) "set" := ⟨oc, hoc, by rw [ec]⟩
  show wpAny _ _ (Builtin.Frozenset.slot1 "__gt__" ⟨[.ref a, .ref c], []⟩ >>= _) _ _ _
  refine wpAny_bind (wpAny_of_eq (a := (Value.ref a, Value.ref c)) rfl ?_)
  dsimp only
  unfold Builtin.Frozenset.isAnySet
  refine wpAny_bind (wpAny_bind (wpAny_isInstance (T := "set") (b := true) hT sub_set_self ?_))
  refine wpAny_pure ?_
  simp only [Bool.not_true, Bool.false_eq_true, if_false]
  refine wpAny_bind (wpAny_of_eq (a := a) rfl ?_)
  refine wpAny_bind (wpAny_of_eq (a := c) rfl ?_)
  unfold Builtin.Frozenset.sizeOf setEntries
  refine wpAny_bind (wpAny_bind (wpAny_bind (setState_sm2 ha fun ep => wpAny_pure (wpAny_pure ?_))))
  refine wpAny_bind (wpAny_bind (wpAny_bind (setState_sm2 hc fun ep' => wpAny_pure (wpAny_pure ?_))))
  dsimp only
  rw [smE_size, smE_size]
  refine wpAny_ite_split (fun hq => ?_) (fun hq => ?_)
  · have e : (decide ((nums l').length < (nums l).length) && subN l' l) = false := by rw [decide_eq_false (by omega)]; rfl
    rw [e] at h
    exact wpAny_pure h
  · refine wpAny_bind (subset_sm (led := led) hc ha (by omega) (wpAny_pure ?_))
    have e : decide ((nums l').length < (nums l).length) = true := decide_eq_true (by omega)
    rw [e, Bool.true_and] at h
    exact h
theorem OrdAt.sets_gt {A : Around} {s : Shared} {a c : Addr} {led : Bool} {l l' : List (Nat × Tok)} (ha : ∃ o, s.heap.get? a = some o ∧ Sm led l o) (hc : ∃ o, s.heap.get? c = some o ∧ Sm led l' o) (hu : A.units < cLine) :
    OrdAt .Gt A s (.ref a) (.ref c) (decide ((nums l').length < (nums l).length) && subN l' l) := fun prog w E Q h => by
  obtain ⟨oa, hoa, hia, epa, ea⟩ := id ha
  obtain ⟨oc, hoc, hic, epc, ec⟩ := id hc
  exact richCompare_meets_room (op := .Gt) (T := "set") ⟨oa, hoa, by rw [ea]⟩ ⟨oc, hoc, by rw [ec]⟩ F.slot_set_gt entry_set_gt (F.args_set_gt_2 _ _) (set_gtM a c led l l')
    ⟨ha, hc, show Value.bool _ ≠ Value.notImplemented ∧ Q (.bool _) s from ⟨(fun x => nomatch x), h⟩⟩ hu
end Mine
open PySem.SeqAt
open PySem.AutoSeq1 (wpAny_loadPart')
namespace Mine
section
variable {prog : Program} {w : World} {A : Around} {E : Value → Shared → Prop} {s : Shared}
theorem gt_declined {a b : Value} {Ta Tb ida idb : String} {Q : Value → Shared → Prop} (hh : A.handled = none) (ha : s.TypeIs a Ta) (hb : s.TypeIs b Tb)
    (hne : (Value.type Ta != Value.type Tb) = true) (hsub : isSubtype (.type Tb) (.type Ta) = pure false) (h1 : Slot Ta (cmpInfo .Gt).2.1 ida) (h2 : Slot Tb (cmpInfo .Gt).2.2 idb)
    (hna : (Value.type Ta == Value.type "builtin_function_or_method") = false) (hnb : (Value.type Tb == Value.type "builtin_function_or_method") = false)
    (hc1 : ∀ {Q' : Value → Shared → Prop} {A' : Around}, Q' .notImplemented s → wpAny (model prog w) A' (call (.builtin ida) [a, b]) Q' E s)
    (hc2 : ∀ {Q' : Value → Shared → Prop} {A' : Around}, Q' .notImplemented s → wpAny (model prog w) A' (call (.builtin idb) [b, a]) Q' E s)
    (hu : A.units < cLine) (hTa : (shownName Ta).length ≤ 1000) (hTb : (shownName Tb).length ≤ 1000)
    (h : ∀ h' tk e, Heap.NewExc s.heap h' e "TypeError" → E (.ref e) { s with heap := h', toks := tk }) :
    wpAny (model prog w) A (richCompare .Gt a b) Q E s := by
  simp only [richCompare, cmpInfo, ha.oneThing_none] at h1 h2 ⊢
  refine wpAny_holding ?_
  refine wpAny_bind (wpAny_cRoomFor_or (.inr hu) ?_)
  refine wpAny_bind (wpAny_typeOf ha (wpAny_bind (wpAny_typeOf hb ?_)))
  simp only [hne, if_true]
  refine wpAny_bind (wpAny_of_eq hsub ?_)
  simp only [Bool.false_eq_true, if_false, Bool.not_false, if_true]
  refine wpAny_bind (m := tryCompare a _ b) (wpAny_tryCompare_declines ha h1 (hc1 ⟨rfl, ?_⟩))
  refine wpAny_bind (m := tryCompare b _ a) (wpAny_tryCompare_declines hb h2 (hc2 ⟨rfl, ?_⟩))
  refine wpAny_bind (wpAny_rule (wpAny_bind (wpAny_typeNameOf' ha hna (wpAny_bind (wpAny_typeNameOf' hb hnb (wpAny_raiseTypeError hh h ?_))))))
  refine Nat.le_trans (m := 4000) ?_ (by rw [sizeLine_eq]; decide)
  show (Str.ofString _).length ≤ 4000
  rw [PySem.ofString_length]
  simp only [String.length_append, toString]
  have e1 : "'".length ≤ 100 := by decide
  have e2 : ">".length ≤ 100 := by decide
  have e3 : "' not supported between instances of '".length ≤ 100 := by decide
  have e4 : "' and '".length ≤ 100 := by decide
  omega
end
inductive Kin (s : Shared) : Value → String → Prop
  | int (n : Int) (t : Tok) : Kin s (.int n t) "int"
  | str (x : Str) (t : Tok) : Kin s (.str x t) "str"
  | list {a : Addr} {vs : Array Value} {n : Nat} {dd : Option Addr} {sl : Array (Option Value)} (h : s.heap.get? a = some { cls := .type "list", dict := dd, data := .seq vs n, slots := sl }) : Kin s (.ref a) "list"
  | set {a : Addr} {es : Array (Int × Value)} {ep : Nat} {t : SetTable} {dd : Option Addr} {sl : Array (Option Value)} (h : s.heap.get? a = some { cls := .type "set", dict := dd, data := .set es ep t, slots := sl }) : Kin s (.ref a) "set"
theorem Kin.type {s : Shared} {v : Value} {T : String} (h : Kin s v T) : s.TypeIs v T := by
  cases h with
  | int => rfl
  | str => rfl
  | list h => exact ⟨_, h, rfl⟩
  | set h => exact ⟨_, h, rfl⟩

theorem int_lt_no_list (b : Int) (u : Tok) (l : Addr) (c : Value) (es : Array Value) (n : Nat) (dd : Option Addr) (sl : Array (Option Value)) :
    Meets (Builtin.«int.__lt__» ⟨[.int b u, .ref l], []⟩) (fun _ R s => s.heap.get? l = some { cls := c, dict := dd, data := .seq es n, slots := sl } ∧ R (.ok (.ret .notImplemented)) s) :=
  .of_wp fun prog w A R s h => by obtain ⟨hp, g, d, tk, os⟩ := s; obtain ⟨hl, h⟩ := h; wp_walk using wpAny_loadPart' hl, wpAny_load hl; exact ⟨_, rfl, h⟩
theorem int_lt_no_set (b : Int) (u : Tok) (l : Addr) (c : Value) (es : Array (Int × Value)) (n : Nat) (t : SetTable) (dd : Option Addr) (sl : Array (Option Value)) :
    Meets (Builtin.«int.__lt__» ⟨[.int b u, .ref l], []⟩) (fun _ R s => s.heap.get? l = some { cls := c, dict := dd, data := .set es n t, slots := sl } ∧ R (.ok (.ret .notImplemented)) s) :=
  .of_wp fun prog w A R s h => by obtain ⟨hp, g, d, tk, os⟩ := s; obtain ⟨hl, h⟩ := h; wp_walk using wpAny_loadPart' hl, wpAny_load hl; exact ⟨_, rfl, h⟩
theorem str_lt_no_list (b : Str) (u : Tok) (l : Addr) (c : Value) (es : Array Value) (n : Nat) (dd : Option Addr) (sl : Array (Option Value)) :
    Meets (Builtin.«str.__lt__» ⟨[.str b u, .ref l], []⟩) (fun _ R s => s.heap.get? l = some { cls := c, dict := dd, data := .seq es n, slots := sl } ∧ R (.ok (.ret .notImplemented)) s) :=
  .of_wp fun prog w A R s h => by obtain ⟨hp, g, d, tk, os⟩ := s; obtain ⟨hl, h⟩ := h; wp_walk using wpAny_loadPart' hl, wpAny_load hl; exact ⟨_, rfl, h⟩
theorem str_lt_no_set (b : Str) (u : Tok) (l : Addr) (c : Value) (es : Array (Int × Value)) (n : Nat) (t : SetTable) (dd : Option Addr) (sl : Array (Option Value)) :
    Meets (Builtin.«str.__lt__» ⟨[.str b u, .ref l], []⟩) (fun _ R s => s.heap.get? l = some { cls := c, dict := dd, data := .set es n t, slots := sl } ∧ R (.ok (.ret .notImplemented)) s) :=
  .of_wp fun prog w A R s h => by obtain ⟨hp, g, d, tk, os⟩ := s; obtain ⟨hl, h⟩ := h; wp_walk using wpAny_loadPart' hl, wpAny_load hl; exact ⟨_, rfl, h⟩
section
variable {prog : Program} {w : World} {A : Around} {E : Value → Shared → Prop} {s : Shared} {x y : Value} {a : Addr} {U : String} {Q : Value → Shared → Prop}
theorem set_lt_no (ha : s.TypeIs (.ref a) "set") (hx : s.TypeIs x U) (hs : isSubtype (.type U) (.type "set") = pure false) (hs2 : isSubtype (.type U) (.type "frozenset") = pure false) (h : Q .notImplemented s) : wpAny (model prog w) A (call (.builtin "set.__lt__") [.ref a, x]) Q E s := by
  refine wpAny_call_entry F.slot_set_lt ha entry_set_lt ?_ (F.args_set_lt_2 _ _)
  show wpAny _ _ (Builtin.Frozenset.slot1 "__lt__" ⟨[.ref a, x], []⟩ >>= _) _ _ s
  refine wpAny_bind ?_
  show wpAny _ _ (pure (Value.ref a, x)) _ _ s
  refine wpAny_pure ?_
  refine wpAny_bind ?_
  unfold Builtin.Frozenset.isAnySet
  refine wpAny_bind (wpAny_isInstance (T := U) hx hs ?_)
  simp only [Bool.false_eq_true, if_false]
  refine wpAny_isInstance (T := U) hx hs2 ?_
  simp only [Bool.not_false, if_true]
  refine wpAny_bind (wpAny_rule ?_)
  exact wpAny_bind (wpAny_pure (wpAny_pure ⟨_, rfl, h⟩))
theorem list_lt_no (ha : s.TypeIs (.ref a) "list") (hx : s.TypeIs x U) (hs : isSubtype (.type U) (.type "list") = pure false) (h : Q .notImplemented s) : wpAny (model prog w) A (call (.builtin "list.__lt__") [.ref a, x]) Q E s := by
  refine wpAny_call_entry F.slot_list_lt ha F.entry_list_lt ?_ (F.args_list_lt_2 _ _)
  show wpAny _ _ (isInstance x (.type "list") >>= _) _ _ s
  refine wpAny_bind (wpAny_isInstance (T := U) hx hs ?_)
  simp only [Bool.not_false, if_true]
  exact wpAny_bind (wpAny_pure (wpAny_pure ⟨_, rfl, h⟩))
theorem int_lt_no {n : Int} {t : Tok} (hx : Kin s x U) (hU : U ≠ "int") (h : Q .notImplemented s) : wpAny (model prog w) A (call (.builtin "int.__lt__") [.int n t, x]) Q E s := by
  cases hx with
  | int => exact absurd rfl hU
  | str => exact wpAny_call_entry F.slot_int_lt (typeIs_int s n t) F.entry_int_lt (show wpAny _ _ (do rule "int.binary.not-an-int"; ret .notImplemented) _ _ s from wpAny_bind (wpAny_rule (wpAny_pure ⟨_, rfl, h⟩))) (F.args_int_lt_2 _ _)
  | list hl => exact call_meets F.slot_int_lt (typeIs_int s n t) F.entry_int_lt (F.args_int_lt_2 _ _) (int_lt_no_list _ _ _ _ _ _ _ _) ⟨hl, h⟩
  | set hl => exact call_meets F.slot_int_lt (typeIs_int s n t) F.entry_int_lt (F.args_int_lt_2 _ _) (int_lt_no_set _ _ _ _ _ _ _ _ _) ⟨hl, h⟩
theorem str_lt_no {n : Str} {t : Tok} (hx : Kin s x U) (hU : U ≠ "str") (h : Q .notImplemented s) : wpAny (model prog w) A (call (.builtin "str.__lt__") [.str n t, x]) Q E s := by
  cases hx with
  | int => exact wpAny_call_entry F.slot_str_lt (typeIs_str s n t) F.entry_str_lt (show wpAny _ _ (do rule "str.__lt__.not-a-str"; ret .notImplemented) _ _ s from wpAny_bind (wpAny_rule (wpAny_pure ⟨_, rfl, h⟩))) (F.args_str_lt_2 _ _)
  | str => exact absurd rfl hU
  | list hl => exact call_meets F.slot_str_lt (typeIs_str s n t) F.entry_str_lt (F.args_str_lt_2 _ _) (str_lt_no_list _ _ _ _ _ _ _ _) ⟨hl, h⟩
  | set hl => exact call_meets F.slot_str_lt (typeIs_str s n t) F.entry_str_lt (F.args_str_lt_2 _ _) (str_lt_no_set _ _ _ _ _ _ _ _ _) ⟨hl, h⟩
end
theorem int_gt_no_list (b : Int) (u : Tok) (l : Addr) (c : Value) (es : Array Value) (n : Nat) (dd : Option Addr) (sl : Array (Option Value)) :
    Meets (Builtin.«int.__gt__» ⟨[.int b u, .ref l], []⟩) (fun _ R s => s.heap.get? l = some { cls := c, dict := dd, data := .seq es n, slots := sl } ∧ R (.ok (.ret .notImplemented)) s) :=
  .of_wp fun prog w A R s h => by obtain ⟨hp, g, d, tk, os⟩ := s; obtain ⟨hl, h⟩ := h; wp_walk using wpAny_loadPart' hl, wpAny_load hl; exact ⟨_, rfl, h⟩
theorem int_gt_no_set (b : Int) (u : Tok) (l : Addr) (c : Value) (es : Array (Int × Value)) (n : Nat) (t : SetTable) (dd : Option Addr) (sl : Array (Option Value)) :
    Meets (Builtin.«int.__gt__» ⟨[.int b u, .ref l], []⟩) (fun _ R s => s.heap.get? l = some { cls := c, dict := dd, data := .set es n t, slots := sl } ∧ R (.ok (.ret .notImplemented)) s) :=
  .of_wp fun prog w A R s h => by obtain ⟨hp, g, d, tk, os⟩ := s; obtain ⟨hl, h⟩ := h; wp_walk using wpAny_loadPart' hl, wpAny_load hl; exact ⟨_, rfl, h⟩
theorem str_gt_no_list (b : Str) (u : Tok) (l : Addr) (c : Value) (es : Array Value) (n : Nat) (dd : Option Addr) (sl : Array (Option Value)) :
    Meets (Builtin.«str.__gt__» ⟨[.str b u, .ref l], []⟩) (fun _ R s => s.heap.get? l = some { cls := c, dict := dd, data := .seq es n, slots := sl } ∧ R (.ok (.ret .notImplemented)) s) :=
  .of_wp fun prog w A R s h => by obtain ⟨hp, g, d, tk, os⟩ := s; obtain ⟨hl, h⟩ := h; wp_walk using wpAny_loadPart' hl, wpAny_load hl; exact ⟨_, rfl, h⟩
theorem str_gt_no_set (b : Str) (u : Tok) (l : Addr) (c : Value) (es : Array (Int × Value)) (n : Nat) (t : SetTable) (dd : Option Addr) (sl : Array (Option Value)) :
    Meets (Builtin.«str.__gt__» ⟨[.str b u, .ref l], []⟩) (fun _ R s => s.heap.get? l = some { cls := c, dict := dd, data := .set es n t, slots := sl } ∧ R (.ok (.ret .notImplemented)) s) :=
  .of_wp fun prog w A R s h => by obtain ⟨hp, g, d, tk, os⟩ := s; obtain ⟨hl, h⟩ := h; wp_walk using wpAny_loadPart' hl, wpAny_load hl; exact ⟨_, rfl, h⟩
section
variable {prog : Program} {w : World} {A : Around} {E : Value → Shared → Prop} {s : Shared} {x y : Value} {a : Addr} {U : String} {Q : Value → Shared → Prop}
theorem set_gt_no (ha : s.TypeIs (.ref a) "set") (hx : s.TypeIs x U) (hs : isSubtype (.type U) (.type "set") = pure false) (hs2 : isSubtype (.type U) (.type "frozenset") = pure false) (h : Q .notImplemented s) : wpAny (model prog w) A (call (.builtin "set.__gt__") [.ref a, x]) Q E s := by
  refine wpAny_call_entry F.slot_set_gt ha entry_set_gt ?_ (F.args_set_gt_2 _ _)
  show wpAny _ _ (Builtin.Frozenset.slot1 "__gt__" ⟨[.ref a, x], []⟩ >>= _) _ _ s
  refine wpAny_bind ?_
  show wpAny _ _ (pure (Value.ref a, x)) _ _ s
  refine wpAny_pure ?_
  refine wpAny_bind ?_
  unfold Builtin.Frozenset.isAnySet
  refine wpAny_bind (wpAny_isInstance (T := U) hx hs ?_)
  simp only [Bool.false_eq_true, if_false]
  refine wpAny_isInstance (T := U) hx hs2 ?_
  simp only [Bool.not_false, if_true]
  refine wpAny_bind (wpAny_rule ?_)
  exact wpAny_bind (wpAny_pure (wpAny_pure ⟨_, rfl, h⟩))
theorem list_gt_no (ha : s.TypeIs (.ref a) "list") (hx : s.TypeIs x U) (hs : isSubtype (.type U) (.type "list") = pure false) (h : Q .notImplemented s) : wpAny (model prog w) A (call (.builtin "list.__gt__") [.ref a, x]) Q E s := by
  refine wpAny_call_entry F.slot_list_gt ha F.entry_list_gt ?_ (F.args_list_gt_2 _ _)
  show wpAny _ _ (isInstance x (.type "list") >>= _) _ _ s
  refine wpAny_bind (wpAny_isInstance (T := U) hx hs ?_)
  simp only [Bool.not_false, if_true]
  exact wpAny_bind (wpAny_pure (wpAny_pure ⟨_, rfl, h⟩))
theorem int_gt_no {n : Int} {t : Tok} (hx : Kin s x U) (hU : U ≠ "int") (h : Q .notImplemented s) : wpAny (model prog w) A (call (.builtin "int.__gt__") [.int n t, x]) Q E s := by
  cases hx with
  | int => exact absurd rfl hU
  | str => exact wpAny_call_entry F.slot_int_gt (typeIs_int s n t) F.entry_int_gt (show wpAny _ _ (do rule "int.binary.not-an-int"; ret .notImplemented) _ _ s from wpAny_bind (wpAny_rule (wpAny_pure ⟨_, rfl, h⟩))) (F.args_int_gt_2 _ _)
  | list hl => exact call_meets F.slot_int_gt (typeIs_int s n t) F.entry_int_gt (F.args_int_gt_2 _ _) (int_gt_no_list _ _ _ _ _ _ _ _) ⟨hl, h⟩
  | set hl => exact call_meets F.slot_int_gt (typeIs_int s n t) F.entry_int_gt (F.args_int_gt_2 _ _) (int_gt_no_set _ _ _ _ _ _ _ _ _) ⟨hl, h⟩
theorem str_gt_no {n : Str} {t : Tok} (hx : Kin s x U) (hU : U ≠ "str") (h : Q .notImplemented s) : wpAny (model prog w) A (call (.builtin "str.__gt__") [.str n t, x]) Q E s := by
  cases hx with
  | int => exact wpAny_call_entry F.slot_str_gt (typeIs_str s n t) F.entry_str_gt (show wpAny _ _ (do rule "str.__gt__.not-a-str"; ret .notImplemented) _ _ s from wpAny_bind (wpAny_rule (wpAny_pure ⟨_, rfl, h⟩))) (F.args_str_gt_2 _ _)
  | str => exact absurd rfl hU
  | list hl => exact call_meets F.slot_str_gt (typeIs_str s n t) F.entry_str_gt (F.args_str_gt_2 _ _) (str_gt_no_list _ _ _ _ _ _ _ _) ⟨hl, h⟩
  | set hl => exact call_meets F.slot_str_gt (typeIs_str s n t) F.entry_str_gt (F.args_str_gt_2 _ _) (str_gt_no_set _ _ _ _ _ _ _ _ _) ⟨hl, h⟩
end
section
variable {prog : Program} {w : World} {A : Around} {E : Value → Shared → Prop} {s : Shared} {x y : Value} {T U : String} {Q : Value → Shared → Prop}
theorem gt_raises (hx : Kin s x T) (hy : Kin s y U) (hne : T ≠ U) (hh : A.handled = none) (hu : A.units < cLine)
    (h : ∀ h' tk e, Heap.NewExc s.heap h' e "TypeError" → E (.ref e) { s with heap := h', toks := tk }) :
    wpAny (model prog w) A (richCompare .Gt x y) Q E s := by
  cases hx with
  | int n t =>
    cases hy with
    | int m u => exact absurd rfl hne
    | str m u =>
      exact gt_declined hh (Kin.type (Kin.int n t)) (Kin.type (Kin.str m u)) (by decide) F.sub_str_int F.slot_int_gt F.slot_str_lt_refl (by decide) (by decide)
        (fun hq => int_gt_no (U := "str") (Kin.str m u) (by decide) hq) (fun hq => str_lt_no (U := "int") (Kin.int n t) (by decide) hq) hu (by decide) (by decide) h
    | list hm =>
      exact gt_declined hh (Kin.type (Kin.int n t)) (Kin.type (Kin.list hm)) (by decide) F.sub_list_int F.slot_int_gt F.slot_list_lt_refl (by decide) (by decide)
        (fun hq => int_gt_no (U := "list") (Kin.list hm) (by decide) hq) (fun hq => list_lt_no (Kin.type (Kin.list hm)) (Kin.type (Kin.int n t)) F.sub_int_list hq) hu (by decide) (by decide) h
    | set hm =>
      exact gt_declined hh (Kin.type (Kin.int n t)) (Kin.type (Kin.set hm)) (by decide) F.sub_set_int F.slot_int_gt F.slot_set_lt_refl (by decide) (by decide)
        (fun hq => int_gt_no (U := "set") (Kin.set hm) (by decide) hq) (fun hq => set_lt_no (Kin.type (Kin.set hm)) (Kin.type (Kin.int n t)) F.sub_int_set F.sub_int_frozenset hq) hu (by decide) (by decide) h
  | str n t =>
    cases hy with
    | int m u =>
      exact gt_declined hh (Kin.type (Kin.str n t)) (Kin.type (Kin.int m u)) (by decide) F.sub_int_str F.slot_str_gt F.slot_int_lt_refl (by decide) (by decide)
        (fun hq => str_gt_no (U := "int") (Kin.int m u) (by decide) hq) (fun hq => int_lt_no (U := "str") (Kin.str n t) (by decide) hq) hu (by decide) (by decide) h
    | str m u => exact absurd rfl hne
    | list hm =>
      exact gt_declined hh (Kin.type (Kin.str n t)) (Kin.type (Kin.list hm)) (by decide) F.sub_list_str F.slot_str_gt F.slot_list_lt_refl (by decide) (by decide)
        (fun hq => str_gt_no (U := "list") (Kin.list hm) (by decide) hq) (fun hq => list_lt_no (Kin.type (Kin.list hm)) (Kin.type (Kin.str n t)) F.sub_str_list hq) hu (by decide) (by decide) h
    | set hm =>
      exact gt_declined hh (Kin.type (Kin.str n t)) (Kin.type (Kin.set hm)) (by decide) F.sub_set_str F.slot_str_gt F.slot_set_lt_refl (by decide) (by decide)
        (fun hq => str_gt_no (U := "set") (Kin.set hm) (by decide) hq) (fun hq => set_lt_no (Kin.type (Kin.set hm)) (Kin.type (Kin.str n t)) F.sub_str_set F.sub_str_frozenset hq) hu (by decide) (by decide) h
  | list hl =>
    cases hy with
    | int m u =>
      exact gt_declined hh (Kin.type (Kin.list hl)) (Kin.type (Kin.int m u)) (by decide) F.sub_int_list F.slot_list_gt F.slot_int_lt_refl (by decide) (by decide)
        (fun hq => list_gt_no (Kin.type (Kin.list hl)) (Kin.type (Kin.int m u)) F.sub_int_list hq) (fun hq => int_lt_no (U := "list") (Kin.list hl) (by decide) hq) hu (by decide) (by decide) h
    | str m u =>
      exact gt_declined hh (Kin.type (Kin.list hl)) (Kin.type (Kin.str m u)) (by decide) F.sub_str_list F.slot_list_gt F.slot_str_lt_refl (by decide) (by decide)
        (fun hq => list_gt_no (Kin.type (Kin.list hl)) (Kin.type (Kin.str m u)) F.sub_str_list hq) (fun hq => str_lt_no (U := "list") (Kin.list hl) (by decide) hq) hu (by decide) (by decide) h
    | list hm => exact absurd rfl hne
    | set hm =>
      exact gt_declined hh (Kin.type (Kin.list hl)) (Kin.type (Kin.set hm)) (by decide) F.sub_set_list F.slot_list_gt F.slot_set_lt_refl (by decide) (by decide)
        (fun hq => list_gt_no (Kin.type (Kin.list hl)) (Kin.type (Kin.set hm)) F.sub_set_list hq) (fun hq => set_lt_no (Kin.type (Kin.set hm)) (Kin.type (Kin.list hl)) F.sub_list_set F.sub_list_frozenset hq) hu (by decide) (by decide) h
  | set hl =>
    cases hy with
    | int m u =>
      exact gt_declined hh (Kin.type (Kin.set hl)) (Kin.type (Kin.int m u)) (by decide) F.sub_int_set F.slot_set_gt F.slot_int_lt_refl (by decide) (by decide)
        (fun hq => set_gt_no (Kin.type (Kin.set hl)) (Kin.type (Kin.int m u)) F.sub_int_set F.sub_int_frozenset hq) (fun hq => int_lt_no (U := "set") (Kin.set hl) (by decide) hq) hu (by decide) (by decide) h
    | str m u =>
      exact gt_declined hh (Kin.type (Kin.set hl)) (Kin.type (Kin.str m u)) (by decide) F.sub_str_set F.slot_set_gt F.slot_str_lt_refl (by decide) (by decide)
        (fun hq => set_gt_no (Kin.type (Kin.set hl)) (Kin.type (Kin.str m u)) F.sub_str_set F.sub_str_frozenset hq) (fun hq => str_lt_no (U := "set") (Kin.set hl) (by decide) hq) hu (by decide) (by decide) h
    | list hm =>
      exact gt_declined hh (Kin.type (Kin.set hl)) (Kin.type (Kin.list hm)) (by decide) F.sub_list_set F.slot_set_gt F.slot_list_lt_refl (by decide) (by decide)
        (fun hq => set_gt_no (Kin.type (Kin.set hl)) (Kin.type (Kin.list hm)) F.sub_list_set F.sub_list_frozenset hq) (fun hq => list_lt_no (Kin.type (Kin.list hm)) (Kin.type (Kin.set hl)) F.sub_set_list hq) hu (by decide) (by decide) h
    | set hm => exact absurd rfl hne
end
end Mine
namespace Mine
theorem Upd.app {a : Addr} {P P' : Obj → Prop} {H H' : List Ent} (U : Upd a P P' H H') : ∀ X : List Ent, Upd a P P' (X ++ H) (X ++ H')
  | [] => U
  | p :: X => .tail _ (Upd.app U X)
section
variable {prog : Program} {w : World} {A : Around} {E : Value → Shared → Prop} {s s₁ : Shared} {L I l D C : Addr} {b : List (Str × Value)} {H H' : List Ent} {env : Env}
/-- a list comprehension whose clause's target is a pair of names: the loop -/
theorem comp_loopP {fp wr : List Addr} {n : Nat} {Pt : Nat → Array Value → Prop} {Stt : Nat → Heap → Prop} {Mid : Nat → Addr → Heap → Prop} {x y : Str} {px py pt pos : Pos} {x1 : Nat} {elt iter : Expr} {scope : Scope} {RR : Result → Shared → Prop} {bC : List (Str × Value)}
    (W : WalksU prog w A I fp wr n Pt Stt Mid) (X : Nat → List Ent) (J : Nat → List Value → List Ent → Prop) (hXa : ∀ i, (X i).map (·.1) = wr)
    (hXs : ∀ i ys b' H' s', J i ys H' → St s₁ C b' (X i ++ (D, Lst ys) :: (L, Frm b) :: H') s' → Stt i s'.heap) (hXr : ∀ i h, Stt i h → ∀ p ∈ X i, ∃ o, h.get? p.1 = some o ∧ p.2 o)
    (hPt : ∀ i vals, Pt i vals → ∃ v0 v1, vals = #[v0, v1])
    (S : St s₁ C bC (X 0 ++ (D, Lst []) :: (L, Frm b) :: H) s) (h0 : J 0 [] H) (hn : n ≤ sizeLine) (hh : A.handled = none) (hxy : x ≠ y)
    (hx : env.kindOf x = some .local) (hy : env.kindOf y = some .local) (hL : env.locals = C) (hk : env.scope.kind = .function)
    (turn : ∀ i v0 v1 ys H' s', i < n → Pt i #[v0, v1] → J i ys H' → St s₁ C [(x, v0), (y, v1)] (X (i + 1) ++ (D, Lst ys) :: (L, Frm b) :: H') s' →
      wpAny (model prog w) A (eval elt env) (fun z s₄ => ∃ b₄ H₄, St s₁ C b₄ (X (i + 1) ++ (D, Lst ys) :: (L, Frm b) :: H₄) s₄ ∧ J (i + 1) (ys ++ [z]) H₄) (fun _ _ => False) s')
    (done : ∀ ys H' s' bC, J n ys H' → St s₁ C bC ((D, Lst ys) :: (L, Frm b) :: H') s' → RR (.ok .next) s') :
    codeAny (model prog w) A (.compLoop (.ListComp elt [⟨.Tuple [.Name x px, .Name y py] x1 pt, iter, [], 0⟩] scope pos) 0 (.ref I) (.ref D) env) RR s := by
  refine LCp.codeAny_compLoop_pair (fun k s' => ∃ bC ys H' i, St s₁ C bC (X i ++ (D, Lst ys) :: (L, Frm b) :: H') s' ∧ J i ys H' ∧ i ≤ n ∧ ys.length ≤ i ∧ k = n + 1 - i) ?_ (n + 1) ⟨bC, [], H, 0, S, h0, Nat.zero_le _, Nat.le_refl _, rfl⟩
  rintro k s' ⟨bC', ys, H', i, S', hJ, hi, hlen, rfl⟩
  have hSt := hXs i ys bC' H' s' hJ S'
  by_cases hlt : i < n
  · refine W.item i _ _ _ hlt hSt fun T vals h₁ tk₁ hP hT hMid hk₁ => ?_
    refine W.go _ _ _ i T _ _ _ hMid fun h₂ hSt₂ hk₂ => ?_
    have S₂ : St s₁ C bC' (X (i + 1) ++ (D, Lst ys) :: (L, Frm b) :: H') { s' with heap := h₂, toks := tk₁ } := S'.swapX (hXa i) (hXa (i + 1)) tk₁ (fun c o hc e => hk₂ c o hc (hk₁ c o hc e)) (hXr (i + 1) h₂ hSt₂)
    obtain ⟨v0, v1, rfl⟩ := hPt i vals hP
    have hT₂ : h₂.IsTuple T #[v0, v1] := let ⟨o, ho, r⟩ := hT; ⟨o, hk₂ _ _ (W.apart i T h₁ hMid) ho, r⟩
    refine assign_Tuple_tuple (s := { s' with heap := h₂, toks := tk₁ }) hh hT₂ (by rfl) (by rfl) fun h₃ hx₃ => ?_
    have S₃ := S₂.ext tk₁ fun c o e => hx₃ c o (Nat.ne_of_lt (Heap.lt_size e)) e
    show wpAny _ _ (assignInOrder [assign (.Name x px) env, assign (.Name y py) env] [v0, v1]) _ _ _
    unfold assignInOrder
    refine wpAny_bind (wpAny_holding ?_)
    refine wpAny_assign_Name (st_L S₃ hx (fun s₄ S₄ => ?_) hL hk)
    unfold assignInOrder
    refine wpAny_bind (wpAny_holding ?_)
    refine wpAny_assign_Name (st_L S₄ hy (fun s₅ S₅ => ?_) hL hk)
    unfold assignInOrder
    refine wpAny_pure ?_
    have S₆ := S₅.bind (b' := [(x, v0), (y, v1)]) (Sub.cons (by rw [lk_up, if_neg hxy, lk_up, if_pos rfl]) (Sub.cons (by rw [lk_up, if_pos rfl]) (Sub.nil _)))
    refine wpAny_mono (turn i v0 v1 ys H' s₅ hlt hP hJ S₆) (fun z s₆ h₆ => ?_) fun _ _ e => e.elim
    obtain ⟨b₄, H₄, S₄, hJ₄⟩ := h₆
    refine l_append S₄ (Upd.app (.head _) _) (by omega) fun s₅ S₅ => ?_
    exact ⟨n + 1 - (i + 1), by omega, b₄, ys ++ [z], H₄, i + 1, S₅, hJ₄, hlt, by simp; omega, rfl⟩
  · have hin : i = n := by omega
    subst hin
    refine W.done _ _ _ hSt fun h₁ tk₁ hk₁ => ?_
    exact done ys H' _ bC' hJ (S'.leave (hXa i) tk₁ hk₁)
def CompAtP (prog : Program) (w : World) (A : Around) (elt : Expr) (x y : Str) (px py pt : Pos) (x1 : Nat) (pos : Pos) (iter : Expr) (scope : Scope) (env : Env) (cl : List (Str × Addr)) (use : Option (Value → Sem Unit)) (Q : Value → Shared → Prop) (E : Value → Shared → Prop) (xv : Value) (s : Shared) : Prop :=
  wpAny (model prog w) A (pyIter xv) (fun it s₂ => wpAny (model prog w) A (newList []) (fun acc s₃ =>
      wpAny (model prog w) A (newFunctionEnv scope env.globals cl [] env.qual none .none (some env)) (fun cenv s₄ =>
        codeAny (model prog w) A (.compStart (.ListComp elt [⟨.Tuple [.Name x px, .Name y py] x1 pt, iter, [], 0⟩] scope pos) 0 it acc { cenv with scope := relabel scope env }) (compPost (model prog w) A E use Q acc cenv.locals) s₄) E s₃) E s₂) E s
theorem comp_atP {fp wr : List Addr} {n : Nat} {Pt : Nat → Array Value → Prop} {Stt : Nat → Heap → Prop} {Mid : Nat → Addr → Heap → Prop} {x y : Str} {px py pt pos : Pos} {x1 : Nat} {elt iter : Expr} {scope : Scope} {cl : List (Str × Addr)} {use : Option (Value → Sem Unit)} {Q : Value → Shared → Prop}
    (W : WalksU prog w A I fp wr n Pt Stt Mid) (X : Nat → List Ent) (J : Nat → List Value → List Ent → Prop) (hXa : ∀ i, (X i).map (·.1) = wr)
    (hXs : ∀ C D i ys b' H' s', J i ys H' → St s₁ C b' (X i ++ (D, Lst ys) :: (L, Frm b) :: H') s' → Stt i s'.heap) (hXr : ∀ i h, Stt i h → ∀ p ∈ X i, ∃ o, h.get? p.1 = some o ∧ p.2 o)
    (hPt : ∀ i vals, Pt i vals → ∃ v0 v1, vals = #[v0, v1])
    (S : St s₁ L b (X 0 ++ H) s) (h0 : J 0 [] H) (hn : n ≤ sizeLine) (hh : A.handled = none) (hxy : x ≠ y)
    (hcell : ∀ y ∈ scope.names, y.2 ≠ .cell) (hkind : scope.kind = .function) (hx : scope.names.lookup x = some .local) (hy : scope.names.lookup y = some .local)
    (turn : ∀ C D i v0 v1 ys H' s', i < n → Pt i #[v0, v1] → J i ys H' → St s₁ C [(x, v0), (y, v1)] (X (i + 1) ++ (D, Lst ys) :: (L, Frm b) :: H') s' →
      wpAny (model prog w) A (eval elt (compEnvC scope cl C env)) (fun z s₄ => ∃ b₄ H₄, St s₁ C b₄ (X (i + 1) ++ (D, Lst ys) :: (L, Frm b) :: H₄) s₄ ∧ J (i + 1) (ys ++ [z]) H₄) (fun _ _ => False) s')
    (done : ∀ C D ys H' s', J n ys H' → St s₁ L b ((C, Frm []) :: (D, Lst ys) :: H') s' →
      CompDone prog w A use Q E s₁ L b C D ys H' s') :
    wpAny (model prog w) A (newList []) (fun acc s₃ =>
      wpAny (model prog w) A (newFunctionEnv scope env.globals cl [] env.qual none .none (some env)) (fun cenv s₄ =>
        codeAny (model prog w) A (.compStart (.ListComp elt [⟨.Tuple [.Name x px, .Name y py] x1 pt, iter, [], 0⟩] scope pos) 0 (.ref I) acc { cenv with scope := relabel scope env }) (compPost (model prog w) A E use Q acc cenv.locals) s₄) E s₃) E s := by
  refine new_list S (by simp [sizeLine_eq]) fun s₃ D S₃ => ?_
  refine wpAny_newFunctionEnv hcell (by intro y hy; simp at hy) (fun h₁ hns₁ hsb₁ => ?_) hkind
  have S₄ := S₃.enter (b' := []) (s₃.toks + ([] : List (Str × Value)).length) hns₁ (fun c o e => hsb₁.extBut c o (Nat.ne_of_lt (Heap.lt_size e)) (Heap.get?_push_of_some _ e)) (fun x v e => by simp [lk] at e)
  generalize hC : s₃.heap.objs.size = C at S₄ ⊢
  have S₅ : St s₁ C [] (X 0 ++ (D, Lst []) :: (L, Frm b) :: H) _ := S₄.perm (by
    refine List.Perm.trans (List.perm_middle (l₁ := X 0) (l₂ := (L, Frm b) :: H) (a := (D, Lst []))) ?_
    refine List.Perm.trans (.cons _ (List.perm_middle (l₁ := X 0) (l₂ := H) (a := (L, Frm b)))) ?_
    exact List.Perm.swap _ _ _)
  have loop : ∀ s₆, St s₁ C [] (X 0 ++ (D, Lst []) :: (L, Frm b) :: H) s₆ → codeAny (model prog w) A (.compLoop (.ListComp elt [⟨.Tuple [.Name x px, .Name y py] x1 pt, iter, [], 0⟩] scope pos) 0 (.ref I) (.ref D) (compEnvC scope cl C env)) (compPost (model prog w) A E use Q (.ref D) C) s₆ := by
    intro s₆ S₆
    refine comp_loopP (env := compEnvC scope cl C env) W X J hXa (fun i ys b' H' s' => hXs C D i ys b' H' s') hXr hPt S₆ h0 hn hh hxy (lookup_relabel_local hx) (lookup_relabel_local hy) rfl hkind (fun i v0 v1 ys H' s' hi hV hJ S => turn C D i v0 v1 ys H' s' hi hV hJ S) fun ys H' s' bC hJ S' => ?_
    have Sc : St s₁ L b ((C, Frm []) :: (D, Lst ys) :: H') s' := by
      have S0 : St s₁ C bC ((L, Frm b) :: (D, Lst ys) :: H') s' := S'.perm (List.Perm.swap (D, Lst ys) (L, Frm b) H')
      have fC := S0.ns
      have hb := S0.back
      refine ⟨hb.ns, hb.keep, hb.fr, ?_, ?_, ?_, hb.eq⟩
      · intro p hp
        rcases List.mem_cons.mp hp with rfl | hp
        · obtain ⟨o, ho, h⟩ := fC; exact ⟨o, ho, h.weak (Sub.nil _)⟩
        · exact hb.nw p hp
      · intro p hp
        rcases List.mem_cons.mp hp with rfl | hp
        · exact ⟨Ne.symm (S0.fresh (L, Frm b) (List.mem_cons_self ..)).1, S0.fr⟩
        · exact hb.fresh p hp
      · exact List.nodup_cons.mpr ⟨fun hm => by
          obtain ⟨q, hq, e⟩ := List.mem_map.mp hm
          exact (S0.fresh q (List.mem_cons_of_mem _ hq)).1 e, hb.nd⟩
    have fin := done C D ys H' s' hJ Sc
    have nsC : ∀ {b' : List (Str × Value)} {K : List Ent} {s₇ : Shared}, St s₁ L b' ((C, Frm []) :: K) s₇ → ∃ m, s₇.heap.Ns C m ∧ ∀ h', Heap.SameBut C s₇.heap h' → St s₁ L b' K { s₇ with heap := h' } := by
      intro b' K s₇ S₇
      obtain ⟨o, ho, es, ep, hd, hk, hf⟩ := getHead S₇
      exact ⟨nsFind es, ⟨o, es, ep, ho, hd, hk, fun _ => rfl⟩, fun h' hs => S₇.gone s₇.toks fun c o hc e => hs.extBut c o hc e⟩
    cases use with
    | none =>
      obtain ⟨m, hm, hS⟩ := nsC Sc
      exact ⟨m, hm, fun h' hs => fin _ (hS h' hs)⟩
    | some u =>
      refine wpAny_mono fin (fun _ s₂ h₂ => ?_) fun _ _ e => e
      obtain ⟨b₂, H₂, S₂, hq⟩ := h₂
      obtain ⟨m, hm, hS⟩ := nsC S₂
      exact ⟨m, hm, fun h' hs => hq _ (hS h' hs)⟩
  have go := loop _ S₅
  exact codeAny_compStart_list go (W.self 0 _ _ _ (hXs C D 0 [] [] H _ h0 S₅) go)
theorem ex_compP {x y z : Str} {px py pt pz pos spos : Pos} {x1 : Nat} {elt iter : Expr} {scope : Scope} {cl : List (Str × Addr)} {Q : Flow → Shared → Prop}
    (hsw : swapsWith (.ListComp elt [⟨.Tuple [.Name x px, .Name y py] x1 pt, iter, [], 0⟩] scope pos) (some (.Name z pz)) spos.line env = pure true)
    (hclos : closureFor scope env = pure cl) (hkind : scope.kind = .function) (hnames : ∀ y ∈ scope.names, y.2 = .local → scope.names.lookup y.1 = some .local)
    (h : wpAny (model prog w) A (eval iter env) (fun xv s₁ => CompAtP prog w A elt x y px py pt x1 pos iter scope env cl (some (assign (.Name z pz) env)) (fun _ s' => Q .next s') E xv s₁) E s) (hs : ∀ x, foldedSetIterable iter env x = pure x) :
    wpAny (model prog w) A (exec (.Assign [.Name z pz] (.ListComp elt [⟨.Tuple [.Name x px, .Name y py] x1 pt, iter, [], 0⟩] scope pos) spos) env) Q E s := by
  rw [exec_Assign_Name_used _ _ _ _ hsw]
  refine wpAny_bind (wpAny_standAt (wpAny_bind ?_))
  show wpAny _ A (do let _ ← comprehension (.ListComp elt [⟨.Tuple [.Name x px, .Name y py] x1 pt, iter, [], 0⟩] scope pos) scope env _ (newList []) false (eval iter env) (some (assign (.Name z pz) env))) _ _ s
  exact wpAny_bind (wpAny_mono (wpAny_comprehension_free (use := some (assign (.Name z pz) env)) (Q := fun _ s' => Q .next s') rfl hs hclos hkind hnames h) (fun _ s' hq => wpAny_pure (wpAny_pure hq)) fun _ _ e => e)
end
end Mine
open PySem.SeqAt
namespace Mine
section
variable {prog : Program} {w : World} {A : Around} {E : Value → Shared → Prop} {s s₁ : Shared} {L I l D C a c : Addr} {b : List (Str × Value)} {H H' : List Ent} {env : Env}
theorem c_zipLL {Q : Value → Shared → Prop} {vs us : List Value} (S : St s₁ L b H s) (ha : (a, Lst vs) ∈ H) (hc : (c, Lst us) ∈ H)
    (h : ∀ s' z TI TO i1 i2, a ≠ i1 → c ≠ i2 → St s₁ L b ((z, ZipO TI TO) :: (TO, PrE) :: (i1, LI a 0) :: (i2, LI c 0) :: (TI, PrO (.ref i1) (.ref i2)) :: H) s' → Q (.ref z) s') : wpAny (model prog w) A (call (.type "zip") [.ref a, .ref c]) Q E s := by
  refine c_zipG (o1 := { cls := .type "list_iterator", data := .fields #[.ref a, .int 0 0] }) (o2 := { cls := .type "list_iterator", data := .fields #[.ref c, .int 0 0] }) (P1 := LI a 0) (P2 := LI c 0) S (fun _ _ _ _ _ hq => wpAny_pyIter_list (Lst.isList (S.get ha)) hq) (fun _ _ _ _ _ hq => wpAny_pyIter_list ((Lst.isList (S.get hc)).push _) hq) rfl rfl ⟨rfl, rfl⟩ ⟨rfl, rfl⟩ fun s' z TI TO i1 i2 S' => ?_
  refine h s' z TI TO i1 i2 (fun e => ?_) (fun e => ?_) S'
  · have := S'.nd
    simp only [List.map_cons, List.nodup_cons, List.mem_cons, not_or] at this
    exact this.2.2.1.2.2 (List.mem_map.mpr ⟨_, ha, e⟩)
  · have := S'.nd
    simp only [List.map_cons, List.nodup_cons, List.mem_cons, not_or] at this
    exact this.2.2.2.1.2 (List.mem_map.mpr ⟨_, hc, e⟩)
theorem for_zipLL {z TIa TO i1 i2 : Addr} {vs us : List Value} {xi xc : Str} {pk pv pt : Pos} {x1 : Nat} {body : List Stmt} {Q : Flow → Shared → Prop}
    (J : Nat → List (Str × Value) → List Ent → Prop) (S : St s₁ L b ((z, ZipO TIa TO) :: (TO, PrE) :: (i1, LI a 0) :: (i2, LI c 0) :: (TIa, PrO (.ref i1) (.ref i2)) :: H) s) (h0 : J 0 b H) (na : a ≠ i1) (nc : c ≠ i2)
    (hJ : ∀ i b H, J i b H → (a, Lst vs) ∈ H ∧ (c, Lst us) ∈ H)
    (hh : A.handled = none) (hxi : env.kindOf xi = some .local) (hxc : env.kindOf xc = some .local) (hL : env.locals = L) (hk : env.scope.kind = .function)
    (turn : ∀ i v0 v1 X b' H' s', vs[i]? = some v0 → us[i]? = some v1 → J i b' H' → St s₁ L (up xc v1 (up xi v0 b')) (X ++ H') s' → wpAny (model prog w) A (execs body env) (TurnEndX s₁ L X (J (i + 1)) Q) (fun _ _ => False) s')
    (done : ∀ b' H' s', J (min vs.length us.length) b' H' → St s₁ L b' H' s' → Q .next s') : ForAt prog w A (.Tuple [.Name xi pk, .Name xc pv] x1 pt) body env Q E (.ref z) s := by
  have ⟨m1, m2⟩ := hJ _ _ _ h0
  have D := apart2 (K := H.map (·.1)) (by simpa using S.nd) (List.mem_map.mpr ⟨_, m1, rfl⟩) (List.mem_map.mpr ⟨_, m2, rfl⟩)
  refine for_zipG (Q1 := fun i => LI a i) (Q2 := fun i => LI c i) (n1 := vs.toArray.size) (n2 := us.toArray.size) (fun i b H => ∃ H0, H = (TIa, PrO (.ref i1) (.ref i2)) :: H0 ∧ J i b H0) S ⟨_, rfl, h0⟩ (PySem.Draws.list (A := A.in1) hh i1 a na vs.toArray) (PySem.Draws.list (A := A.in1) hh i2 c nc us.toArray) D (fun i b H h => by obtain ⟨H0, rfl, _⟩ := h; simp) ?_ ?_ ?_ ?_ hh hxi hxc hL hk ?_ ?_
  · rintro i b' H' X s' ⟨H0, rfl, hj⟩ hm S'
    have ⟨q1, q2⟩ := hJ _ _ _ hj
    obtain ⟨o, ho, h1, h2⟩ := S'.get (List.mem_append_left _ hm)
    exact ⟨⟨o, ho, h1, h2⟩, Lst.isList (S'.get (List.mem_append_right _ (List.mem_cons_of_mem _ q1)))⟩
  · rintro i b' H' X s' ⟨H0, rfl, hj⟩ hm S'
    have ⟨q1, q2⟩ := hJ _ _ _ hj
    obtain ⟨o, ho, h1, h2⟩ := S'.get (List.mem_append_left _ hm)
    exact ⟨⟨o, ho, h1, h2⟩, Lst.isList (S'.get (List.mem_append_right _ (List.mem_cons_of_mem _ q2)))⟩
  · rintro i h ⟨⟨o, ho, r⟩, _⟩; exact ⟨o, ho, r⟩
  · rintro i h ⟨⟨o, ho, r⟩, _⟩; exact ⟨o, ho, r⟩
  · rintro i v0 v1 X b' H' s' hi p1 p2 ⟨H0, rfl, hj⟩ S'
    have S2 : St s₁ L (up xc v1 (up xi v0 b')) ((X ++ [(TIa, PrO (.ref i1) (.ref i2))]) ++ H0) s' := by simpa using S'
    refine wpAny_mono (turn i v0 v1 _ b' H0 s' (by simpa using p1) (by simpa using p2) hj S2) (fun f s₆ h₆ => ?_) fun _ _ e => e
    cases f with
    | next => obtain ⟨b'', H'', S₆, hJ₆⟩ := h₆; exact ⟨b'', _, by simpa using S₆, H'', rfl, hJ₆⟩
    | cont => obtain ⟨b'', H'', S₆, hJ₆⟩ := h₆; exact ⟨b'', _, by simpa using S₆, H'', rfl, hJ₆⟩
    | brk => exact h₆
    | ret v => exact h₆
  · rintro b' H' s' ⟨H0, rfl, hj⟩ S'
    exact done b' H0 s' (by simpa using hj) S'.drop
/-- zip of two texts -/
theorem c_zipSS {Q : Value → Shared → Prop} {x y : List Nat} {t u : Tok} (S : St s₁ L b H s)
    (h : ∀ s' z TI TO i1 i2, St s₁ L b ((z, ZipO TI TO) :: (TO, PrE) :: (i1, SiO (strIterType (T x)) (T x) t 0) :: (i2, SiO (strIterType (T y)) (T y) u 0) :: (TI, PrO (.ref i1) (.ref i2)) :: H) s' → Q (.ref z) s') : wpAny (model prog w) A (call (.type "zip") [.str (T x) t, .str (T y) u]) Q E s :=
  c_zipG (o1 := { cls := .type (strIterType (T x)), data := .fields #[.str (T x) t, .int 0 0] }) (o2 := { cls := .type (strIterType (T y)), data := .fields #[.str (T y) u, .int 0 0] }) (P1 := SiO (strIterType (T x)) (T x) t 0) (P2 := SiO (strIterType (T y)) (T y) u 0) S
    (fun _ _ _ _ _ hq => wpAny_pyIter_strU hq) (fun _ _ _ _ _ hq => wpAny_pyIter_strU hq) rfl rfl ⟨rfl, rfl⟩ ⟨rfl, rfl⟩ h
theorem draws_str {it : Addr} (hh : A.handled = none) (x : Str) (t : Tok) : Draws prog w A it [it] x.cps.size (fun i v => ∃ c u, x.cps[i]? = some c ∧ v = .str ⟨#[c]⟩ u) (fun i h => h.IsStrIter it (strIterType x) x t i) := by
  unfold strIterType
  split
  · exact Draws.strAscii (A := A) hh it x t
  · exact Draws.strWide (A := A) hh it x t
theorem for_zipSS {z TIa TO i1 i2 : Addr} {x y : List Nat} {t u : Tok} {xi xc : Str} {pk pv pt : Pos} {x1 : Nat} {body : List Stmt} {Q : Flow → Shared → Prop}
    (J : Nat → List (Str × Value) → List Ent → Prop) (S : St s₁ L b ((z, ZipO TIa TO) :: (TO, PrE) :: (i1, SiO (strIterType (T x)) (T x) t 0) :: (i2, SiO (strIterType (T y)) (T y) u 0) :: (TIa, PrO (.ref i1) (.ref i2)) :: H) s) (h0 : J 0 b H)
    (hh : A.handled = none) (hxi : env.kindOf xi = some .local) (hxc : env.kindOf xc = some .local) (hL : env.locals = L) (hk : env.scope.kind = .function)
    (turn : ∀ i c0 c1 t0 t1 X b' H' s', x[i]? = some c0 → y[i]? = some c1 → J i b' H' → St s₁ L (up xc (.str (T [c1]) t1) (up xi (.str (T [c0]) t0) b')) (X ++ H') s' → wpAny (model prog w) A (execs body env) (TurnEndX s₁ L X (J (i + 1)) Q) (fun _ _ => False) s')
    (done : ∀ b' H' s', J (min x.length y.length) b' H' → St s₁ L b' H' s' → Q .next s') : ForAt prog w A (.Tuple [.Name xi pk, .Name xc pv] x1 pt) body env Q E (.ref z) s := by
  have nd : (z :: TO :: i1 :: i2 :: TIa :: H.map (·.1)).Nodup := by simpa using S.nd
  have D : Apart z TIa TO i1 i2 [i1] [i2] := by
    simp only [List.nodup_cons, List.mem_cons, not_or] at nd
    obtain ⟨⟨z1, z2, z3, z4, z5⟩, ⟨o1, o2, o3, o4⟩, ⟨a1, a2, a3⟩, ⟨b1, b2⟩, ⟨t1, _⟩⟩ := nd
    refine ⟨Ne.symm z4, Ne.symm z1, Ne.symm o3, Ne.symm a2, Ne.symm b1, by simp, by simp, ?_, ?_⟩
    · simp only [List.mem_cons, List.not_mem_nil, or_false]
      exact ⟨z2, o1, Ne.symm a1⟩
    · simp only [List.mem_cons, List.not_mem_nil, or_false]
      exact ⟨z3, o2, a1⟩
  have e1 : (T x).cps.size = x.length := by simp [T]
  have e2 : (T y).cps.size = y.length := by simp [T]
  refine for_zipG (Q1 := fun i => SiO (strIterType (T x)) (T x) t i) (Q2 := fun i => SiO (strIterType (T y)) (T y) u i) (n1 := (T x).cps.size) (n2 := (T y).cps.size) (fun i b H => ∃ H0, H = (TIa, PrO (.ref i1) (.ref i2)) :: H0 ∧ J i b H0) S ⟨_, rfl, h0⟩ (draws_str (A := A.in1) hh _ t) (draws_str (A := A.in1) hh _ u) D (fun i b H h => by obtain ⟨H0, rfl, _⟩ := h; simp) ?_ ?_ ?_ ?_ hh hxi hxc hL hk ?_ ?_
  · rintro i b' H' X s' ⟨H0, rfl, hj⟩ hm S'
    exact S'.get (List.mem_append_left _ hm)
  · rintro i b' H' X s' ⟨H0, rfl, hj⟩ hm S'
    exact S'.get (List.mem_append_left _ hm)
  · rintro i h ⟨o, ho, r⟩; exact ⟨o, ho, r⟩
  · rintro i h ⟨o, ho, r⟩; exact ⟨o, ho, r⟩
  · rintro i v0 v1 X b' H' s' hi ⟨c0, t0, p1, rfl⟩ ⟨c1, t1, p2, rfl⟩ ⟨H0, rfl, hj⟩ S'
    have S2 : St s₁ L (up xc (.str (T [c1]) t1) (up xi (.str (T [c0]) t0) b')) ((X ++ [(TIa, PrO (.ref i1) (.ref i2))]) ++ H0) s' := by rw [List.append_assoc]; exact S'
    refine wpAny_mono (turn i c0 c1 t0 t1 _ b' H0 s' (by simpa [T] using p1) (by simpa [T] using p2) hj S2) (fun f s₆ h₆ => ?_) fun _ _ e => e
    cases f with
    | next => obtain ⟨b'', H'', S₆, hJ₆⟩ := h₆; exact ⟨b'', _, by simpa using S₆, H'', rfl, hJ₆⟩
    | cont => obtain ⟨b'', H'', S₆, hJ₆⟩ := h₆; exact ⟨b'', _, by simpa using S₆, H'', rfl, hJ₆⟩
    | brk => exact h₆
    | ret v => exact h₆
  · rintro b' H' s' ⟨H0, rfl, hj⟩ S'
    exact done b' H0 s' (by rw [e1, e2] at hj; exact hj) S'.drop
/-- a comprehension with two names over a zip of two lists -/
theorem comp_zipLL {z TIa TO i1 i2 : Addr} {vs us : List Value} {x y : Str} {px py pt pos : Pos} {x1 : Nat} {elt iter : Expr} {scope : Scope} {cl : List (Str × Addr)} {use : Option (Value → Sem Unit)} {Q : Value → Shared → Prop} (J : Nat → List Value → List Ent → Prop)
    (S : St s₁ L b ((z, ZipO TIa TO) :: (TO, PrE) :: (i1, LI a 0) :: (i2, LI c 0) :: (TIa, PrO (.ref i1) (.ref i2)) :: H) s) (h0 : J 0 [] H) (na : a ≠ i1) (nc : c ≠ i2) (hn : vs.length ≤ sizeLine)
    (hJ : ∀ i ys H, J i ys H → (a, Lst vs) ∈ H ∧ (c, Lst us) ∈ H) (hh : A.handled = none) (hxy : x ≠ y)
    (hcell : ∀ y ∈ scope.names, y.2 ≠ .cell) (hkind : scope.kind = .function) (hx : scope.names.lookup x = some .local) (hy : scope.names.lookup y = some .local)
    (turn : ∀ C D i v0 v1 X ys H' s', vs[i]? = some v0 → us[i]? = some v1 → J i ys H' → St s₁ C [(x, v0), (y, v1)] (X ++ (D, Lst ys) :: (L, Frm b) :: (TIa, PrO (.ref i1) (.ref i2)) :: H') s' →
      wpAny (model prog w) A (eval elt (compEnvC scope cl C env)) (fun z s₄ => ∃ b₄ H₄, St s₁ C b₄ (X ++ (D, Lst ys) :: (L, Frm b) :: (TIa, PrO (.ref i1) (.ref i2)) :: H₄) s₄ ∧ J (i + 1) (ys ++ [z]) H₄) (fun _ _ => False) s')
    (done : ∀ C D ys H' s', J (min vs.length us.length) ys H' → St s₁ L b ((C, Frm []) :: (D, Lst ys) :: (TIa, PrO (.ref i1) (.ref i2)) :: H') s' →
      CompDone prog w A use Q E s₁ L b C D ys ((TIa, PrO (.ref i1) (.ref i2)) :: H') s') :
    CompAtP prog w A elt x y px py pt x1 pos iter scope env cl use Q E (.ref z) s := by
  have ⟨m1, m2⟩ := hJ _ _ _ h0
  have D := apart2 (K := H.map (·.1)) (by simpa using S.nd) (List.mem_map.mpr ⟨_, m1, rfl⟩) (List.mem_map.mpr ⟨_, m2, rfl⟩)
  have W := (WalksT.zipD hh (PySem.Draws.list (prog := prog) (w := w) (A := A.in1) hh i1 a na vs.toArray) (PySem.Draws.list (A := A.in1) hh i2 c nc us.toArray) D).toU
  obtain ⟨o, ho, rfl⟩ := S.get (List.mem_cons_self ..)
  refine wpAny_pyIter_zip ho ?_
  refine comp_atP W (fun i => [(z, ZipO TIa TO), (TO, PrE), (i1, LI a i), (i2, LI c i)]) (fun i ys H => ∃ H0, H = (TIa, PrO (.ref i1) (.ref i2)) :: H0 ∧ J i ys H0) (fun i => rfl) (fun C D i ys b' H' s' hJ' S' => ?_) (fun i h st p hp => ?_) (fun i vals hP => ?_) S ⟨_, rfl, h0⟩ (by simp; omega) hh hxy hcell hkind hx hy (fun C D i v0 v1 ys H' s' hi hP hJ' S' => ?_) (fun C D ys H' s' hJ' S' => ?_)
  · obtain ⟨H0, rfl, hj⟩ := hJ'
    have ⟨q1, q2⟩ := hJ _ _ _ hj
    obtain ⟨oz, hz, rfl⟩ := S'.get (a := z) (P := ZipO TIa TO) (by simp)
    obtain ⟨oT, hTo, a', c', rfl⟩ := S'.get (a := TO) (P := PrE) (by simp)
    obtain ⟨oI, hI, rfl⟩ := S'.get (a := TIa) (P := PrO (.ref i1) (.ref i2)) (by simp)
    obtain ⟨o1, ho1, r1⟩ := S'.get (a := i1) (P := LI a i) (by simp)
    obtain ⟨o2, ho2, r2⟩ := S'.get (a := i2) (P := LI c i) (by simp)
    exact ⟨hz, hI, ⟨a', c', hTo⟩, ⟨⟨o1, ho1, r1.1, r1.2⟩, Lst.isList (S'.get (by simp [q1]))⟩, ⟨⟨o2, ho2, r2.1, r2.2⟩, Lst.isList (S'.get (by simp [q2]))⟩⟩
  · obtain ⟨hz, _, ⟨a', c', hTo⟩, ⟨⟨o1, ho1, r1⟩, _⟩, ⟨⟨o2, ho2, r2⟩, _⟩⟩ := st
    simp only [List.mem_cons, List.not_mem_nil, or_false] at hp
    rcases hp with rfl | rfl | rfl | rfl
    · exact ⟨_, hz, rfl⟩
    · exact ⟨_, hTo, a', c', rfl⟩
    · exact ⟨o1, ho1, r1⟩
    · exact ⟨o2, ho2, r2⟩
  · obtain ⟨x, y, _, _, rfl⟩ := hP; exact ⟨_, _, rfl⟩
  · obtain ⟨H0, rfl, hj⟩ := hJ'
    obtain ⟨x', y', p1, p2, e⟩ := hP
    have e0 : v0 = x' ∧ v1 = y' := by
      have := congrArg Array.toList e
      simpa using this
    obtain ⟨rfl, rfl⟩ := e0
    refine wpAny_mono (turn C D i v0 v1 _ ys H0 s' (by simpa using p1) (by simpa using p2) hj S') (fun z' s₄ h₄ => ?_) fun _ _ e => e
    obtain ⟨b₄, H₄, S₄, hJ₄⟩ := h₄
    exact ⟨b₄, _, S₄, H₄, rfl, hJ₄⟩
  · obtain ⟨H0, rfl, hj⟩ := hJ'
    exact done C D ys H0 s' (by simpa using hj) S'
end
end Mine
open PySem.SeqAt
namespace Mine
section
variable {prog : Program} {w : World} {A : Around} {E : Value → Shared → Prop} {s s₁ : Shared} {L I l D C a c : Addr} {b : List (Str × Value)} {H H' : List Ent} {env : Env} {Q : Value → Shared → Prop}
theorem b_sub {p q : Bool} (S : St s₁ L b H s) (h : ∀ s' t, St s₁ L b H s' → Q (.int (b2i p - b2i q) t) s') : wpAny (model prog w) A (binaryOp .Sub (.bool p) (.bool q)) Q E s :=
  sub_bool (h _ _ (S.tok _))
theorem t_lt {x y : List Nat} {t u : Tok} (h : Q (.bool (decide (x < y))) s) : wpAny (model prog w) A (compareOp .Lt (.str (T x) t) (.str (T y) u)) Q E s := PyProof.Rows.lt_str (Eq.subst (motive := fun z => Q (.bool z) s) (decide_eq_decide.mpr Iff.rfl) h)
theorem t_gt {x y : List Nat} {t u : Tok} (h : Q (.bool (decide (y < x))) s) : wpAny (model prog w) A (compareOp .Gt (.str (T x) t) (.str (T y) u)) Q E s := P.gt_str (Eq.subst (motive := fun z => Q (.bool z) s) (decide_eq_decide.mpr Iff.rfl) h)
theorem i_abs {i : Int} {t : Tok} (S : St s₁ L b H s) (h : ∀ s' t', St s₁ L b H s' → Q (.int (if i < 0 then -i else i) t') s') : wpAny (model prog w) A (call (.builtin "abs") [.int i t]) Q E s := call_abs_int fun u tk => h _ _ (S.tok _)
def sgn (i : Int) : Int := if i < 0 then -1 else if i = 0 then 0 else 1
theorem noPylong_sign {i j : Int} (h : j.natAbs = i.natAbs) : Builtin.divisionGoesByPylong i j = false := by
  have hd : (if j == 0 then 0 else j.natAbs.log2 / 30 + 1) = (if i == 0 then 0 else i.natAbs.log2 / 30 + 1) := by
    by_cases h0 : i = 0
    · have : j = 0 := by omega
      subst h0; subst this; rfl
    · have : j ≠ 0 := by omega
      rw [if_neg (by simpa using this), if_neg (by simpa using h0), h]
  unfold Builtin.divisionGoesByPylong
  simp only []
  rw [Bool.and_eq_false_iff]
  right
  rw [decide_eq_false_iff_not, hd]
  omega
theorem i_sign {i : Int} {t u : Tok} {m : Int} (S : St s₁ L b H s) (hm : m = if 1 < (if i < 0 then -i else i) then (if i < 0 then -i else i) else 1) (h : ∀ s' t', St s₁ L b H s' → Q (.int (sgn i) t') s') : wpAny (model prog w) A (binaryOp .FloorDiv (.int i t) (.int m u)) Q E s := by
  refine floordiv_int ?_ ?_ ?_
  · subst hm; split <;> split at * <;> omega
  · have e : i.fdiv m = sgn i := by
      have hm0 : 0 < m := by subst hm; split <;> split at * <;> omega
      rw [Int.fdiv_eq_ediv_of_nonneg _ (by omega)]
      unfold sgn
      by_cases h1 : i < 0
      · rw [if_pos h1]
        have : m = -i := by subst hm; simp only [h1, if_true]; split <;> omega
        subst this
        rw [Int.ediv_neg, Int.ediv_self (by omega)]
      · rw [if_neg h1]
        by_cases h2 : i = 0
        · rw [if_pos h2, h2, Int.zero_ediv]
        · rw [if_neg h2]
          have : m = i := by subst hm; simp only [h1, if_false]; split <;> omega
          subst this
          exact Int.ediv_self (by omega)
    rw [e]; exact h _ _ (S.tok _)
  · left
    by_cases h1 : 1 < (if i < 0 then -i else i)
    · refine noPylong_sign ?_
      subst hm; rw [if_pos h1]; split <;> omega
    · rw [hm, if_neg h1]; exact PyProof.noPylong_small (by decide)
theorem isi_list {vs : List Value} (S : St s₁ L b H s) (ha : (a, Lst vs) ∈ H) (h : Q (.bool true) s) : wpAny (model prog w) A (call (.builtin "isinstance") [.ref a, .type "list"]) Q E s :=
  call_isinstance (isinstance_true (Tx := "list") F.isi_meta_list F.sub_list_list) ⟨(Lst.isList (S.get ha)).typeIs, h⟩
theorem isi_int_list {i : Int} {t : Tok} (S : St s₁ L b H s) (h : ∀ s', St s₁ L b H s' → Q (.bool false) s') : wpAny (model prog w) A (call (.builtin "isinstance") [.int i t, .type "list"]) Q E s := IsiPair.int_list (h _ (S.tok _))
theorem isi_int_bool {i : Int} {t : Tok} (S : St s₁ L b H s) (h : ∀ s', St s₁ L b H s' → Q (.bool false) s') : wpAny (model prog w) A (call (.builtin "isinstance") [.int i t, .type "bool"]) Q E s := IsiPair.int_bool (h _ (S.tok _))
theorem isi_str_list {x : Str} {t : Tok} (S : St s₁ L b H s) (h : ∀ s', St s₁ L b H s' → Q (.bool false) s') : wpAny (model prog w) A (call (.builtin "isinstance") [.str x t, .type "list"]) Q E s := IsiPair.str_list (h _ (S.tok _))
/-! small sets with a fixed epoch -/
theorem c_setA {vs : List Value} {ns : List Nat} (S : St s₁ L b H s) (hl : (l, Lst vs) ∈ H) (hh : A.handled = none) (hi : IntsAre vs (ns.map fun n : Nat => (n : Int))) (h4 : ∀ n ∈ ns, n < 4)
    (h : ∀ s' D ls ep, (∀ m, m ∈ nums ls ↔ m ∈ ns) → St s₁ L b ((D, SmAt (!byText w) ls ep) :: H) s' → Q (.ref D) s') : wpAny (model prog w) A (call (.type "set") [.ref l]) Q E s :=
  c_setS S hl hh hi h4 fun s' D ls hm S' => by
    obtain ⟨ep, hep⟩ := Sm.at (getHead S')
    exact h s' D ls ep hm (S'.upd (.head _) s'.toks (fun _ _ _ e => e) hep)
theorem notin_set {led : Bool} {ls : List (Nat × Tok)} {ep : Nat} {n : Nat} {t : Tok} (S : St s₁ L b H s) (ha : (a, SmAt led ls ep) ∈ H) (h : ∀ s', St s₁ L b H s' → Q (.bool (!(nums ls).contains n)) s') : wpAny (model prog w) A (compareOp .NotIn (.int (n : Int) t) (.ref a)) Q E s := by
  have hs : ∃ o, s.heap.get? a = some o ∧ Sm led ls o := by obtain ⟨o, ho, r⟩ := S.get ha; exact ⟨o, ho, r.sm⟩
  refine wpAny_notInSet_of (knd := intKind prog w) (k := (n : Int)) (by simp [intKind, Value.isInt]) rfl (Sm.setOf hs) ?_
  have e : ((nums ls).any fun m => decide ((m : Int) = (n : Int))) = (nums ls).contains n := by
    rw [Bool.eq_iff_iff, List.any_eq_true, List.contains_iff_mem]
    exact ⟨fun ⟨x, hx, e⟩ => by have := of_decide_eq_true e; have : x = n := by omega
                                subst this; exact hx, fun hx => ⟨n, hx, by simp⟩⟩
  rw [e]
  exact h _ (S.tok _)
theorem comp_set {led : Bool} {ls : List (Nat × Tok)} {ep : Nat} {x : Str} {px pos : Pos} {elt iter : Expr} {ifs : List Expr} {scope : Scope} {cl : List (Str × Addr)} {use : Option (Value → Sem Unit)} (J : Nat → List Value → List Ent → Prop)
    (S : St s₁ L b H s) (h0 : J 0 [] H) (hl : (a, SmAt (!byText w) ls ep) ∈ H) (hJ : ∀ i ys H, J i ys H → (a, SmAt (!byText w) ls ep) ∈ H) (hh : A.handled = none)
    (hcell : ∀ y ∈ scope.names, y.2 ≠ .cell) (hkind : scope.kind = .function) (hx : scope.names.lookup x = some .local)
    (turn : ∀ C D I P i v hsh ys H' s', (ordS w a ep ls)[i]? = some (hsh, v) → J i ys H' → St s₁ C [(x, v)] ((D, Lst ys) :: (I, P) :: (L, Frm b) :: H') s' →
      wpAny (model prog w) A (tests ifs (compEnvC scope cl C env)) (fun ok s₃ => if ok = true then wpAny (model prog w) A (eval elt (compEnvC scope cl C env)) (fun y s₄ => CompEnd s₁ C [(D, Lst ys), (I, P), (L, Frm b)] (J (i + 1) (ys ++ [y])) s₄) (fun _ _ => False) s₃
        else CompEnd s₁ C [(D, Lst ys), (I, P), (L, Frm b)] (J (i + 1) ys) s₃) (fun _ _ => False) s')
    (done : ∀ C D ys H' s', J (nums ls).length ys H' → St s₁ L b ((C, Frm []) :: (D, Lst ys) :: H') s' →
      CompDone prog w A use Q E s₁ L b C D ys H' s') :
    CompAt prog w A elt x px pos iter ifs scope env cl use Q E (.ref a) s :=
  it_set S hl fun s' I S' => by
    have hne : a ≠ I := fun e => by
      have := S'.nd
      simp only [List.map_cons, List.nodup_cons] at this
      exact this.1 (List.mem_map.mpr ⟨_, hl, e⟩)
    have hn : (nums ls).length ≤ sizeLine := by
      obtain ⟨o, ho, hi, _⟩ := S.get hl
      have : ∀ pl ∈ subs4, pl.length ≤ 4 := by decide
      have := this _ hi
      rw [sizeLine_eq]; omega
    exact comp_at (Itr.set hh hne) J S' h0 hn
      (fun C D i ys H s bC _ h S => S.get (List.mem_cons_of_mem _ (List.mem_cons_of_mem _ (List.mem_cons_of_mem _ (hJ i ys H h)))))
      (fun s b' S => S.get (List.mem_cons_of_mem _ hl)) hcell hkind hx
      (fun C D i v ys H' s' hi ⟨hsh, hV⟩ hJ S => turn C D I _ i v hsh ys H' s' hV hJ S) done
theorem ord_int {ep : Nat} {ls : List (Nat × Tok)} {i : Nat} {hsh : Int} {v : Value} (h : (ordS w a ep ls)[i]? = some (hsh, v)) : ∃ n t, v = .int (n : Nat) t ∧ n ∈ nums ls := by
  have hm : (hsh, v) ∈ (ordS w a ep ls).toList := by rw [← Array.getElem?_toList] at h; exact List.mem_of_getElem? h
  have hm := (ord_perm w a ep ls).mem_iff.mp hm
  simp only [smE, List.mem_map] at hm
  obtain ⟨p, hp, e⟩ := hm
  injection e with _ e2
  exact ⟨p.1, p.2, e2.symm, List.mem_map.mpr ⟨p, hp, rfl⟩⟩
theorem ord_has {ep : Nat} {ls : List (Nat × Tok)} {n : Nat} (h : n ∈ nums ls) : ∃ i hsh t, i < (nums ls).length ∧ (ordS w a ep ls)[i]? = some (hsh, .int (n : Nat) t) := by
  obtain ⟨p, hp, rfl⟩ := List.mem_map.mp h
  have hm : ((p.1 : Int), Value.int (p.1 : Int) p.2) ∈ (smE ls).toList := by simp only [smE, List.mem_map]; exact ⟨p, hp, rfl⟩
  have hm := (ord_perm w a ep ls).mem_iff.mpr hm
  obtain ⟨i, hi⟩ := List.mem_iff_getElem?.mp hm
  rw [Array.getElem?_toList] at hi
  have hsz : (ordS w a ep ls).size = (nums ls).length := by have := (ord_perm w a ep ls).length_eq; rw [Array.length_toList, Array.length_toList, smE_size] at this; exact this
  have hlt : i < (ordS w a ep ls).size := (Array.getElem?_eq_some_iff.mp hi).1
  exact ⟨i, _, _, by omega, hi⟩
end
end Mine
open PySem.SeqAt
namespace Mine
/-- the order of two rows: the first unlike place decides, then the lengths -/
def ordG {α : Type} (e : α → α → Bool) (o : α → α → Int) : List α → List α → Int
  | x :: xs, y :: ys => if e x y then ordG e o xs ys else o x y
  | xs, ys => sgn ((xs.length : Int) - (ys.length : Int))
def upTo {α : Type} (e : α → α → Bool) (xs ys : List α) (i : Nat) : Prop := ∀ j x y, j < i → xs[j]? = some x → ys[j]? = some y → e x y = true
theorem upTo.zero {α : Type} {e : α → α → Bool} {xs ys : List α} : upTo e xs ys 0 := fun j _ _ h => absurd h (Nat.not_lt_zero _)
theorem upTo.succ {α : Type} {e : α → α → Bool} {xs ys : List α} {i : Nat} {x y : α} (h : upTo e xs ys i) (hx : xs[i]? = some x) (hy : ys[i]? = some y) (he : e x y = true) : upTo e xs ys (i + 1) := fun j x' y' hj h1 h2 => by
  by_cases hji : j = i
  · subst hji; rw [hx] at h1; rw [hy] at h2; cases h1; cases h2; exact he
  · exact h j x' y' (by omega) h1 h2
theorem ordG_at {α : Type} {e : α → α → Bool} {o : α → α → Int} : ∀ {xs ys : List α} {i : Nat} {x y : α}, upTo e xs ys i → xs[i]? = some x → ys[i]? = some y → e x y = false → ordG e o xs ys = o x y
  | [], _, i, x, y, _, hx, _, _ => by simp at hx
  | _ :: _, [], i, x, y, _, _, hy, _ => by simp at hy
  | x' :: xs, y' :: ys, 0, x, y, h, hx, hy, he => by
    simp at hx hy; subst hx hy; unfold ordG; rw [he]; rfl
  | x' :: xs, y' :: ys, i + 1, x, y, h, hx, hy, he => by
    unfold ordG
    rw [h 0 x' y' (by omega) (by simp) (by simp), if_pos rfl]
    exact ordG_at (i := i) (fun j a b hj h1 h2 => h (j + 1) a b (by omega) (by simpa using h1) (by simpa using h2)) (by simpa using hx) (by simpa using hy) he
theorem ordG_end {α : Type} {e : α → α → Bool} {o : α → α → Int} : ∀ {xs ys : List α}, upTo e xs ys (min xs.length ys.length) → ordG e o xs ys = sgn ((xs.length : Int) - (ys.length : Int))
  | [], _, _ => by unfold ordG; rfl
  | _ :: _, [], _ => by unfold ordG; rfl
  | x' :: xs, y' :: ys, h => by
    unfold ordG
    rw [h 0 x' y' (by simp only [List.length_cons]; omega) (by simp) (by simp), if_pos rfl]
    rw [ordG_end (fun j a b hj h1 h2 => h (j + 1) a b (by simp only [List.length_cons]; omega) (by simpa using h1) (by simpa using h2))]
    congr 1
    simp only [List.length_cons]; omega
def ord1 {α : Type} [DecidableEq α] [LT α] [DecidableLT α] (x y : α) : Int := if x < y then -1 else 1
def ordI : List Int → List Int → Int := ordG (fun x y => x == y) ord1
def ordT : List Nat → List Nat → Int := ordG (fun x y => x == y) ord1
def ordL : List (List Int) → List (List Int) → Int := ordG (fun x y => decide (x = y)) ordI
end Mine
open PySem.SeqAt
namespace Mine
def iv : Value → Int
  | .int n _ => n
  | _ => 0
def lexB {α : Type} (e o : α → α → Bool) (b0 : Bool) : List α → List α → Bool
  | x :: xs, y :: ys => if e x y then lexB e o b0 xs ys else o x y
  | _, _ => b0
theorem lexR_ints {e o : Int → Int → Bool} {b0 : Bool} : ∀ {vs us : List Value} {xs ys : List Int}, IntsAre vs xs → IntsAre us ys → lexR (fun x y => e (iv x) (iv y)) (fun x y => o (iv x) (iv y)) b0 vs us = lexB e o b0 xs ys
  | _, _, _, _, .nil, h => by cases h <;> rfl
  | _, _, _, _, .cons _ _ _, .nil => rfl
  | _, _, _, _, .cons x t h, .cons y u k => by
    unfold lexR lexB
    show (if e x y = true then _ else o x y) = (if e x y = true then _ else o x y)
    rw [lexR_ints h k]
theorem lexR_map {α : Type} {e o : α → α → Bool} {b0 : Bool} (f : Value → α) : ∀ {vs us : List Value}, lexR (fun x y => e (f x) (f y)) (fun x y => o (f x) (f y)) b0 vs us = lexB e o b0 (vs.map f) (us.map f)
  | [], us => by cases us <;> rfl
  | _ :: _, [] => rfl
  | x :: vs, y :: us => by
    simp only [List.map_cons]
    unfold lexR lexB
    rw [lexR_map f]
theorem lEq_ints : ∀ {vs us : List Value} {xs ys : List Int}, IntsAre vs xs → IntsAre us ys → lEq (fun x y => iv x == iv y) vs us = decide (xs = ys)
  | _, _, _, _, .nil, .nil => by simp [lEq]
  | _, _, _, _, .nil, .cons _ _ _ => by simp [lEq]
  | _, _, _, _, .cons _ _ _, .nil => by simp [lEq]
  | _, _, _, _, .cons x t h, .cons y u k => by
    unfold lEq
    rw [lEq_ints h k]
    show ((x == y) && _) = _
    have e : (x == y) = decide (x = y) := rfl
    simp [e]
theorem ints_mem {vs : List Value} {xs : List Int} (h : IntsAre vs xs) : ∀ v ∈ vs, ∃ n t, v = .int n t := by
  intro v hv
  obtain ⟨i, hi⟩ := List.mem_iff_getElem?.mp hv
  obtain ⟨n, t, e, _⟩ := h.at i v hi
  exact ⟨n, t, e⟩
theorem ints_map {vs : List Value} {xs : List Int} (h : IntsAre vs xs) : vs.map iv = xs := by
  induction h with
  | nil => rfl
  | cons n t _ ih => simp only [List.map_cons, ih]; rfl
abbrev eI (x y : Int) : Bool := x == y
abbrev lI (x y : Int) : Bool := decide (x < y)
abbrev gI (x y : Int) : Bool := decide (y < x)
def ltI (xs ys : List Int) : Bool := lexB eI lI (decide (xs.length < ys.length)) xs ys
def gtI (xs ys : List Int) : Bool := lexB eI gI (decide (ys.length < xs.length)) xs ys
def ltL (xs ys : List (List Int)) : Bool := lexB (fun x y => decide (x = y)) ltI (decide (xs.length < ys.length)) xs ys
def gtL (xs ys : List (List Int)) : Bool := lexB (fun x y => decide (x = y)) gtI (decide (ys.length < xs.length)) xs ys
theorem lex_ord {α : Type} {e g l : α → α → Bool} {o : α → α → Int} (ho : ∀ x y, e x y = false → b2i (g x y) - b2i (l x y) = o x y) : ∀ (xs ys : List α) (bg bl : Bool), b2i bg - b2i bl = sgn ((xs.length : Int) - (ys.length : Int)) → b2i (lexB e g bg xs ys) - b2i (lexB e l bl xs ys) = ordG e o xs ys
  | [], ys, bg, bl, h => by unfold lexB ordG; exact h
  | _ :: _, [], bg, bl, h => by unfold lexB ordG; exact h
  | x :: xs, y :: ys, bg, bl, h => by
    unfold lexB ordG
    cases he : e x y with
    | true =>
      simp only [if_true]
      refine lex_ord ho xs ys bg bl ?_
      rw [h]; congr 1; simp only [List.length_cons]; omega
    | false =>
      simp only [Bool.false_eq_true, if_false]
      exact ho x y he
theorem len_sgn (m n : Nat) : b2i (decide (n < m)) - b2i (decide (m < n)) = sgn ((m : Int) - (n : Int)) := by
  unfold sgn
  by_cases h1 : n < m
  · rw [decide_eq_true h1, decide_eq_false (show ¬ m < n by omega), if_neg (by omega), if_neg (by omega)]; rfl
  · by_cases h2 : m < n
    · rw [decide_eq_true h2, decide_eq_false h1, if_pos (by omega)]; rfl
    · rw [decide_eq_false h2, decide_eq_false h1, if_neg (by omega), if_pos (by omega)]; rfl
theorem plain_int (i j : Int) : b2i (decide (j < i)) - b2i (decide (i < j)) = sgn (i - j) := by
  unfold sgn
  by_cases h1 : j < i
  · rw [decide_eq_true h1, decide_eq_false (show ¬ i < j by omega), if_neg (by omega), if_neg (by omega)]; rfl
  · by_cases h2 : i < j
    · rw [decide_eq_true h2, decide_eq_false h1, if_pos (by omega)]; rfl
    · rw [decide_eq_false h2, decide_eq_false h1, if_neg (by omega), if_pos (by omega)]; rfl
theorem plain_ints (xs ys : List Int) : b2i (gtI xs ys) - b2i (ltI xs ys) = ordI xs ys := by
  unfold gtI ltI ordI
  refine lex_ord (fun x y he => ?_) xs ys _ _ (len_sgn _ _)
  have : x ≠ y := by simpa using he
  unfold ord1 b2i
  by_cases h1 : x < y
  · simp [h1, show ¬ y < x by omega]
  · simp [h1, show y < x by omega]
theorem plain_rows (xs ys : List (List Int)) : b2i (gtL xs ys) - b2i (ltL xs ys) = ordL xs ys := by
  unfold gtL ltL ordL
  exact lex_ord (fun x y he => plain_ints x y) xs ys _ _ (len_sgn _ _)
theorem plain_text : ∀ (xs ys : List Nat), b2i (decide (ys < xs)) - b2i (decide (xs < ys)) = ordT xs ys
  | [], [] => by decide
  | [], y :: ys => by unfold ordT ordG; simp [b2i, sgn]
  | x :: xs, [] => by unfold ordT ordG; simp [b2i, sgn]; rw [if_neg (by omega), if_neg (by omega)]
  | x :: xs, y :: ys => by
    have ih := plain_text xs ys
    unfold ordT at ih ⊢
    unfold ordG
    by_cases he : x = y
    · subst he
      simp only [beq_self_eq_true, if_true]
      rw [← ih]
      congr 2 <;> simp [List.cons_lt_cons_iff]
    · have hb : (x == y) = false := by simpa using he
      rw [hb]
      simp only [Bool.false_eq_true, if_false]
      unfold ord1 b2i
      by_cases h1 : x < y
      · have a1 : (y :: ys < x :: xs) = False := by simp [List.cons_lt_cons_iff]; omega
        have a2 : (x :: xs < y :: ys) = True := by simp [List.cons_lt_cons_iff, h1]
        simp only [a1, a2, h1]; decide
      · have a1 : (y :: ys < x :: xs) = True := by simp [List.cons_lt_cons_iff]; omega
        have a2 : (x :: xs < y :: ys) = False := by simp [List.cons_lt_cons_iff, h1]; omega
        simp only [a1, a2, h1]; decide
section
variable {A : Around} {s : Shared} {l c : Addr}
theorem eqAt_ints {vs us : List Value} {xs ys : List Int} (hv : IntsAre vs xs) (hw : IntsAre us ys) : ∀ x ∈ vs, ∀ y ∈ us, EqAt A s x y (iv x == iv y) := fun x hx y hy => by
  obtain ⟨n, t, rfl⟩ := ints_mem hv x hx
  obtain ⟨m, u, rfl⟩ := ints_mem hw y hy
  exact EqAt.int_int n t m u
theorem OrdAt.intsLt {vs us : List Value} {xs ys : List Int} (hl : s.heap.IsList l vs.toArray) (hc : s.heap.IsList c us.toArray) (hv : IntsAre vs xs) (hw : IntsAre us ys) (hu : A.units < cLine) : OrdAt .Lt A s (.ref l) (.ref c) (ltI xs ys) := by
  have := OrdAt.lists_lt (e := fun x y => eI (iv x) (iv y)) (o := fun x y => lI (iv x) (iv y)) hl hc hu (eqAt_ints hv hw) (fun x hx y hy _ => by
    obtain ⟨n, t, rfl⟩ := ints_mem hv x hx
    obtain ⟨m, u, rfl⟩ := ints_mem hw y hy
    exact fun prog w E Q h => i_lt (A := A.in1) h)
  rw [lexR_ints hv hw, hv.length, hw.length] at this
  exact this
theorem OrdAt.intsGt {vs us : List Value} {xs ys : List Int} (hl : s.heap.IsList l vs.toArray) (hc : s.heap.IsList c us.toArray) (hv : IntsAre vs xs) (hw : IntsAre us ys) (hu : A.units < cLine) : OrdAt .Gt A s (.ref l) (.ref c) (gtI xs ys) := by
  have := OrdAt.lists_gt (e := fun x y => eI (iv x) (iv y)) (o := fun x y => gI (iv x) (iv y)) hl hc hu (eqAt_ints hv hw) (fun x hx y hy _ => by
    obtain ⟨n, t, rfl⟩ := ints_mem hv x hx
    obtain ⟨m, u, rfl⟩ := ints_mem hw y hy
    exact fun prog w E Q h => i_gt (A := A.in1) h)
  rw [lexR_ints hv hw, hv.length, hw.length] at this
  exact this
end
end Mine
open PySem.SeqAt
namespace Mine
/-- a list of whole numbers, read from the heap -/
def rowAt (s : Shared) : Value → List Int
  | .ref r => match s.heap.get? r with
    | some o => match o.data with
      | .seq items _ => items.toList.map iv
      | _ => []
    | none => []
  | _ => []
theorem rowAt_eq {s : Shared} {r : Addr} {ws : List Value} {ns : List Int} (h : s.heap.IsList r ws.toArray) (hi : IntsAre ws ns) : rowAt s (.ref r) = ns := by
  obtain ⟨o, ho, hc, n, hd⟩ := h
  simp only [rowAt, ho, hd]
  exact ints_map hi
/-- the rows of a list of lists -/
def RowsAt (s : Shared) (vs : List Value) : Prop := ∀ v ∈ vs, ∃ r ws ns, v = .ref r ∧ s.heap.IsList r ws.toArray ∧ IntsAre ws ns
section
variable {A : Around} {s : Shared} {l c : Addr}
theorem eqAt_rows {vs us : List Value} (hv : RowsAt s vs) (hw : RowsAt s us) (hu : A.units < cLine) : ∀ x ∈ vs, ∀ y ∈ us, EqAt A s x y (decide (rowAt s x = rowAt s y)) := fun x hx y hy => by
  obtain ⟨r1, w1, n1, rfl, l1, i1⟩ := hv x hx
  obtain ⟨r2, w2, n2, rfl, l2, i2⟩ := hw y hy
  by_cases he : r1 = r2
  · subst he
    rw [decide_eq_true rfl]
    exact EqAt.same _
  · rw [rowAt_eq l1 i1, rowAt_eq l2 i2, ← lEq_ints i1 i2]
    exact EqAt.of_refs he (rc_lists l1 l2 hu (eqAt_ints i1 i2))
theorem OrdAt.rowsLt {vs us : List Value} (hl : s.heap.IsList l vs.toArray) (hc : s.heap.IsList c us.toArray) (hv : RowsAt s vs) (hw : RowsAt s us) (hu : A.units + 2 < cLine) : OrdAt .Lt A s (.ref l) (.ref c) (ltL (vs.map (rowAt s)) (us.map (rowAt s))) := by
  have := OrdAt.lists_lt (e := fun x y => decide (rowAt s x = rowAt s y)) (o := fun x y => ltI (rowAt s x) (rowAt s y)) hl hc (by omega) (eqAt_rows (A := A.in1) hv hw (by rw [units_in1]; omega)) (fun x hx y hy _ => by
    obtain ⟨r1, w1, n1, rfl, l1, i1⟩ := hv x hx
    obtain ⟨r2, w2, n2, rfl, l2, i2⟩ := hw y hy
    rw [rowAt_eq l1 i1, rowAt_eq l2 i2]
    exact OrdAt.intsLt l1 l2 i1 i2 (by rw [units_in1]; omega))
  rw [lexR_map (e := fun x y => decide (x = y)) (o := ltI) (rowAt s)] at this
  unfold ltL
  rw [List.length_map, List.length_map]
  exact this
theorem OrdAt.rowsGt {vs us : List Value} (hl : s.heap.IsList l vs.toArray) (hc : s.heap.IsList c us.toArray) (hv : RowsAt s vs) (hw : RowsAt s us) (hu : A.units + 2 < cLine) : OrdAt .Gt A s (.ref l) (.ref c) (gtL (vs.map (rowAt s)) (us.map (rowAt s))) := by
  have := OrdAt.lists_gt (e := fun x y => decide (rowAt s x = rowAt s y)) (o := fun x y => gtI (rowAt s x) (rowAt s y)) hl hc (by omega) (eqAt_rows (A := A.in1) hv hw (by rw [units_in1]; omega)) (fun x hx y hy _ => by
    obtain ⟨r1, w1, n1, rfl, l1, i1⟩ := hv x hx
    obtain ⟨r2, w2, n2, rfl, l2, i2⟩ := hw y hy
    rw [rowAt_eq l1 i1, rowAt_eq l2 i2]
    exact OrdAt.intsGt l1 l2 i1 i2 (by rw [units_in1]; omega))
  rw [lexR_map (e := fun x y => decide (x = y)) (o := gtI) (rowAt s)] at this
  unfold gtL
  rw [List.length_map, List.length_map]
  exact this
end
theorem sets_all : ∀ p ∈ subs4, ∀ q ∈ subs4, b2i (decide (q.length < p.length) && q.all fun n => p.contains n) - b2i (decide (p.length < q.length) && p.all fun n => q.contains n) =
    (if (p.all fun n => q.contains n) = (q.all fun n => p.contains n) then 0 else if (p.all fun n => q.contains n) then -1 else 1) := by decide +kernel
end Mine
namespace Mine
open_top hd01 for PySem.Challenge.rw_dn0232_01
end Mine
local macro_rules | `(tactic| walk_at "size") => `(tactic| first | assumption | (simp only [sizeLine_eq, List.length_append, List.length_cons, List.length_nil]; omega) | (simp only [sizeLine_eq, List.length_append, List.length_cons, List.length_nil] at *; omega))
local macro_rules | `(tactic| walk_at "mem") => `(tactic| (first | assumption | exact List.mem_cons_self .. | (refine List.mem_cons_of_mem _ ?_; walk_at "mem")))
local macro_rules | `(tactic| walk_at "isat") => `(tactic| first | exact Or.inr (by assumption) | exact Or.inl (by walk_at "mem"))
local macro_rules | `(tactic| walk_at "upd") => `(tactic| (first | exact Mine.Upd.head _ | (apply Mine.Upd.tail; walk_at "upd")))
local macro_rules | `(tactic| walk_at "eval Name") => `(tactic| ((rename Mine.St _ _ _ _ _ => wS); first
  | (refine Mine.nm_L wS (by with_unfolding_all rfl) (by with_unfolding_all rfl) ?_ (by with_unfolding_all rfl) (by with_unfolding_all rfl) (by with_unfolding_all decide))
  | (refine Mine.nm_K wS (by assumption) (by assumption) (by with_unfolding_all rfl) (by with_unfolding_all rfl) ?_ (by with_unfolding_all rfl) (by with_unfolding_all rfl) (by with_unfolding_all decide))
  | (refine Mine.nm_B wS (by assumption) (by assumption) (by with_unfolding_all rfl) (by with_unfolding_all rfl) (by first | reg3_boot | boot_fact | boot_fast) ?_ (by with_unfolding_all decide) (by with_unfolding_all rfl) (by with_unfolding_all rfl) (by with_unfolding_all rfl) (by with_unfolding_all decide))
  | (refine Mine.nm_C wS (by with_unfolding_all rfl) (by with_unfolding_all rfl) (by walk_at "mem") ?_ (by with_unfolding_all rfl) (by with_unfolding_all decide))))
local macro_rules | `(tactic| walk_at "loadName") => `(tactic| ((rename Mine.St _ _ _ _ _ => wS); first
  | (refine Mine.ld_L wS (by with_unfolding_all rfl) ?_ (by with_unfolding_all rfl) (by with_unfolding_all rfl) (by with_unfolding_all rfl))
  | (refine Mine.ld_C wS (by with_unfolding_all rfl) (by with_unfolding_all rfl) (by walk_at "mem") ?_ (by with_unfolding_all rfl))))
local macro_rules | `(tactic| walk_at "storeName") => `(tactic| ((rename Mine.St _ _ _ _ _ => wS); first
  | (refine Mine.st_L wS (by with_unfolding_all rfl) ?_ (by with_unfolding_all rfl) (by with_unfolding_all rfl); clear wS; intro _ _)
  | (refine Mine.st_C wS (by with_unfolding_all rfl) (by with_unfolding_all rfl) (by walk_at "upd") ?_ (by with_unfolding_all rfl); clear wS; intro _ _)))
local macro_rules | `(tactic| walk_at "eval Constant int") => `(tactic| ((rename Mine.St _ _ _ _ _ => wS); refine Mine.c_int wS ?_; clear wS; intro _ _ _))
local macro_rules | `(tactic| walk_at "eval Constant str") => `(tactic| ((rename Mine.St _ _ _ _ _ => wS); refine Mine.c_tx wS ?_; clear wS; intro _ _ _))
local macro_rules | `(tactic| walk_at "binaryOp Add int int") => `(tactic| ((rename Mine.St _ _ _ _ _ => wS); refine Mine.i_add wS ?_; clear wS; intro _ _ _))
local macro_rules | `(tactic| walk_at "inplaceOp Add int int") => `(tactic| ((rename Mine.St _ _ _ _ _ => wS); refine Mine.i_iadd wS ?_; clear wS; intro _ _ _))
local macro_rules | `(tactic| walk_at "binaryOp Sub int int") => `(tactic| ((rename Mine.St _ _ _ _ _ => wS); refine Mine.i_sub wS ?_; clear wS; intro _ _ _))
local macro_rules | `(tactic| walk_at "binaryOp Mod int int") => `(tactic| ((rename Mine.St _ _ _ _ _ => wS); refine Mine.i_mod wS (by first | decide | omega) ?_; clear wS; intro _ _ _))
local macro_rules | `(tactic| walk_at "compareOp Gt int int") => `(tactic| (refine Mine.i_gt ?_))
local macro_rules | `(tactic| walk_at "compareOp Lt int int") => `(tactic| (refine Mine.i_lt ?_))
local macro_rules | `(tactic| walk_at "compareOp Eq int int") => `(tactic| (refine Mine.i_eq ?_))
local macro_rules | `(tactic| walk_at "compareOp NotEq int int") => `(tactic| (refine Mine.i_ne ?_))
local macro_rules | `(tactic| walk_at "call builtin:len cons nil") => `(tactic| ((rename Mine.St _ _ _ _ _ => wS); k_dflt first
  | (refine Mine.t_len wS (by walk_at "size") ?_; clear wS; intro _ _ _)
  | (refine Mine.c_lenL wS (by walk_at "isat") (by walk_at "size") ?_; clear wS; intro _ _ _)))
local macro_rules | `(tactic| walk_at "eval Slice") => `(tactic| (refine Mine.ev_slice ?_))
local macro_rules | `(tactic| walk_at "evalPart") => `(tactic| first | (refine Mine.ep_some ?_) | (refine Mine.ep_none ?_))
local macro_rules | `(tactic| walk_at "newTuple") => `(tactic| ((rename Mine.St _ _ _ _ _ => wS); refine Mine.new_tuple wS (by simp [sizeLine_eq]) ?_; clear wS; intro _ _ _))
local macro_rules | `(tactic| walk_at "newList") => `(tactic| ((rename Mine.St _ _ _ _ _ => wS); refine Mine.new_list wS (by simp [sizeLine_eq]) ?_; clear wS; intro _ _ _))
local macro_rules | `(tactic| walk_at "SliceEnd") => `(tactic| ((rename Mine.St _ _ _ _ _ => wS); (first | refine Mine.slice_end wS Mine.slc_ss ?_ | refine Mine.slice_end wS Mine.slc_sn ?_ | refine Mine.slice_end wS Mine.slc_ns ?_ | refine Mine.slice_end wS Mine.slc_nn ?_); clear wS; intro _ _ _))
local macro_rules | `(tactic| walk_at "subscriptTail") => `(tactic| ((with_reducible show wpAny _ _ (subscriptTail _ _ (Value.str _ _) (Value.ref _)) _ _ _); (rename Mine.St _ _ _ _ _ => wS); k_dflt (refine Mine.t_slice wS (by walk_at "size") ?_ (by with_unfolding_all rfl) (by intro _; with_unfolding_all rfl)); clear wS; intro _ _ _))
local macro_rules | `(tactic| walk_at "binaryOp Mod str ref") => `(tactic| ((rename Mine.St _ _ _ _ _ => wS); k_dflt (refine Mine.t_fmt wS (by decide +kernel) (by omega) (by omega) (by omega) (by omega) ?_); clear wS; intro _ _ _))
local macro_rules | `(tactic| walk_at "eval ListComp") => `(tactic| ((with_reducible show wpAny _ _ (eval (PySem.Expr.ListComp _ [_] _ _) _) _ _ _); refine Mine.ev_comp (by first | exact closureFor_none (by with_unfolding_all decide) | with_unfolding_all rfl) (by with_unfolding_all rfl) (by with_unfolding_all decide) ?_ (by intro _; with_unfolding_all rfl)))
local macro_rules | `(tactic| walk_at "exec Assign cons ListComp") => `(tactic| (refine Mine.ex_comp (by with_unfolding_all rfl) (by first | exact closureFor_none (by with_unfolding_all decide) | with_unfolding_all rfl) (by with_unfolding_all rfl) (by with_unfolding_all decide) ?_ (by intro _; with_unfolding_all rfl)))
local macro_rules | `(tactic| walk_at "exec For") => `(tactic| (refine Mine.ex_for ?_ (by intro _; with_unfolding_all rfl)))
local macro_rules | `(tactic| walk_at "binaryOp FloorDiv int int") => `(tactic| ((rename Mine.St _ _ _ _ _ => wS); refine Mine.i_fdiv wS (by first | decide | omega) (by first | decide | omega) ?_; clear wS; intro _ _ _))
local macro_rules | `(tactic| walk_at "binaryOp Mult int int") => `(tactic| ((rename Mine.St _ _ _ _ _ => wS); first | (refine Mine.i_mulR wS (by decide +kernel) ?_; clear wS; intro _ _ _) | (refine Mine.i_mulL wS (by decide +kernel) ?_; clear wS; intro _ _ _)))
local macro_rules | `(tactic| walk_at "unaryOp USub int") => `(tactic| ((rename Mine.St _ _ _ _ _ => wS); refine Mine.i_neg wS ?_; clear wS; intro _ _ _))
local macro_rules | `(tactic| walk_at "compareOp LtE int int") => `(tactic| (refine Mine.i_le ?_))
local macro_rules | `(tactic| walk_at "compareOp GtE int int") => `(tactic| (refine Mine.i_ge ?_))
local macro_rules | `(tactic| walk_at "compareOp Eq str str") => `(tactic| (refine Mine.t_eq ?_))
local macro_rules | `(tactic| walk_at "compareOp NotEq str str") => `(tactic| (refine Mine.t_ne ?_))
local macro_rules | `(tactic| walk_at "binaryOp Add str str") => `(tactic| ((rename Mine.St _ _ _ _ _ => wS); refine Mine.t_add wS (by walk_at "size") ?_; clear wS; intro _ _ _))
local macro_rules | `(tactic| walk_at "inplaceOp Add str str") => `(tactic| ((rename Mine.St _ _ _ _ _ => wS); refine Mine.t_iadd wS (by walk_at "size") ?_; clear wS; intro _ _ _))
local macro_rules | `(tactic| walk_at "call builtin:chr") => `(tactic| ((rename Mine.St _ _ _ _ _ => wS); refine Mine.c_chr wS (by omega) (by omega) ?_; clear wS; intro _ _ _))
local macro_rules | `(tactic| walk_at "call builtin:sum") => `(tactic| ((rename Mine.St _ _ _ _ _ => wS); refine Mine.c_sum wS (by assumption) (by walk_at "isat") (by assumption) ?_; clear wS; intro _ _ _))
local macro_rules | `(tactic| walk_at "call builtin:str.join") => `(tactic| ((rename Mine.St _ _ _ _ _ => wS); refine Mine.c_join wS (by walk_at "isat") (by assumption) (by with_unfolding_all rfl) (by walk_at "size") ?_; clear wS; intro _ _ _))
local macro_rules | `(tactic| walk_at "unpackItems ref") => `(tactic| ((rename Mine.St _ _ _ _ _ => wS); refine Mine.unpack_tup wS (by assumption) (by with_unfolding_all rfl) ?_; clear wS; intro _ _))
local macro_rules | `(tactic| walk_at "call builtin:list.append") => `(tactic| ((rename Mine.St _ _ _ _ _ => wS); k_dflt (refine Mine.l_append wS (by walk_at "upd") (by walk_at "size") ?_); clear wS; intro _ _))
local macro_rules | `(tactic| walk_at "Ready") => `(tactic| ((rename Mine.St _ _ _ _ _ => wS); refine Mine.Ready.mk' (by assumption) wS ?_))
local macro_rules | `(tactic| walk_at "callWith ref") => `(tactic| (refine Mine.callWith_fn (by assumption) (by with_unfolding_all rfl) ?_ (by with_unfolding_all rfl) (by with_unfolding_all rfl)))
local macro_rules | `(tactic| walk_at "call type:range") => `(tactic| ((rename Mine.St _ _ _ _ _ => wS); (first | refine Mine.c_range1 wS ?_ | refine Mine.c_range2 wS ?_); clear wS; intro _ _ _))
local macro_rules | `(tactic| walk_at "assign Tuple") => `(tactic| ((rename Mine.St _ _ _ _ _ => wS); refine Mine.as_tup wS (by walk_at "mem") (by assumption) (by with_unfolding_all rfl) (by with_unfolding_all rfl) ?_; clear wS; intro _ _))
local macro_rules | `(tactic| walk_at "compareOp NotEq ref ref") => `(tactic| ((rename Mine.St _ _ _ _ _ => wS); first
  | (refine Mine.l_neInts wS (by walk_at "isat") (by walk_at "isat") (by first | assumption | exact PyProof.Rows.IntsAre.nil) (by first | assumption | exact PyProof.Rows.IntsAre.nil) (by first | assumption | (simp only [units_deeper]; omega)) ?_)
  | (refine Mine.l_neTx wS (by walk_at "isat") (by walk_at "isat") (by first | assumption | exact Mine.TxAre.nil) (by first | assumption | exact Mine.TxAre.nil) (by first | omega | (simp only [units_deeper]; omega)) ?_)))
local macro_rules | `(tactic| walk_at "compareOp Eq ref ref") => `(tactic| ((rename Mine.St _ _ _ _ _ => wS); first
  | (refine Mine.l_eqInts wS (by walk_at "isat") (by walk_at "isat") (by first | assumption | exact PyProof.Rows.IntsAre.nil) (by first | assumption | exact PyProof.Rows.IntsAre.nil) (by first | assumption | (simp only [units_deeper]; omega)) ?_)
  | (refine Mine.l_eqTx wS (by walk_at "isat") (by walk_at "isat") (by first | assumption | exact Mine.TxAre.nil) (by first | assumption | exact Mine.TxAre.nil) (by first | omega | (simp only [units_deeper]; omega)) ?_)))
local macro_rules | `(tactic| walk_at "call type:str") => `(tactic| ((rename Mine.St _ _ _ _ _ => wS); refine Mine.c_strInt wS (by first | assumption | exact Mine.log2_small (by omega)) ?_; clear wS; intro _ _ _))
local macro_rules | `(tactic| walk_at "call builtin:max cons cons") => `(tactic| ((rename Mine.St _ _ _ _ _ => wS); refine Mine.c_max2 wS (by assumption) ?_; clear wS; intro _ _ _))
local macro_rules | `(tactic| walk_at "call builtin:max") => `(tactic| ((rename Mine.St _ _ _ _ _ => wS); refine Mine.c_max2 wS (by assumption) ?_; clear wS; intro _ _ _))
local macro_rules | `(tactic| walk_at "call builtin:min") => `(tactic| ((rename Mine.St _ _ _ _ _ => wS); refine Mine.c_min2 wS (by assumption) ?_; clear wS; intro _ _ _))
local macro_rules | `(tactic| walk_at "binaryOp Add ref ref") => `(tactic| ((rename Mine.St _ _ _ _ _ => wS); refine Mine.l_add wS (by walk_at "mem") (by walk_at "mem") (by walk_at "size") ?_; clear wS; intro _ _ _))
local macro_rules | `(tactic| walk_at "subscriptTail") => `(tactic| ((with_reducible show wpAny _ _ (subscriptTail _ _ (Value.ref _) (Value.ref _)) _ _ _); (rename Mine.St _ _ _ _ _ => wS); k_dflt (refine Mine.l_slice wS (by walk_at "isat") (by walk_at "size") ?_ (by with_unfolding_all rfl)); clear wS; intro _ _ _))
local macro_rules | `(tactic| walk_at "tree") => `(tactic| first | (with_reducible show wpAny _ _ _ _ _ _) | (with_reducible show Mine.SliceEnd _ _ _ _) | (with_reducible show Mine.Ready _ _ _) | (with_reducible show @ite Prop _ _ _ _))
local macro_rules | `(tactic| walk_at "go") => `(tactic| repeat' ((try dsimp only); walk_at "tree"; walk1))
local macro_rules | `(tactic| walk_at "in") => `(tactic| repeat' ((try dsimp only); walk_at "tree"; (fail_if_success (with_reducible show wpAny _ _ (execs _ _) _ _ _)); walk1))
local macro_rules | `(tactic| walk_at "one") => `(tactic| ((try dsimp only); refine wpAny_execs_cons ?_; walk_at "in"))
local macro_rules | `(tactic| walk_at "sub") => `(tactic| first | exact List.Sublist.refl _ | exact List.Sublist.slnil | exact List.nil_sublist _ | (apply List.Sublist.cons_cons; walk_at "sub") | (apply List.Sublist.cons; walk_at "sub"))
local macro_rules | `(tactic| walk_at "bind") => `(tactic| first | exact Mine.Sub.nil _ | (refine Mine.Sub.cons (by with_unfolding_all rfl) ?_; walk_at "bind"))
local macro_rules | `(tactic| walk_at "subscriptTail") => `(tactic| ((with_reducible show wpAny _ _ (subscriptTail _ _ (Value.ref _) (Value.int _ _)) _ _ _); (rename Mine.St _ _ _ _ _ => wS); k_dflt first
  | (refine Mine.l_item wS (by walk_at "isat") (by omega) (by omega) (by assumption) ?_ (by with_unfolding_all rfl))
  | (refine Mine.l_last wS (by walk_at "isat") (by omega) (by omega) (by walk_at "size") (by assumption) ?_ (by with_unfolding_all rfl))))
local macro_rules | `(tactic| walk_at "subscriptTail") => `(tactic| ((with_reducible show wpAny _ _ (subscriptTail _ _ (Value.str _ _) (Value.int _ _)) _ _ _); (rename Mine.St _ _ _ _ _ => wS); k_dflt (refine Mine.t_item wS (by omega) (by omega) (by assumption) ?_ (by with_unfolding_all rfl)); clear wS; intro _ _ _))
local macro_rules | `(tactic| walk_at "truthy ref") => `(tactic| ((rename Mine.St _ _ _ _ _ => wS); k_dflt (refine Mine.l_truth wS (by walk_at "isat") (by walk_at "size") ?_); clear wS; intro _ _))
local macro_rules | `(tactic| walk_at "call builtin:list.pop") => `(tactic| ((rename Mine.St _ _ _ _ _ => wS); k_dflt (refine Mine.l_pop wS (by walk_at "upd") (by walk_at "size") ?_); clear wS; intro _ _))
local macro_rules | `(tactic| walk_at "call builtin:list.extend") => `(tactic| ((rename Mine.St _ _ _ _ _ => wS); k_dflt (refine Mine.l_extend wS (by walk_at "mem") (by walk_at "upd") (by walk_at "size") ?_); clear wS; intro _ _))
local macro_rules | `(tactic| walk_at "getMethod ref") => `(tactic| ((rename Mine.St _ _ _ _ _ => wS); first
  | ((with_reducible show wpAny _ _ (getMethod _ (Str.ofString "append") _) _ _ _); k_dflt (refine Mine.m_append wS (by walk_at "mem") ?_))
  | ((with_reducible show wpAny _ _ (getMethod _ (Str.ofString "pop") _) _ _ _); k_dflt (refine Mine.m_list (name := "pop") wS (by walk_at "isat") PySem.F.slot_list_pop PySem.F.type_list_pop (by walk_at "mem") ?_))
  | ((with_reducible show wpAny _ _ (getMethod _ (Str.ofString "remove") _) _ _ _); k_dflt (refine Mine.m_list (name := "remove") wS (by walk_at "isat") PySem.F.slot_list_remove PySem.F.type_list_remove (by walk_at "mem") ?_))
  | ((with_reducible show wpAny _ _ (getMethod _ (Str.ofString "extend") _) _ _ _); k_dflt (refine Mine.m_list (name := "extend") wS (by walk_at "isat") PySem.F.slot_list_extend PySem.F.type_list_extend (by walk_at "mem") ?_))
  | ((with_reducible show wpAny _ _ (getMethod _ (Str.ofString "count") _) _ _ _); k_dflt (refine Mine.m_list (name := "count") wS (by walk_at "isat") PySem.F.slot_list_count PySem.F.type_list_count (by walk_at "mem") ?_))))
local macro_rules | `(tactic| walk_at "binaryOp Mult ref int") => `(tactic| ((rename Mine.St _ _ _ _ _ => wS); refine Mine.l_mul wS (by walk_at "mem") (by omega) (by omega) (by simp only [List.length_cons, List.length_nil]; omega) ?_; clear wS; intro _ _ _))
local macro_rules | `(tactic| walk_at "call type:range") => `(tactic| ((rename Mine.St _ _ _ _ _ => wS); (first | refine Mine.c_range1 wS ?_ | refine Mine.c_range2 wS ?_ | refine Mine.c_rangeD wS (by omega) (by omega) (by omega) (by omega) ?_); clear wS; intro _ _ _))
local macro_rules | `(tactic| walk_at "compareOp Gt") => `(tactic| fail "by hand")
local macro_rules | `(tactic| walk_at "compareOp Lt") => `(tactic| fail "by hand")
local macro_rules | `(tactic| walk_at "binaryOp Sub bool bool") => `(tactic| ((rename Mine.St _ _ _ _ _ => wS); k_dflt (refine Mine.b_sub wS ?_); clear wS; intro _ _ _))
local macro_rules | `(tactic| walk_at "call builtin:abs") => `(tactic| ((rename Mine.St _ _ _ _ _ => wS); k_dflt (refine Mine.i_abs wS ?_); clear wS; intro _ _ _))
local macro_rules | `(tactic| walk_at "binaryOp FloorDiv int int") => `(tactic| fail "by hand")
namespace Mine
abbrev prog01 := PySem.Challenge.rw_dn0232_01.row.prog
section
variable {w : World} {p : Program} {loose : List Str} {mg mb : Str → Option Value} {A : Around} {E : Value → Shared → Prop} {s s₁ : Shared} {L a : Addr} {b : List (Str × Value)} {H : List Ent} {Q : Value → Shared → Prop}
/-- x > y and x < y are answered in every frame above this one -/
def OrdIn (s₁ : Shared) (H : List Ent) (op : CmpOp) (x y : Value) (g : Bool) : Prop := ∀ (A : Around) (s' : Shared) (L' : Addr) (b' : List (Str × Value)) (H' : List Ent), A.units + 4 < cLine → (∀ p ∈ H, p ∈ H') → St s₁ L' b' H' s' → OrdAt op A s' x y g
theorem twc_spec {x y : Value} {g l : Bool} (X : (hd01.heap_39 w.params).In s₁.heap) (TR : TopRead p loose mg mb s₁.heap) (S : St s₁ L b H s) (hroom : A.depth < recursionLimit) (hu : A.units + 8 < cLine) (hg : OrdIn s₁ H .Gt x y g) (hl : OrdIn s₁ H .Lt x y l)
    (h : ∀ s' t, St s₁ L b H s' → Q (.int (b2i g - b2i l) t) s') :
    wpAny (model prog01 w) A (call (.ref 21) [x, y]) Q E s := by
  refine call_fn S X TR.nolimit (by rfl) (by rfl) hroom (by rfl) (BindsTo.of_eq (by rfl)) (by decide) (b' := [(Str.ofString "y", y), (Str.ofString "x", x)]) (locs (by rfl)) (by rfl) ?_ (by rfl) (by rfl) (by rfl)
  clear S
  intro s' L' S'
  walk_at "go"
  rename St _ _ _ _ _ => S
  refine hg _ _ _ _ _ (by simp only [units_deeper]; omega) (fun p hp => List.mem_cons_of_mem _ hp) S _ _ _ _ ?_
  walk_at "go"
  rename St _ _ _ _ _ => S
  refine hl _ _ _ _ _ (by simp only [units_deeper]; omega) (fun p hp => List.mem_cons_of_mem _ hp) S _ _ _ _ ?_
  walk_at "go"
  rename St _ _ _ _ _ => S
  exact h _ _ S.back
theorem sign_spec {i : Int} {t : Tok} (X : (hd01.heap_39 w.params).In s₁.heap) (TR : TopRead p loose mg mb s₁.heap) (S : St s₁ L b H s) (hroom : A.depth < recursionLimit) (hh : A.handled = none)
    (h : ∀ s' t, St s₁ L b H s' → Q (.int (sgn i) t) s') :
    wpAny (model prog01 w) A (call (.ref 28) [.int i t]) Q E s := by
  refine call_fn S X TR.nolimit (by rfl) (by rfl) hroom (by rfl) (BindsTo.of_eq (by rfl)) (by decide) (b' := [(Str.ofString "gap", .int i t)]) (locs (by rfl)) (by rfl) ?_ (by rfl) (by rfl) (by rfl)
  clear S
  intro s' L' S'
  walk_at "go"
  rename St _ _ _ _ _ => S
  refine i_sign S (by split <;> split <;> omega) fun s2 t2 S2 => ?_
  clear S
  walk_at "go"
  exact h _ _ S2.back
end
end Mine
local macro_rules | `(tactic| walk_at "compareOp NotIn int ref") => `(tactic| ((rename Mine.St _ _ _ _ _ => wS); k_dflt (refine Mine.notin_set wS (by assumption) ?_); clear wS; intro _ _))
namespace Mine
/-- what _law_holds answers -/
def holds (l l' : List (Nat × Tok)) : Int := if subN l l' = subN l' l then 0 else if subN l l' then -1 else 1
/-- after i turns: the numbers so far that are not in the other set -/
def Miss (w : World) (a : Addr) (ep : Nat) (l l' : List (Nat × Tok)) (i : Nat) (ys : List Value) : Prop :=
  ∃ ns, IntsAre ys ns ∧ ys.length ≤ i ∧ (ns = [] ↔ ∀ j, j < i → ∀ hsh n t, (ordS w a ep l)[j]? = some (hsh, .int (n : Nat) t) → n ∈ nums l')
theorem Miss.zero {w : World} {a : Addr} {ep : Nat} {l l' : List (Nat × Tok)} : Miss w a ep l l' 0 [] := ⟨[], .nil, by simp, by simp⟩
theorem Miss.hit {w : World} {a : Addr} {ep : Nat} {l l' : List (Nat × Tok)} {i : Nat} {ys : List Value} {hsh : Int} {n : Nat} {t : Tok} (M : Miss w a ep l l' i ys) (h : (ordS w a ep l)[i]? = some (hsh, .int (n : Nat) t)) (hn : (nums l').contains n = true) : Miss w a ep l l' (i + 1) ys := by
  obtain ⟨ns, h1, h2, h3⟩ := M
  refine ⟨ns, h1, by omega, h3.trans ⟨fun q j hj hsh' n' t' e => ?_, fun q j hj => q j (by omega)⟩⟩
  by_cases hji : j = i
  · subst hji
    rw [h] at e
    injection e with e; injection e with _ e; injection e with e _
    have : n = n' := by omega
    subst this
    exact List.contains_iff_mem.mp hn
  · exact q j (by omega) _ _ _ e
theorem Miss.miss {w : World} {a : Addr} {ep : Nat} {l l' : List (Nat × Tok)} {i : Nat} {ys : List Value} {hsh : Int} {n : Nat} {t t' : Tok} (M : Miss w a ep l l' i ys) (h : (ordS w a ep l)[i]? = some (hsh, .int (n : Nat) t)) (hn : (nums l').contains n = false) : Miss w a ep l l' (i + 1) (ys ++ [.int (n : Nat) t']) := by
  obtain ⟨ns, h1, h2, h3⟩ := M
  refine ⟨ns ++ [(n : Int)], h1.append (.cons _ _ .nil), by simp; omega, ⟨fun q => by simp at q, fun q => ?_⟩⟩
  have := q i (by omega) _ _ _ h
  rw [List.contains_iff_mem.mpr this] at hn
  cases hn
theorem Miss.last {w : World} {a : Addr} {ep : Nat} {l l' : List (Nat × Tok)} {ys : List Value} (M : Miss w a ep l l' (nums l).length ys) : ∃ ns, IntsAre ys ns ∧ decide (ns = []) = subN l l' := by
  obtain ⟨ns, h1, h2, h3⟩ := M
  refine ⟨ns, h1, ?_⟩
  rw [Bool.eq_iff_iff, decide_eq_true_iff, h3]
  unfold subN
  rw [List.all_eq_true]
  constructor
  · intro q n hn
    obtain ⟨i, hsh, t, hi, e⟩ := ord_has (w := w) (a := a) (ep := ep) hn
    exact List.contains_iff_mem.mpr (q i hi _ _ _ e)
  · intro q j hj hsh n t e
    obtain ⟨m, u, e2, hm⟩ := ord_int e
    injection e2 with e2 _
    have : n = m := by omega
    subst this
    exact List.contains_iff_mem.mp (q n hm)
theorem St.backX {s s₁ : Shared} {L L' : Addr} {b b' : List (Str × Value)} {K H : List Ent} (S : St s₁ L' b' (K ++ (L, Frm b) :: H) s) : St s₁ L b H s := ((S.perm (List.perm_middle (l₁ := K)).symm).back).sub (List.sublist_append_right K H)
section
variable {w : World} {p : Program} {loose : List Str} {mg mb : Str → Option Value} {A : Around} {E : Value → Shared → Prop} {s s₁ : Shared} {L a c : Addr} {b : List (Str × Value)} {H : List Ent} {Q : Value → Shared → Prop}
theorem holds_spec {l l' : List (Nat × Tok)} {ep ep' : Nat} (X : (hd01.heap_39 w.params).In s₁.heap) (TR : TopRead p loose mg mb s₁.heap) (S : St s₁ L b H s) (hroom : A.depth < recursionLimit) (hu : A.units + 80 < cLine) (hh : A.handled = none)
    (ha : (a, SmAt (!byText w) l ep) ∈ H) (hc : (c, SmAt (!byText w) l' ep') ∈ H) (h : ∀ s' t, St s₁ L b H s' → Q (.int (holds l l') t) s') :
    wpAny (model prog01 w) A (call (.ref 40) [.ref a, .ref c]) Q E s := by
  refine call_fnC (fun L' => [(L' + 1 + 1, Cel (some (.ref c))), (L' + 1, Cel (some (.ref a)))]) S X TR.nolimit (by rfl) (by rfl) hroom (by rfl) (by rfl) (by rfl) (fun n => by with_unfolding_all rfl) [Str.ofString "other", Str.ofString "one"] (fun n => by with_unfolding_all rfl) (by decide) (b' := []) (fun _ _ _ e => by simp [lk] at e) (fun L' => by with_unfolding_all rfl) ?_ (by rfl) (by rfl) (by rfl)
  clear S
  intro s' L' S'
  simp only [List.cons_append, List.nil_append] at S'
  have hu64 : (A.deeper (callEnvC (fdAt (hd01.heap_39 w.params) 40) L' 40)).units + 64 < cLine := by simp only [units_deeper]; omega
  walk_at "one"
  rename St _ _ _ _ _ => S
  refine comp_set (led := !byText w) (ls := l) (ep := ep) (fun i ys H' => Miss w a ep l l' i ys ∧ H' = (L' + 1 + 1, Cel (some (.ref c))) :: (L' + 1, Cel (some (.ref a))) :: (L, Frm b) :: H) S ⟨Miss.zero, rfl⟩ (by simp [ha]) (by rintro i ys H' ⟨_, rfl⟩; simp [ha]) hh (by decide) (by rfl) (by rfl) ?_ ?_
  · clear S
    rintro C D I P i v hsh ys H' s' hv ⟨hM, rfl⟩ S
    obtain ⟨n, t, rfl, hn⟩ := ord_int hv
    have hcc : (c, SmAt (!byText w) l' ep') ∈ (D, Lst ys) :: (I, P) :: (L', Frm []) :: (L' + 1 + 1, Cel (some (.ref c))) :: (L' + 1, Cel (some (.ref a))) :: (L, Frm b) :: H := by simp [hc]
    refine tests_one ?_
    walk_at "go"
    · rename St _ _ _ _ _ => S
      rename (nums l').contains n = true => hq
      exact ⟨_, _, S, hM.hit hv hq, rfl⟩
    · rename St _ _ _ _ _ => S
      rename (nums l').contains n = false => hq
      exact ⟨_, _, S, hM.miss hv hq, rfl⟩
  · clear S
    rintro C D ys H' s' ⟨hM, rfl⟩ S
    obtain ⟨ns, hns, hdec⟩ := hM.last
    clear S
    intro s'' S
    walk_at "in"
    rename St _ _ _ _ _ => S
    rw [hdec] at S
    walk_at "one"
    rename St _ _ _ _ _ => S
    refine comp_set (led := !byText w) (ls := l') (ep := ep') (fun i ys' H' => Miss w c ep' l' l i ys' ∧ ∃ Z, H' = Z ++ (L' + 1 + 1, Cel (some (.ref c))) :: (L' + 1, Cel (some (.ref a))) :: (L, Frm b) :: H) S ⟨Miss.zero, [_, _], rfl⟩ (by simp [hc]) (by rintro i ys H' ⟨_, Z, rfl⟩; simp [hc]) hh (by decide) (by rfl) (by rfl) ?_ ?_
    · clear S
      rintro C D I P i v hsh ys H' s' hv ⟨hM, Z, rfl⟩ S
      obtain ⟨n, t, rfl, hn⟩ := ord_int hv
      have haa : (a, SmAt (!byText w) l ep) ∈ (D, Lst ys) :: (I, P) :: (L', Frm [(Str.ofString "within", .bool (subN l l'))]) :: (Z ++ (L' + 1 + 1, Cel (some (.ref c))) :: (L' + 1, Cel (some (.ref a))) :: (L, Frm b) :: H) := by simp [ha]
      have hce : (L' + 1, Cel (some (.ref a))) ∈ Z ++ (L' + 1 + 1, Cel (some (.ref c))) :: (L' + 1, Cel (some (.ref a))) :: (L, Frm b) :: H := by simp
      refine tests_one ?_
      walk_at "go"
      · rename St _ _ _ _ _ => S
        rename (nums l).contains n = true => hq
        exact ⟨_, _, S, hM.hit hv hq, Z, rfl⟩
      · rename St _ _ _ _ _ => S
        rename (nums l).contains n = false => hq
        exact ⟨_, _, S, hM.miss hv hq, Z, rfl⟩
    · clear S
      rintro C D ys H' s' ⟨hM, Z, rfl⟩ S
      obtain ⟨ns', hns', hdec'⟩ := hM.last
      clear S
      intro s'' S
      walk_at "in"
      rename St _ _ _ _ _ => S
      rw [hdec'] at S
      walk_at "go"
      · rename St _ _ _ _ _ => S
        rename (subN l l' == subN l' l) = true => q1
        have e : holds l l' = 0 := by unfold holds; rw [if_pos (by simpa using q1)]
        rw [e] at h
        exact h _ _ (St.backX (K := _ :: _ :: (Z ++ [_, _])) (by simpa using S))
      · rename St _ _ _ _ _ => S
        rename (subN l l' == subN l' l) = false => q1
        rename subN l l' = true => q2
        have e : holds l l' = -1 := by unfold holds; rw [if_neg (by simpa using q1), if_pos q2]
        rw [e] at h
        exact h _ _ (St.backX (K := _ :: _ :: (Z ++ [_, _])) (by simpa using S))
      · rename St _ _ _ _ _ => S
        rename (subN l l' == subN l' l) = false => q1
        rename subN l l' = false => q2
        have e : holds l l' = 1 := by unfold holds; rw [if_neg (by simpa using q1), if_neg (by simp [q2])]
        rw [e] at h
        exact h _ _ (St.backX (K := _ :: _ :: (Z ++ [_, _])) (by simpa using S))
end
end Mine
local macro_rules | `(tactic| walk_at "call builtin:isinstance") => `(tactic| ((rename Mine.St _ _ _ _ _ => wS); k_dflt first
  | (refine Mine.isi_int_list wS ?_; clear wS; intro _ _)
  | (refine Mine.isi_str_list wS ?_; clear wS; intro _ _)
  | (refine Mine.isi_list wS (by assumption) ?_)))
local macro_rules | `(tactic| walk_at "call type:zip") => `(tactic| ((rename Mine.St _ _ _ _ _ => wS); k_dflt first
  | (refine Mine.c_zipLL wS (by assumption) (by assumption) ?_; clear wS; intro _ _ _ _ _ _ _ _ _)
  | (refine Mine.c_zipSS wS ?_; clear wS; intro _ _ _ _ _ _ _)))
local macro_rules | `(tactic| walk_at "compareOp Lt str str") => `(tactic| (k_dflt refine Mine.t_lt ?_))
local macro_rules | `(tactic| walk_at "call ref") => `(tactic| fail "by hand")
namespace Mine
theorem lt_single {x y : Nat} : [x] < [y] ↔ x < y := by simp [List.cons_lt_cons_iff]
/-- a list of lists of whole numbers, as it lies in memory -/
def Rows (H : List Ent) (vs : List Value) (xss : List (List Int)) : Prop := vs.length = xss.length ∧ ∀ (i : Nat) v, vs[i]? = some v → ∃ r ws ns, v = .ref r ∧ (r, Lst ws) ∈ H ∧ IntsAre ws ns ∧ xss[i]? = some ns ∧ ns.length ≤ 1000
theorem Rows.mono {H H' : List Ent} {vs : List Value} {xss : List (List Int)} (h : Rows H vs xss) (hk : ∀ p ∈ H, p ∈ H') : Rows H' vs xss := ⟨h.1, fun i v e => let ⟨r, ws, ns, h1, h2, h3⟩ := h.2 i v e; ⟨r, ws, ns, h1, hk _ h2, h3⟩⟩
section
variable {w : World} {p : Program} {loose : List Str} {mg mb : Str → Option Value} {A : Around} {E : Value → Shared → Prop} {s s₁ : Shared} {L a c : Addr} {b : List (Str × Value)} {H : List Ent} {Q : Value → Shared → Prop}
theorem orderI_spec {vs us : List Value} {xs ys : List Int} (X : (hd01.heap_39 w.params).In s₁.heap) (TR : TopRead p loose mg mb s₁.heap) (S : St s₁ L b H s) (hroom : A.depth + 3 < recursionLimit) (hu : A.units + 80 < cLine) (hh : A.handled = none)
    (ha : (a, Lst vs) ∈ H) (hc : (c, Lst us) ∈ H) (hv : IntsAre vs xs) (hw : IntsAre us ys) (l1 : xs.length ≤ 1000) (l2 : ys.length ≤ 1000) (h : ∀ s' t, St s₁ L b H s' → Q (.int (ordI xs ys) t) s') :
    wpAny (model prog01 w) A (call (.ref 35) [.ref a, .ref c]) Q E s := by
  refine call_fn S X TR.nolimit (by rfl) (by rfl) (by omega) (by rfl) (BindsTo.of_eq (by rfl)) (by decide) (b' := [(Str.ofString "other", .ref c), (Str.ofString "one", .ref a)]) (locs (by rfl)) (by rfl) ?_ (by rfl) (by rfl) (by rfl)
  clear S
  intro s' L' S'
  have hvl := hv.length
  have hwl := hw.length
  have ha' : (a, Lst vs) ∈ (L, Frm b) :: H := List.mem_cons_of_mem _ ha
  have hc' : (c, Lst us) ∈ (L, Frm b) :: H := List.mem_cons_of_mem _ hc
  walk_at "one"
  rename St _ _ _ _ _ => S
  rename a ≠ _ => na
  rename c ≠ _ => nc
  refine for_zipLL (vs := vs) (us := us) (fun i b' H' => upTo (fun x y : Int => x == y) xs ys i ∧ b' = [(Str.ofString "other", .ref c), (Str.ofString "one", .ref a)] ∧ H' = (L, Frm b) :: H) S ⟨upTo.zero, rfl, rfl⟩ na nc (by rintro i b' H' ⟨_, _, rfl⟩; exact ⟨ha', hc'⟩) hh (by rfl) (by rfl) (by rfl) (by rfl) ?_ ?_
  · clear S
    rintro i v0 v1 X0 b' H' s' h0 h1 ⟨hJ, rfl, rfl⟩ S
    obtain ⟨x, t, rfl, hx⟩ := hv.at i _ h0
    obtain ⟨y, u, rfl, hy⟩ := hw.at i _ h1
    walk_at "go"
    · rename St _ _ _ _ _ => S
      rename x < y => q2
      rename x ≠ y => q1
      have e : ordI xs ys = -1 := by unfold ordI; rw [ordG_at hJ hx hy (by simpa using q1), ord1, if_pos q2]
      rw [e] at h
      exact h _ _ (St.backX S)
    · rename St _ _ _ _ _ => S
      rename ¬ x < y => q2
      rename x ≠ y => q1
      have e : ordI xs ys = 1 := by unfold ordI; rw [ordG_at hJ hx hy (by simpa using q1), ord1, if_neg q2]
      rw [e] at h
      exact h _ _ (St.backX S)
    · rename St _ _ _ _ _ => S
      rename x = y => q1
      exact ⟨_, _, S.bind (by walk_at "bind"), hJ.succ hx hy (by simpa using q1), rfl, rfl⟩
  · clear S
    rintro b' H' s' ⟨hJ, rfl, rfl⟩ S
    rw [hvl, hwl] at hJ
    walk_at "go"
    rename St _ _ _ _ _ => S
    refine sign_spec X TR S (by simp only [depth_deeper]; omega) hh fun s2 t2 S2 => ?_
    clear S
    walk_at "go"
    rw [hvl, hwl, ← ordG_end hJ]
    exact h _ _ S2.back
theorem orderT_spec {xs ys : List Nat} {tx0 ty0 : Tok} (X : (hd01.heap_39 w.params).In s₁.heap) (TR : TopRead p loose mg mb s₁.heap) (S : St s₁ L b H s) (hroom : A.depth + 3 < recursionLimit) (hu : A.units + 80 < cLine) (hh : A.handled = none)
    (l1 : xs.length ≤ 1000) (l2 : ys.length ≤ 1000) (h : ∀ s' t, St s₁ L b H s' → Q (.int (ordT xs ys) t) s') :
    wpAny (model prog01 w) A (call (.ref 35) [.str (T xs) tx0, .str (T ys) ty0]) Q E s := by
  refine call_fn S X TR.nolimit (by rfl) (by rfl) (by omega) (by rfl) (BindsTo.of_eq (by rfl)) (by decide) (b' := [(Str.ofString "other", .str (T ys) ty0), (Str.ofString "one", .str (T xs) tx0)]) (locs (by rfl)) (by rfl) ?_ (by rfl) (by rfl) (by rfl)
  clear S
  intro s' L' S'
  walk_at "one"
  rename St _ _ _ _ _ => S
  refine for_zipSS (fun i b' H' => upTo (fun x y : Nat => x == y) xs ys i ∧ b' = [(Str.ofString "other", .str (T ys) ty0), (Str.ofString "one", .str (T xs) tx0)] ∧ H' = (L, Frm b) :: H) S ⟨upTo.zero, rfl, rfl⟩ hh (by rfl) (by rfl) (by rfl) (by rfl) ?_ ?_
  · clear S
    rintro i x y t u X0 b' H' s' hx hy ⟨hJ, rfl, rfl⟩ S
    walk_at "go"
    · rename St _ _ _ _ _ => S
      rename [x] < [y] => q2
      rename ([x] != [y]) = true => q1
      have e : ordT xs ys = -1 := by unfold ordT; rw [ordG_at hJ hx hy (by simpa using q1), ord1, if_pos (lt_single.mp q2)]
      rw [e] at h
      exact h _ _ (St.backX S)
    · rename St _ _ _ _ _ => S
      rename ¬ [x] < [y] => q2
      rename ([x] != [y]) = true => q1
      have e : ordT xs ys = 1 := by unfold ordT; rw [ordG_at hJ hx hy (by simpa using q1), ord1, if_neg (fun q => q2 (lt_single.mpr q))]
      rw [e] at h
      exact h _ _ (St.backX S)
    · rename St _ _ _ _ _ => S
      rename ([x] != [y]) = false => q1
      exact ⟨_, _, S.bind (by walk_at "bind"), hJ.succ hx hy (by simpa using q1), rfl, rfl⟩
  · clear S
    rintro b' H' s' ⟨hJ, rfl, rfl⟩ S
    walk_at "go"
    rename St _ _ _ _ _ => S
    refine sign_spec X TR S (by simp only [depth_deeper]; omega) hh fun s2 t2 S2 => ?_
    clear S
    walk_at "go"
    rw [← ordG_end hJ]
    exact h _ _ S2.back
theorem orderL_spec {vs us : List Value} {xs ys : List (List Int)} (X : (hd01.heap_39 w.params).In s₁.heap) (TR : TopRead p loose mg mb s₁.heap) (S : St s₁ L b H s) (hroom : A.depth + 5 < recursionLimit) (hu : A.units + 100 < cLine) (hh : A.handled = none)
    (ha : (a, Lst vs) ∈ H) (hc : (c, Lst us) ∈ H) (hv : Rows H vs xs) (hw : Rows H us ys) (l1 : xs.length ≤ 1000) (l2 : ys.length ≤ 1000) (h : ∀ s' t, St s₁ L b H s' → Q (.int (ordL xs ys) t) s') :
    wpAny (model prog01 w) A (call (.ref 35) [.ref a, .ref c]) Q E s := by
  refine call_fn S X TR.nolimit (by rfl) (by rfl) (by omega) (by rfl) (BindsTo.of_eq (by rfl)) (by decide) (b' := [(Str.ofString "other", .ref c), (Str.ofString "one", .ref a)]) (locs (by rfl)) (by rfl) ?_ (by rfl) (by rfl) (by rfl)
  clear S
  intro s' L' S'
  have hvl := hv.1
  have hwl := hw.1
  have ha' : (a, Lst vs) ∈ (L, Frm b) :: H := List.mem_cons_of_mem _ ha
  have hc' : (c, Lst us) ∈ (L, Frm b) :: H := List.mem_cons_of_mem _ hc
  walk_at "one"
  rename St _ _ _ _ _ => S
  rename a ≠ _ => na
  rename c ≠ _ => nc
  refine for_zipLL (vs := vs) (us := us) (fun i b' H' => upTo (fun x y : List Int => decide (x = y)) xs ys i ∧ b' = [(Str.ofString "other", .ref c), (Str.ofString "one", .ref a)] ∧ H' = (L, Frm b) :: H) S ⟨upTo.zero, rfl, rfl⟩ na nc (by rintro i b' H' ⟨_, _, rfl⟩; exact ⟨ha', hc'⟩) hh (by rfl) (by rfl) (by rfl) (by rfl) ?_ ?_
  · clear S
    rintro i v0 v1 X0 b' H' s' h0 h1 ⟨hJ, rfl, rfl⟩ S
    obtain ⟨r1, w1, x, rfl, m1, i1, hx, n1⟩ := hv.2 i _ h0
    obtain ⟨r2, w2, y, rfl, m2, i2, hy, n2⟩ := hw.2 i _ h1
    have m1' : (r1, Lst w1) ∈ X0 ++ (L, Frm b) :: H := by simp [m1]
    have m2' : (r2, Lst w2) ∈ X0 ++ (L, Frm b) :: H := by simp [m2]
    walk_at "go"
    · rename St _ _ _ _ _ => S
      rename x = y => q1
      exact ⟨_, _, S.bind (by walk_at "bind"), hJ.succ hx hy (by simpa using q1), rfl, rfl⟩
    · rename St _ _ _ _ _ => S
      rename ¬ x = y => q1
      refine orderI_spec X TR S (by simp only [depth_deeper]; omega) (by simp only [units_deeper]; omega) hh m1' m2' i1 i2 n1 n2 fun s2 t2 S2 => ?_
      clear S
      walk_at "go"
      have e : ordL xs ys = ordI x y := by unfold ordL; rw [ordG_at hJ hx hy (by simpa using q1)]
      rw [e] at h
      exact h _ _ (St.backX S2)
  · clear S
    rintro b' H' s' ⟨hJ, rfl, rfl⟩ S
    rw [hvl, hwl] at hJ
    walk_at "go"
    rename St _ _ _ _ _ => S
    refine sign_spec X TR S (by simp only [depth_deeper]; omega) hh fun s2 t2 S2 => ?_
    clear S
    walk_at "go"
    rw [hvl, hwl, ← ordG_end hJ]
    exact h _ _ S2.back
end
end Mine
open PySem.SeqAt
local macro_rules | `(tactic| walk_at "compareOp Gt") => `(tactic| fail "by hand")
namespace Mine
theorem plain_sets {l l' : List (Nat × Tok)} (h : Inc (nums l)) (h' : Inc (nums l')) : b2i (decide ((nums l').length < (nums l).length) && subN l' l) - b2i (decide ((nums l).length < (nums l').length) && subN l l') = holds l l' := by
  have := sets_all _ h _ h'
  unfold holds subN
  exact this
section
variable {w : World} {p : Program} {loose : List Str} {mg mb : Str → Option Value} {A : Around} {E : Value → Shared → Prop} {s s₁ : Shared} {L a c : Addr} {b : List (Str × Value)} {H : List Ent} {Q : Value → Shared → Prop}
theorem twc_int {i j : Int} {t u : Tok} (X : (hd01.heap_39 w.params).In s₁.heap) (TR : TopRead p loose mg mb s₁.heap) (S : St s₁ L b H s) (hroom : A.depth < recursionLimit) (hu : A.units + 8 < cLine) (h : ∀ s' t, St s₁ L b H s' → Q (.int (sgn (i - j)) t) s') :
    wpAny (model prog01 w) A (call (.ref 21) [.int i t, .int j u]) Q E s :=
  twc_spec X TR S hroom hu (g := decide (j < i)) (l := decide (i < j)) (fun A' s' L' b' H' _ _ _ prog w E Q h => i_gt (A := A') h) (fun A' s' L' b' H' _ _ _ prog w E Q h => i_lt (A := A') h) fun s' t S' => by rw [plain_int]; exact h _ _ S'
theorem twc_text {x y : List Nat} {t u : Tok} (X : (hd01.heap_39 w.params).In s₁.heap) (TR : TopRead p loose mg mb s₁.heap) (S : St s₁ L b H s) (hroom : A.depth < recursionLimit) (hu : A.units + 8 < cLine) (h : ∀ s' t, St s₁ L b H s' → Q (.int (ordT x y) t) s') :
    wpAny (model prog01 w) A (call (.ref 21) [.str (T x) t, .str (T y) u]) Q E s :=
  twc_spec X TR S hroom hu (g := decide (y < x)) (l := decide (x < y)) (fun A' s' L' b' H' _ _ _ prog w E Q h => t_gt (A := A') h) (fun A' s' L' b' H' _ _ _ prog w E Q h => t_lt (A := A') h) fun s' t S' => by rw [plain_text]; exact h _ _ S'
theorem twc_ints {vs us : List Value} {xs ys : List Int} (X : (hd01.heap_39 w.params).In s₁.heap) (TR : TopRead p loose mg mb s₁.heap) (S : St s₁ L b H s) (hroom : A.depth < recursionLimit) (hu : A.units + 8 < cLine) (ha : (a, Lst vs) ∈ H) (hc : (c, Lst us) ∈ H) (hv : IntsAre vs xs) (hw : IntsAre us ys) (h : ∀ s' t, St s₁ L b H s' → Q (.int (ordI xs ys) t) s') :
    wpAny (model prog01 w) A (call (.ref 21) [.ref a, .ref c]) Q E s :=
  twc_spec X TR S hroom hu (g := gtI xs ys) (l := ltI xs ys) (fun A' s' L' b' H' hu' hk S' => OrdAt.intsGt (Lst.isList (S'.get (hk _ ha))) (Lst.isList (S'.get (hk _ hc))) hv hw (by omega)) (fun A' s' L' b' H' hu' hk S' => OrdAt.intsLt (Lst.isList (S'.get (hk _ ha))) (Lst.isList (S'.get (hk _ hc))) hv hw (by omega)) fun s' t S' => by rw [plain_ints]; exact h _ _ S'
theorem twc_sets {l l' : List (Nat × Tok)} {ep ep' : Nat} (X : (hd01.heap_39 w.params).In s₁.heap) (TR : TopRead p loose mg mb s₁.heap) (S : St s₁ L b H s) (hroom : A.depth < recursionLimit) (hu : A.units + 8 < cLine) (ha : (a, SmAt (!byText w) l ep) ∈ H) (hc : (c, SmAt (!byText w) l' ep') ∈ H) (h : ∀ s' t, St s₁ L b H s' → Q (.int (holds l l') t) s') :
    wpAny (model prog01 w) A (call (.ref 21) [.ref a, .ref c]) Q E s := by
  have g : ∀ {a : Addr} {l : List (Nat × Tok)} {ep : Nat} {s' : Shared} {L' : Addr} {b' : List (Str × Value)} {H' : List Ent}, (a, SmAt (!byText w) l ep) ∈ H' → St s₁ L' b' H' s' → ∃ o, s'.heap.get? a = some o ∧ Sm (!byText w) l o := fun hm S' => let ⟨o, ho, r⟩ := S'.get hm; ⟨o, ho, r.sm⟩
  have i1 : Inc (nums l) := let ⟨o, ho, r⟩ := S.get ha; r.1
  have i2 : Inc (nums l') := let ⟨o, ho, r⟩ := S.get hc; r.1
  exact twc_spec X TR S hroom hu (fun A' s' L' b' H' hu' hk S' => OrdAt.sets_gt (g (hk _ ha) S') (g (hk _ hc) S') (by omega)) (fun A' s' L' b' H' hu' hk S' => OrdAt.sets_lt (g (hk _ ha) S') (g (hk _ hc) S') (by omega)) fun s' t S' => by rw [plain_sets i1 i2]; exact h _ _ S'
theorem Rows.at {vs : List Value} {xss : List (List Int)} (hv : Rows H vs xss) (S : St s₁ L b H s) : RowsAt s vs ∧ vs.map (rowAt s) = xss := by
  refine ⟨fun v hm => ?_, ?_⟩
  · obtain ⟨i, hi⟩ := List.mem_iff_getElem?.mp hm
    obtain ⟨r, ws, ns, h1, h2, h3, _⟩ := hv.2 i v hi
    exact ⟨r, ws, ns, h1, Lst.isList (S.get h2), h3⟩
  · refine List.ext_getElem? fun i => ?_
    rw [List.getElem?_map]
    cases hi : vs[i]? with
    | none =>
      have : vs.length ≤ i := List.getElem?_eq_none_iff.mp hi
      rw [hv.1] at this
      rw [List.getElem?_eq_none this]; rfl
    | some v =>
      obtain ⟨r, ws, ns, rfl, h2, h3, h4, _⟩ := hv.2 i v hi
      rw [h4, Option.map_some, rowAt_eq (Lst.isList (S.get h2)) h3]
theorem twc_rows {vs us : List Value} {xs ys : List (List Int)} (X : (hd01.heap_39 w.params).In s₁.heap) (TR : TopRead p loose mg mb s₁.heap) (S : St s₁ L b H s) (hroom : A.depth < recursionLimit) (hu : A.units + 8 < cLine) (ha : (a, Lst vs) ∈ H) (hc : (c, Lst us) ∈ H) (hv : Rows H vs xs) (hw : Rows H us ys) (h : ∀ s' t, St s₁ L b H s' → Q (.int (ordL xs ys) t) s') :
    wpAny (model prog01 w) A (call (.ref 21) [.ref a, .ref c]) Q E s :=
  twc_spec X TR S hroom hu (g := gtL xs ys) (l := ltL xs ys)
    (fun A' s' L' b' H' hu' hk S' => by
      have h1 := (hv.mono hk).at S'
      have h2 := (hw.mono hk).at S'
      have := OrdAt.rowsGt (Lst.isList (S'.get (hk _ ha))) (Lst.isList (S'.get (hk _ hc))) h1.1 h2.1 (A := A') (by omega)
      rw [h1.2, h2.2] at this
      exact this)
    (fun A' s' L' b' H' hu' hk S' => by
      have h1 := (hv.mono hk).at S'
      have h2 := (hw.mono hk).at S'
      have := OrdAt.rowsLt (Lst.isList (S'.get (hk _ ha))) (Lst.isList (S'.get (hk _ hc))) h1.1 h2.1 (A := A') (by omega)
      rw [h1.2, h2.2] at this
      exact this) fun s' t S' => by rw [plain_rows]; exact h _ _ S'
/-- three_way_cmp of two things of unlike kinds raises -/
theorem twc_raises {x y : Value} {T U : String} {l : List Env} (X : (hd01.heap_39 w.params).In s₁.heap) (TR : TopRead p loose mg mb s₁.heap) (S : St s₁ L b H s) (hroom : A.depth < recursionLimit) (hu : A.units + 8 < cLine) (hh : A.handled = none) (hfr : A.frames = some l)
    (hF : FrsIn L H l) (hx : ∀ s' L' b', St s₁ L' b' ((L, Frm b) :: H) s' → Kin s' x T) (hy : ∀ s' L' b', St s₁ L' b' ((L, Frm b) :: H) s' → Kin s' y U) (hne : T ≠ U) :
    wpAny (model prog01 w) A (call (.ref 21) [x, y]) Q (RaisF s₁ L "TypeError" l (fun b' H' => b' = b ∧ H' = H)) s := by
  refine call_fnE (fun b' H' => b' = b ∧ H' = H) hfr (fun H1 h1 => by rw [h1.2]; exact hF) S X TR.nolimit (by rfl) (by rfl) hroom (by rfl) (BindsTo.of_eq (by rfl)) (by decide) (b' := [(Str.ofString "y", y), (Str.ofString "x", x)]) (locs (by rfl)) (by rfl) ?_ (by rfl) (by rfl) (by rfl)
  clear S
  intro s' L' S'
  walk_at "go"
  rename St _ _ _ _ _ => S
  refine gt_raises (hx _ _ _ S) (hy _ _ _ S) hne hh (by simp only [units_deeper]; omega) fun h' tk e hn => ?_
  exact ⟨_, _, _, h', tk, e, rfl, rfl, S, hn, [], H, rfl, rfl, rfl⟩
end
end Mine
local macro_rules | `(tactic| walk_at "upd") => `(tactic| (first | exact Mine.Upd.head _ | exact Mine.Kof_upd (by assumption) | (apply Mine.Upd.tail; walk_at "upd")))
namespace Mine
noncomputable abbrev fd01 (w : World) := fdAt (hd01.heap_39 w.params) 45
noncomputable abbrev env01 (w : World) (L fa : Addr) (cd : Value) := envOf (fd01 w).name (fd01 w).scope L fa cd
abbrev refs (ps : List (Addr × List Value)) : List Value := ps.map fun p => Value.ref p.1
abbrev HA (P : Addr) (ps : List (Addr × List Value)) : List Ent := (P, Lst (refs ps)) :: Kof ps
/-- the pieces: at least one, at most 24, of whole numbers, at most n long -/
def Pcs (n : Nat) (ps : List (Addr × List Value)) : Prop := ps ≠ [] ∧ ps.length ≤ 24 ∧ ∀ p ∈ ps, p.2.length ≤ n ∧ ∃ ns, IntsAre p.2 ns
theorem refs_set {ps : List (Addr × List Value)} {k : Nat} {a : Addr} {v v' : List Value} (h : ps[k]? = some (a, v)) : refs (ps.set k (a, v')) = refs ps := by
  refine List.ext_getElem? fun i => ?_
  simp only [refs, List.getElem?_map, List.getElem?_set]
  by_cases hki : k = i
  · subst hki
    rw [h]
    have : k < ps.length := (List.getElem?_eq_some_iff.mp h).1
    simp [this]
  · simp [hki]
section
variable {w : World} {p : Program} {loose : List Str} {mg mb : Str → Option Value} {A : Around} {s s₁ : Shared} {L l fa : Addr} {cd : Value} {Q : Flow → Shared → Prop}
theorem part01A {vs : List Value} {ns : List Int} (X : (hd01.heap_39 w.params).In s₁.heap) (TR : TopRead p loose mg mb s₁.heap) (hL : s₁.heap.IsList l vs.toArray) (hI : IntsAre vs ns) (hlen : ns.length ≤ 63)
    (hh : A.handled = none) (hd : A.depth + 20 < recursionLimit) (hu : A.units + 200 < cLine) (S : St s₁ L [(Str.ofString "script", .ref l)] [] s)
    (h : ∀ s' P ps, St s₁ L [(Str.ofString "pieces", .ref P)] (HA P ps) s' → Pcs 63 ps → wpAny (model prog01 w) A (execs ((bodyAt (fd01 w)).drop 2) (env01 w L fa cd)) Q (fun _ _ => False) s') :
    wpAny (model prog01 w) A (execs (bodyAt (fd01 w)) (env01 w L fa cd)) Q (fun _ _ => False) s := by
  have hvl := hI.length
  walk_at "one"
  rename St _ _ _ _ _ => S
  obtain ⟨P, r, e1, S2⟩ : ∃ P r, Value.ref P = Value.ref _ ∧ St s₁ L [(Str.ofString "pieces", .ref P), (Str.ofString "script", .ref l)] (HA P [(r, [])]) _ := ⟨_, _, rfl, S.bind (by walk_at "bind")⟩
  clear S e1
  walk_at "one"
  rename St _ _ _ _ _ => S
  refine for_list (vs := vs) (fun i b' H' => ∃ ps, b' = [(Str.ofString "pieces", .ref P), (Str.ofString "script", .ref l)] ∧ H' = HA P ps ∧ Pcs i ps) S ⟨[(r, [])], rfl, rfl, by simp, by simp, fun p hp => by rw [List.mem_singleton.mp hp]; exact ⟨by simp, [], .nil⟩⟩ (Or.inr hL) (fun _ _ _ _ => Or.inr hL) hh (by with_unfolding_all rfl) (by with_unfolding_all rfl) (by with_unfolding_all rfl) ?_ ?_
  · clear S
    rintro I i v b' H' s' hv ⟨ps, rfl, rfl, hP⟩ S
    have hi : i < vs.length := (List.getElem?_eq_some_iff.mp hv).1
    obtain ⟨x, t, rfl, hn⟩ := hI.at i v hv
    obtain ⟨hne, h24, hall⟩ := hP
    have hpos : 0 < ps.length := List.length_pos_iff.mpr hne
    obtain ⟨q, hq⟩ : ∃ q, ps[ps.length - 1]? = some q := ⟨ps[ps.length - 1], List.getElem?_eq_getElem (by omega)⟩
    obtain ⟨qa, qv⟩ := q
    have hqm : (qa, qv) ∈ ps := List.mem_of_getElem? hq
    have hql := hall _ hqm
    have hqz : qv.length ≤ sizeLine := by rw [sizeLine_eq]; have := hql.1; simp only at this; omega
    have hrl : (refs ps).length = ps.length := by simp
    have hlast : (refs ps)[((-1 : Int) + ((refs ps).length : Int)).toNat]? = some (.ref qa) := by
      rw [hrl, show ((-1 : Int) + (ps.length : Int)).toNat = ps.length - 1 by omega, List.getElem?_map, hq]; rfl
    have hmq : (qa, Lst qv) ∈ Kof ps := Kof_mem hqm
    walk_at "go"
    · rename St _ _ _ _ _ => S
      rename (((refs ps).length : Nat) : Int) < 24 => q24
      rename Addr => D0
      refine ⟨_, HA P (ps ++ [(D0, [])]), (S.bind (by walk_at "bind")).perm ?_, ps ++ [(D0, [])], rfl, rfl, by simp, by simp; rw [hrl] at q24; omega, fun p hp => ?_⟩
      · have e : HA P (ps ++ [(D0, [])]) = (P, Lst (refs ps ++ [.ref D0])) :: (Kof ps ++ [(D0, Lst [])]) := by simp [HA, refs, Kof]
        rw [e]
        have := List.perm_middle (l₁ := (I, LI l (i + 1)) :: (P, Lst (refs ps ++ [.ref D0])) :: Kof ps) (l₂ := []) (a := ((D0, Lst []) : Ent))
        simpa using this
      · rcases List.mem_append.mp hp with hp | hp
        · exact ⟨by have := (hall p hp).1; omega, (hall p hp).2⟩
        · rw [List.mem_singleton.mp hp]; exact ⟨by simp, [], .nil⟩
    all_goals
      rename St _ _ _ _ _ => S
      have er : refs (ps.set (ps.length - 1) (qa, qv ++ [Value.int x t])) = refs ps := refs_set hq
      refine ⟨_, _, S.bind (by walk_at "bind"), ps.set (ps.length - 1) (qa, qv ++ [Value.int x t]), rfl, by simp only [HA, er], by simpa using hne, by simpa using h24, fun p hp => ?_⟩
      rcases List.mem_or_eq_of_mem_set hp with hp | rfl
      · exact ⟨by have := (hall p hp).1; omega, (hall p hp).2⟩
      · obtain ⟨n1, ns1, hn1⟩ := hql
        exact ⟨by simp only [List.length_append, List.length_cons, List.length_nil]; simp only at n1; omega, ns1 ++ [x], hn1.append (.cons x t .nil)⟩
  · clear S
    rintro b' H' s' ⟨ps, rfl, rfl, hP⟩ S
    rw [hvl] at hP
    exact h s' P ps (S.bind (by walk_at "bind")) ⟨hP.1, hP.2.1, fun p hp => ⟨by have := (hP.2.2 p hp).1; omega, (hP.2.2 p hp).2⟩⟩
end
end Mine
local macro_rules | `(tactic| walk_at "call type:set") => `(tactic| fail "by hand")
local macro_rules | `(tactic| walk_at "call builtin:str.join") => `(tactic| fail "by hand")
namespace Mine
/-- one way: where its list lies, the number, the piece, the text, the set -/
structure Way where
  a : Addr
  k : Int
  ts : Tok
  r : Addr
  tx : List Nat
  tt : Tok
  st : Addr
  ls : List (Nat × Tok)
  ep : Nat
def Way.row (y : Way) : List Value := [.int y.k y.ts, .ref y.r, .str (T y.tx) y.tt, .ref y.st]
def Way.ents (w : World) (y : Way) : List Ent := [(y.a, Lst y.row), (y.st, SmAt (!byText w) y.ls y.ep)]
def Ways (w : World) (ys : List Way) : List Ent := ys.flatMap (Way.ents w)
/-- the ways fit the pieces -/
def WOk (ps : List (Addr × List Value)) (ys : List Way) : Prop := ∀ (i : Nat) y, ys[i]? = some y → (∃ q, ps[i]? = some q ∧ y.r = q.1) ∧ y.tx.length ≤ 63
theorem perm_two (K M N : List Ent) (x y : Ent) : (K ++ (M ++ ([x, y] ++ N))).Perm (x :: y :: (K ++ (M ++ N))) := by
  have e : K ++ (M ++ ([x, y] ++ N)) = (K ++ M) ++ x :: (y :: N) := by simp
  rw [e]
  refine List.perm_middle.trans (.cons _ ?_)
  refine List.perm_middle.trans (.cons _ ?_)
  simp
theorem len1 : ∀ cs : List Nat, ((cs.map fun c => [c]).map List.length).sum = cs.length
  | [] => rfl
  | c :: cs => by simp only [List.map_cons, List.sum_cons, List.length_cons, List.length_nil]; rw [len1 cs]; omega
theorem WOk.snoc {ps : List (Addr × List Value)} {ys : List Way} {y : Way} {q : Addr × List Value} (h : WOk ps ys) (hq : ps[ys.length]? = some q) (hr : y.r = q.1) (ht : y.tx.length ≤ 63) : WOk ps (ys ++ [y]) := fun i z e => by
  by_cases hi : i < ys.length
  · rw [List.getElem?_append_left hi] at e; exact h i z e
  · rw [List.getElem?_append_right (by omega)] at e
    have : i = ys.length := by
      have := (List.getElem?_eq_some_iff.mp e).1
      simp at this; omega
    subst this
    simp at e; subst e
    exact ⟨⟨q, hq, hr⟩, ht⟩
theorem Ways.snoc (w : World) (ys : List Way) (y : Way) : Ways w (ys ++ [y]) = Ways w ys ++ Way.ents w y := by simp [Ways]
section
variable {w : World} {p : Program} {loose : List Str} {mg mb : Str → Option Value} {A : Around} {s s₁ : Shared} {L l fa P : Addr} {cd : Value} {Q : Flow → Shared → Prop} {ps : List (Addr × List Value)}
theorem part01B (X : (hd01.heap_39 w.params).In s₁.heap) (TR : TopRead p loose mg mb s₁.heap) (hh : A.handled = none) (hd : A.depth + 20 < recursionLimit) (hu : A.units + 200 < cLine) (S : St s₁ L [(Str.ofString "pieces", .ref P)] (HA P ps) s) (hP : Pcs 63 ps)
    (h : ∀ s' W ys, ys.length = ps.length → WOk ps ys → St s₁ L [(Str.ofString "ways", .ref W), (Str.ofString "pieces", .ref P)] ((W, Lst (ys.map fun y => .ref y.a)) :: (Ways w ys ++ HA P ps)) s' → wpAny (model prog01 w) A (execs ((bodyAt (fd01 w)).drop 3) (env01 w L fa cd)) Q (fun _ _ => False) s') :
    wpAny (model prog01 w) A (execs ((bodyAt (fd01 w)).drop 2) (env01 w L fa cd)) Q (fun _ _ => False) s := by
  have hrl : (refs ps).length = ps.length := by simp
  walk_at "one"
  rename St _ _ _ _ _ => S
  refine comp_list (vs := refs ps) (fun i ys' H' => ∃ ys, ys' = ys.map (fun y => Value.ref y.a) ∧ ys.length = i ∧ WOk ps ys ∧ H' = Ways w ys ++ HA P ps) S ⟨[], rfl, rfl, fun i y e => by simp at e, rfl⟩ (by rw [hrl, sizeLine_eq]; have := hP.2.1; omega) (Or.inl (by simp)) (by rintro i ys' H' ⟨ys, _, _, _, rfl⟩; exact Or.inl (by simp)) hh (by decide) (by rfl) (by rfl) ?_ ?_
  · clear S
    rintro C D I i v ys' H' s' hv ⟨ys, rfl, rfl, hW, rfl⟩ S
    have hi : ys.length < ps.length := by have := (List.getElem?_eq_some_iff.mp hv).1; rw [hrl] at this; exact this
    obtain ⟨q, hq⟩ : ∃ q, ps[ys.length]? = some q := ⟨_, List.getElem?_eq_getElem hi⟩
    obtain ⟨r, vs⟩ := q
    have ev : v = .ref r := by rw [List.getElem?_map, hq] at hv; injection hv with hv; exact hv.symm
    subst ev
    obtain ⟨hvl, ns, hns⟩ := hP.2.2 _ (List.mem_of_getElem? hq)
    simp only at hvl hns
    have hnl := hns.length
    have hmem : (r, Lst vs) ∈ Kof ps := Kof_mem (List.mem_of_getElem? hq)
    have hm2 : ∀ K : List Ent, (r, Lst vs) ∈ K ++ (Ways w ys ++ HA P ps) := fun K => by simp [hmem]
    have hm3 := hm2 [(D, Lst (ys.map fun y => Value.ref y.a)), (I, LI P (ys.length + 1)), (L, Frm [(Str.ofString "pieces", .ref P)])]
    simp only [List.cons_append, List.nil_append] at hm3
    refine tests_nil ?_
    walk_at "go"
    rename St _ _ _ _ _ => S
    refine comp_list (vs := vs) (fun i zs H' => H' = (D, Lst (ys.map fun y => Value.ref y.a)) :: (I, LI P (ys.length + 1)) :: (L, Frm [(Str.ofString "pieces", .ref P)]) :: (Ways w ys ++ HA P ps) ∧ ∃ cs : List Nat, TxAre zs (cs.map fun c => [c]) ∧ cs.length = i) S ⟨rfl, [], .nil, rfl⟩ (by rw [sizeLine_eq]; omega) (Or.inl hm3) (by rintro i zs H' ⟨rfl, _⟩; exact Or.inl hm3) hh (by decide) (by rfl) (by rfl) ?_ ?_
    · clear S
      rintro C2 D2 I2 i v zs H' s' hv ⟨rfl, cs, hcs, rfl⟩ S
      obtain ⟨x, t, rfl, hx⟩ := hns.at _ v hv
      have g1 : 0 ≤ x % 3 := Int.emod_nonneg _ (by decide)
      have g2 : x % 3 < 3 := Int.emod_lt_of_pos _ (by decide)
      have l3 : (tx "abc").length = 3 := by decide +kernel
      obtain ⟨ch, hch⟩ : ∃ ch, (tx "abc")[(x % 3).toNat]? = some ch := ⟨_, List.getElem?_eq_getElem (by rw [l3]; omega)⟩
      refine tests_nil ?_
      walk_at "go"
      rename St _ _ _ _ _ => S
      exact ⟨_, _, S, rfl, cs ++ [ch], by rw [List.map_append]; exact hcs.append (.cons _ _ .nil), by simp⟩
    · clear S
      rintro C2 D2 zs H' s' ⟨rfl, cs, hcs, hcl⟩ S
      clear S
      intro s'' S
      have hm4 := List.mem_cons_of_mem (D2, Lst zs) hm3
      walk_at "go"
      rename St _ _ _ _ _ => S
      refine c_join S (Or.inl (by simp)) hcs (by decide +kernel) (by rw [len1, sizeLine_eq]; omega) fun s5 t5 S5 => ?_
      clear S
      have hfl : (cs.map fun c => [c]).flatten.length ≤ 63 := by rw [List.length_flatten, len1]; omega
      generalize (cs.map fun c => [c]).flatten = txt at hfl S5
      walk_at "go"
      rename St _ _ _ _ _ => S
      refine comp_list (vs := vs) (fun i zs' H' => H' = (D2, Lst zs) :: (D, Lst (ys.map fun y => Value.ref y.a)) :: (I, LI P (ys.length + 1)) :: (L, Frm [(Str.ofString "pieces", .ref P)]) :: (Ways w ys ++ HA P ps) ∧ ∃ ms : List Nat, IntsAre zs' (ms.map fun n : Nat => (n : Int)) ∧ ms.length = i ∧ ∀ n ∈ ms, n < 4) S ⟨rfl, [], .nil, rfl, by simp⟩ (by rw [sizeLine_eq]; omega) (Or.inl hm4) (by rintro i zs H' ⟨rfl, _⟩; exact Or.inl hm4) hh (by decide) (by rfl) (by rfl) ?_ ?_
      · clear S
        rintro C3 D3 I3 i v zs' H' s' hv ⟨rfl, ms, hms, rfl, h4⟩ S
        obtain ⟨x, t, rfl, hx⟩ := hns.at _ v hv
        have g1 : 0 ≤ x % 4 := Int.emod_nonneg _ (by decide)
        have g2 : x % 4 < 4 := Int.emod_lt_of_pos _ (by decide)
        refine tests_nil ?_
        walk_at "go"
        rename St _ _ _ _ _ => S
        refine ⟨_, _, S, rfl, ms ++ [(x % 4).toNat], ?_, by simp, fun n hn => ?_⟩
        · rw [List.map_append]
          refine hms.append ?_
          have e : ((x % 4).toNat : Int) = x % 4 := by omega
          simp only [List.map_cons, List.map_nil, e]
          exact .cons _ _ .nil
        · rcases List.mem_append.mp hn with hn | hn
          · exact h4 n hn
          · rw [List.mem_singleton.mp hn]; omega
      · clear S
        rintro C3 D3 zs' H' s' ⟨rfl, ms, hms, hml, h4⟩ S
        clear S
        intro s6 S
        walk_at "go"
        rename St _ _ _ _ _ => S
        refine c_setA (l := D3) S (by simp) hh hms h4 fun s7 D4 ls ep _ S7 => ?_
        clear S
        walk_at "go"
        rename St _ _ _ _ _ => S
        rename Addr => D5
        obtain ⟨ts, S8⟩ : ∃ ts, St s₁ C [(Str.ofString "p", .ref r)] ((D5, Lst [.int ns.sum ts, .ref r, .str (T txt) t5, .ref D4]) :: (D4, SmAt (!byText w) ls ep) :: (D3, Lst zs') :: (D2, Lst zs) :: (D, Lst (ys.map fun y => Value.ref y.a)) :: (I, LI P (ys.length + 1)) :: (L, Frm [(Str.ofString "pieces", .ref P)]) :: (Ways w ys ++ HA P ps)) _ := ⟨_, S⟩
        clear S
        refine ⟨_, Ways w (ys ++ [⟨D5, ns.sum, ts, r, txt, t5, D4, ls, ep⟩]) ++ HA P ps, (S8.sub (.cons_cons _ (.cons_cons _ (.cons _ (.cons _ (.refl _)))))).perm ?_, ys ++ [⟨D5, ns.sum, ts, r, txt, t5, D4, ls, ep⟩], by simp, by simp, hW.snoc hq rfl hfl, rfl⟩
        rw [Ways.snoc, List.append_assoc]
        simp only [Way.ents, Way.row]
        have := perm_two [(D, Lst (ys.map fun y => Value.ref y.a)), (I, LI P (ys.length + 1)), (L, Frm [(Str.ofString "pieces", .ref P)])] (Ways w ys) (HA P ps) (D5, Lst [.int ns.sum ts, .ref r, .str (T txt) t5, .ref D4]) (D4, SmAt (!byText w) ls ep)
        exact this
  · clear S
    rintro C D ys' H' s' ⟨ys, rfl, hyl, hW, rfl⟩ S
    unfold CompDone
    walk_at "in"
    rename St _ _ _ _ _ => S
    exact ⟨_, _, S, fun s₃ S₃ => h s₃ D ys (by rw [hyl, hrl]) hW (S₃.bind (by walk_at "bind"))⟩
end
end Mine
namespace Mine
/-- what the loops read -/
structure Here (w : World) (H : List Ent) (P W : Addr) (ps : List (Addr × List Value)) (ys : List Way) : Prop where
  hP : Pcs 63 ps
  mP : (P, Lst (refs ps)) ∈ H
  mW : (W, Lst (ys.map fun y => .ref y.a)) ∈ H
  mp : ∀ q ∈ ps, (q.1, Lst q.2) ∈ H
  ma : ∀ y ∈ ys, (y.a, Lst y.row) ∈ H
  ms : ∀ y ∈ ys, (y.st, SmAt (!byText w) y.ls y.ep) ∈ H
  len : ys.length = ps.length
  ok : WOk ps ys
theorem Here.of {w : World} {P W : Addr} {ps : List (Addr × List Value)} {ys : List Way} (hP : Pcs 63 ps) (len : ys.length = ps.length) (ok : WOk ps ys) : Here w ((W, Lst (ys.map fun y => .ref y.a)) :: (Ways w ys ++ HA P ps)) P W ps ys where
  hP := hP
  mP := by simp [HA]
  mW := by simp
  mp := fun q hq => by
    have := Kof_mem hq
    simp [HA, this]
  ma := fun y hy => List.mem_cons_of_mem _ (List.mem_append_left _ (List.mem_flatMap.mpr ⟨y, hy, by simp [Way.ents]⟩))
  ms := fun y hy => List.mem_cons_of_mem _ (List.mem_append_left _ (List.mem_flatMap.mpr ⟨y, hy, by simp [Way.ents]⟩))
  len := len
  ok := ok
theorem Here.mono {w : World} {H H' : List Ent} {P W : Addr} {ps : List (Addr × List Value)} {ys : List Way} (h : Here w H P W ps ys) (hk : ∀ p ∈ H, p ∈ H') : Here w H' P W ps ys :=
  ⟨h.hP, hk _ h.mP, hk _ h.mW, fun q hq => hk _ (h.mp q hq), fun q hq => hk _ (h.ma q hq), fun q hq => hk _ (h.ms q hq), h.len, h.ok⟩
/-- one way's own things -/
structure WayIn (w : World) (H : List Ent) (y : Way) (vs : List Value) (xs : List Int) : Prop where
  a : (y.a, Lst y.row) ∈ H
  r : (y.r, Lst vs) ∈ H
  st : (y.st, SmAt (!byText w) y.ls y.ep) ∈ H
  isInts : IntsAre vs xs
  short : xs.length ≤ 63
  text : y.tx.length ≤ 63
theorem WayIn.mono {w : World} {H H' : List Ent} {y : Way} {vs : List Value} {xs : List Int} (h : WayIn w H y vs xs) (hk : ∀ p ∈ H, p ∈ H') : WayIn w H' y vs xs := ⟨hk _ h.a, hk _ h.r, hk _ h.st, h.isInts, h.short, h.text⟩
theorem Here.at {w : World} {H : List Ent} {P W : Addr} {ps : List (Addr × List Value)} {ys : List Way} (h : Here w H P W ps ys) {i : Nat} {y : Way} (hi : ys[i]? = some y) : ∃ vs xs, WayIn w H y vs xs := by
  obtain ⟨⟨q, hq, hr⟩, ht⟩ := h.ok i y hi
  have hm := List.mem_of_getElem? hq
  have hy := List.mem_of_getElem? hi
  obtain ⟨hl, ns, hns⟩ := h.hP.2.2 q hm
  exact ⟨q.2, ns, h.ma y hy, by rw [hr]; exact h.mp q hm, h.ms y hy, hns, by rw [← hns.length]; exact hl, ht⟩
theorem cut_map {α β : Type} (f : α → β) (l : List α) (lo hi : Option Int) : cut (l.map f) lo hi = (cut l lo hi).map f := by
  unfold cut
  rw [List.length_map, List.map_drop, List.map_take]
theorem cut_sub {α : Type} {l : List α} {lo hi : Option Int} {x : α} (h : x ∈ cut l lo hi) : x ∈ l := List.mem_of_mem_take (List.mem_of_mem_drop h)
abbrev rowsOf (ps : List (Addr × List Value)) (lo hi : Option Int) : List (List Int) := (cut ps lo hi).map fun q => q.2.map iv
theorem Here.rows {w : World} {H : List Ent} {P W : Addr} {ps : List (Addr × List Value)} {ys : List Way} (h : Here w H P W ps ys) (lo hi : Option Int) : Rows H (cut (refs ps) lo hi) (rowsOf ps lo hi) := by
  have e : cut (refs ps) lo hi = (cut ps lo hi).map fun p => Value.ref p.1 := cut_map _ _ _ _
  rw [e]
  refine ⟨by simp, fun i v hv => ?_⟩
  rw [List.getElem?_map] at hv
  cases hq : (cut ps lo hi)[i]? with
  | none => rw [hq] at hv; cases hv
  | some q =>
    rw [hq] at hv
    injection hv with hv
    subst hv
    have hm := cut_sub (List.mem_of_getElem? hq)
    obtain ⟨hl, ns, hns⟩ := h.hP.2.2 q hm
    refine ⟨q.1, q.2, ns, rfl, h.mp q hm, hns, ?_, by rw [← hns.length]; omega⟩
    rw [List.getElem?_map, hq, Option.map_some, ints_map hns]
theorem Here.rows_len {w : World} {H : List Ent} {P W : Addr} {ps : List (Addr × List Value)} {ys : List Way} (h : Here w H P W ps ys) (lo hi : Option Int) : (rowsOf ps lo hi).length ≤ 1000 := by
  have := cut_len_le ps lo hi
  have := h.hP.2.1
  rw [List.length_map]; omega
/-- the four answers -/
abbrev wans (y z : Way) (xs zs : List Int) : List Int := [sgn (y.k - z.k), ordI xs zs, ordT y.tx z.tx, holds y.ls z.ls]
/-- the kinds of the four things -/
def kindName : Nat → String
  | 0 => "int"
  | 1 => "list"
  | 2 => "str"
  | _ => "set"
section
variable {w : World} {p : Program} {loose : List Str} {mg mb : Str → Option Value} {A : Around} {E : Value → Shared → Prop} {s s₁ : Shared} {L a c : Addr} {b : List (Str × Value)} {H : List Ent} {Q : Value → Shared → Prop}
theorem twc_at {k : Nat} {y z : Way} {v0 v1 : Value} {vs us : List Value} {xs zs : List Int} (h0 : y.row[k]? = some v0) (h1 : z.row[k]? = some v1) (X : (hd01.heap_39 w.params).In s₁.heap) (TR : TopRead p loose mg mb s₁.heap) (S : St s₁ L b H s) (hroom : A.depth < recursionLimit) (hu : A.units + 8 < cLine)
    (hy : WayIn w H y vs xs) (hz : WayIn w H z us zs) (h : ∀ n s' t, (wans y z xs zs)[k]? = some n → St s₁ L b H s' → Q (.int n t) s') :
    wpAny (model prog01 w) A (call (.ref 21) [v0, v1]) Q E s := by
  match k, h0, h1, h with
  | 0, h0, h1, h =>
    injection h0 with h0; injection h1 with h1; subst h0 h1
    exact twc_int X TR S hroom hu fun s' t S' => h _ s' t rfl S'
  | 1, h0, h1, h =>
    injection h0 with h0; injection h1 with h1; subst h0 h1
    exact twc_ints X TR S hroom hu hy.r hz.r hy.isInts hz.isInts fun s' t S' => h _ s' t rfl S'
  | 2, h0, h1, h =>
    injection h0 with h0; injection h1 with h1; subst h0 h1
    exact twc_text X TR S hroom hu fun s' t S' => h _ s' t rfl S'
  | 3, h0, h1, h =>
    injection h0 with h0; injection h1 with h1; subst h0 h1
    exact twc_sets X TR S hroom hu hy.st hz.st fun s' t S' => h _ s' t rfl S'
  | k + 4, h0, h1, h => simp [Way.row] at h0
theorem kind_at {k : Nat} {y : Way} {v0 : Value} {vs : List Value} {xs : List Int} (h0 : y.row[k]? = some v0) (hy : WayIn w H y vs xs) (S : St s₁ L b H s) : Kin s v0 (kindName k) := by
  match k, h0 with
  | 0, h0 => injection h0 with h0; subst h0; exact .int _ _
  | 1, h0 =>
    injection h0 with h0; subst h0
    obtain ⟨n, hl⟩ := lst_get S hy.r
    exact .list hl
  | 2, h0 => injection h0 with h0; subst h0; exact .str _ _
  | 3, h0 =>
    injection h0 with h0; subst h0
    obtain ⟨o, ho, r⟩ := S.get hy.st
    obtain ⟨_, rfl⟩ := r
    exact .set ho
  | k + 4, h0 => simp [Way.row] at h0
theorem kindName_inj {j k : Nat} (hj : j < 4) (hk : k < 4) (h : j ≠ k) : kindName j ≠ kindName k := by
  have : ∀ j k : Fin 4, j ≠ k → kindName j.val ≠ kindName k.val := by decide
  exact this ⟨j, hj⟩ ⟨k, hk⟩ fun e => h (congrArg Fin.val e)
end
def firstBody : List Stmt → List Stmt
  | .For _ _ body _ _ :: _ => body
  | _ => []
end Mine
local macro_rules | `(tactic| walk_at "exec Assign cons ListComp") => `(tactic| (refine Mine.ex_compP (by with_unfolding_all rfl) (by first | exact closureFor_none (by with_unfolding_all decide) | with_unfolding_all rfl) (by with_unfolding_all rfl) (by with_unfolding_all decide) ?_ (by intro _; with_unfolding_all rfl)))
local macro_rules | `(tactic| walk_at "call type:zip") => `(tactic| ((rename Mine.St _ _ _ _ _ => wS); k_dflt (refine Mine.c_zipLL wS (by walk_at "mem") (by walk_at "mem") ?_; clear wS; intro _ _ _ _ _ _ _ _ _)))
local macro_rules | `(tactic| walk_at "call ref") => `(tactic| fail "by hand")
local macro_rules | `(tactic| walk_at "compareOp NotEq ref ref") => `(tactic| fail "by hand")
local macro_rules | `(tactic| walk_at "call builtin:isinstance") => `(tactic| ((rename Mine.St _ _ _ _ _ => wS); k_dflt (refine Mine.isi_int_bool wS ?_; clear wS; intro _ _)))
namespace Mine
noncomputable abbrev turn01 (w : World) := firstBody (firstBody ((bodyAt (fd01 w)).drop 3))
abbrev B01 (ti tj : Tok) (i j : Nat) (W P : Addr) : List (Str × Value) := [(Str.ofString "j", .int (0 + (j : Nat)) tj), (Str.ofString "i", .int (0 + (i : Nat)) ti), (Str.ofString "ways", .ref W), (Str.ofString "pieces", .ref P)]
section
variable {w : World} {p : Program} {loose : List Str} {mg mb : Str → Option Value} {A : Around} {s s₁ : Shared} {L l fa P W : Addr} {cd : Value} {Q : Flow → Shared → Prop} {ps : List (Addr × List Value)} {ys : List Way} {H : List Ent} {i j : Nat} {ti tj : Tok} {y z : Way}
theorem turn01A {vs us : List Value} {xs zs : List Int} (X : (hd01.heap_39 w.params).In s₁.heap) (TR : TopRead p loose mg mb s₁.heap) (hh : A.handled = none) (hd : A.depth + 20 < recursionLimit) (hu : A.units + 200 < cLine) (K : Here w H P W ps ys) (hi : ys[i]? = some y) (hj : ys[j]? = some z) (hi4 : i < 24) (hj4 : j < 24)
    (hy : WayIn w H y vs xs) (hz : WayIn w H z us zs) (S : St s₁ L (B01 ti tj i j W P) H s)
    (h : ∀ s' to ts H', (∀ p ∈ H, p ∈ H') → H.Sublist H' → IntsAre ts (wans y z xs zs ++ [ordL (rowsOf ps (some (0 + (i : Nat))) (some (0 + (i : Nat) + 2))) (rowsOf ps (some (0 + (j : Nat))) (some (0 + (j : Nat) + 2)))]) → ts.length = 5 → (to, Lst ts) ∈ H' → St s₁ L ((Str.ofString "told", .ref to) :: (Str.ofString "one", .ref y.a) :: (Str.ofString "other", .ref z.a) :: B01 ti tj i j W P) H' s' → wpAny (model prog01 w) A (execs ((turn01 w).drop 3) (env01 w L fa cd)) Q (fun _ _ => False) s') :
    wpAny (model prog01 w) A (execs (turn01 w) (env01 w L fa cd)) Q (fun _ _ => False) s := by
  have mW := K.mW
  have mP := K.mP
  have mya := hy.a
  have mza := hz.a
  have wi : (ys.map fun y => Value.ref y.a)[(0 + ((i : Nat) : Int)).toNat]? = some (.ref y.a) := by rw [show (0 + ((i : Nat) : Int)).toNat = i by omega, List.getElem?_map, hi]; rfl
  have wj : (ys.map fun y => Value.ref y.a)[(0 + ((j : Nat) : Int)).toNat]? = some (.ref z.a) := by rw [show (0 + ((j : Nat) : Int)).toNat = j by omega, List.getElem?_map, hj]; rfl
  have hsz : (refs ps).length ≤ sizeLine := by have := K.hP.2.1; simp only [List.length_map, sizeLine_eq]; omega
  walk_at "one"
  rename St _ _ _ _ _ => S
  have S1 : St s₁ L ((Str.ofString "one", .ref y.a) :: (Str.ofString "other", .ref z.a) :: B01 ti tj i j W P) H _ := (S.bind (by walk_at "bind")).sub (by walk_at "sub")
  clear S
  walk_at "one"
  rename St _ _ _ _ _ => S
  rename y.a ≠ _ => na
  rename z.a ≠ _ => nc
  refine comp_zipLL (vs := y.row) (us := z.row) (fun k ts H' => H' = H ∧ IntsAre ts ((wans y z xs zs).take k)) S ⟨rfl, .nil⟩ na nc (by rw [sizeLine_eq]; show 4 ≤ _; decide) (by rintro k ts H' ⟨rfl, _⟩; exact ⟨mya, mza⟩) hh (by decide) (by decide) (by rfl) (by rfl) (by rfl) ?_ ?_
  · clear S
    rintro C D k v0 v1 X0 ts H' s' h0 h1 ⟨eH, hts⟩ S
    cases eH
    walk_at "go"
    rename St _ _ _ _ _ => S
    refine twc_at h0 h1 X TR S (by omega) (by omega) (hy.mono fun p hp => by simp [hp]) (hz.mono fun p hp => by simp [hp]) fun n s2 t hn S2 => ?_
    exact ⟨_, _, S2, rfl, by rw [List.take_add_one, hn]; exact hts.append (.cons _ _ .nil)⟩
  · clear S
    rintro C D ts H' s' ⟨eH, hts⟩ S
    cases eH
    refine comp_use S (by with_unfolding_all rfl) (by with_unfolding_all rfl) (by with_unfolding_all rfl) ?_
    clear S
    intro s2 S
    have hts4 : IntsAre ts (wans y z xs zs) := hts
    have htl : ts.length = 4 := hts4.length
    have hsz5 : ts.length ≤ sizeLine := by rw [htl, sizeLine_eq]; decide
    have S1 : St s₁ L ((Str.ofString "told", .ref D) :: (Str.ofString "one", .ref y.a) :: (Str.ofString "other", .ref z.a) :: B01 ti tj i j W P) ((D, Lst ts) :: H) _ := (S.bind (by walk_at "bind")).sub (by walk_at "sub")
    clear S
    walk_at "one"
    rename St _ _ _ _ _ => S
    refine twc_rows X TR S (by omega) (by omega) (by walk_at "mem") (by walk_at "mem") ((K.rows _ _).mono fun p hp => by simp [hp]) ((K.rows _ _).mono fun p hp => by simp [hp]) fun s2 t S2 => ?_
    clear S
    walk_at "in"
    rename St _ _ _ _ _ => S
    exact h _ D (ts ++ [.int _ t]) _ (fun p hp => by simp [hp]) (.cons _ (.cons _ (.cons _ (.refl _)))) (hts4.append (.cons _ _ .nil)) (by rw [List.length_append, htl]; rfl) (List.mem_cons_of_mem _ (List.mem_cons_of_mem _ (List.mem_cons_self ..))) (S.bind (by walk_at "bind"))
theorem l_neSame {prog : Program} {A : Around} {E : Value → Shared → Prop} {L a c : Addr} {b : List (Str × Value)} {Q : Value → Shared → Prop} {vs us : List Value} {ns : List Int} (S : St s₁ L b H s) (ha : IsAt s₁ H a vs) (hc : IsAt s₁ H c us) (hv : IntsAre vs ns) (hw : IntsAre us ns) (hu : A.units + 64 < cLine) (h : Q (.bool false) s) :
    wpAny (model prog w) A (compareOp .NotEq (.ref a) (.ref c)) Q E s := l_neInts S ha hc hv hw hu (by simpa using h)
theorem turn01B {vs us ts : List Value} {xs zs : List Int} {to : Addr} (X : (hd01.heap_39 w.params).In s₁.heap) (TR : TopRead p loose mg mb s₁.heap) (hh : A.handled = none) (hd : A.depth + 20 < recursionLimit) (hu : A.units + 200 < cLine) (K : Here w H P W ps ys) (hi4 : i < 24) (hj4 : j < 24)
    (hy : WayIn w H y vs xs) (hz : WayIn w H z us zs) (hts : IntsAre ts (wans y z xs zs ++ [ordL (rowsOf ps (some (0 + (i : Nat))) (some (0 + (i : Nat) + 2))) (rowsOf ps (some (0 + (j : Nat))) (some (0 + (j : Nat) + 2)))])) (htl : ts.length = 5) (mto : (to, Lst ts) ∈ H)
    (S : St s₁ L ((Str.ofString "told", .ref to) :: (Str.ofString "one", .ref y.a) :: (Str.ofString "other", .ref z.a) :: B01 ti tj i j W P) H s)
    (h : ∀ s' H', H.Sublist H' → St s₁ L (B01 ti tj i j W P) H' s' → Q .next s') :
    wpAny (model prog01 w) A (execs ((turn01 w).drop 3) (env01 w L fa cd)) Q (fun _ _ => False) s := by
  have mP := K.mP
  have mya := hy.a
  have mza := hz.a
  have hsz : (refs ps).length ≤ sizeLine := by have := K.hP.2.1; simp only [List.length_map, sizeLine_eq]; omega
  have hu64 : A.units + 64 < cLine := by omega
  have hsz5 : ts.length ≤ sizeLine := by rw [htl, sizeLine_eq]; decide
  have y0 : y.row[(0 : Int).toNat]? = some (.int y.k y.ts) := rfl
  have y1 : y.row[(1 : Int).toNat]? = some (.ref y.r) := rfl
  have y2 : y.row[(2 : Int).toNat]? = some (.str (T y.tx) y.tt) := rfl
  have y3 : y.row[(3 : Int).toNat]? = some (.ref y.st) := rfl
  have z0 : z.row[(0 : Int).toNat]? = some (.int z.k z.ts) := rfl
  have z1 : z.row[(1 : Int).toNat]? = some (.ref z.r) := rfl
  have z2 : z.row[(2 : Int).toNat]? = some (.str (T z.tx) z.tt) := rfl
  have z3 : z.row[(3 : Int).toNat]? = some (.ref z.st) := rfl
  have sy := hy.short
  have sz := hz.short
  have ty := hy.text
  have tz := hz.text
  walk_at "one"
  rename St _ _ _ _ _ => S
  refine sign_spec X TR S (by omega) hh fun s2 t2 S2 => ?_
  clear S
  walk_at "in"
  rename St _ _ _ _ _ => S
  refine orderI_spec X TR S (by omega) (by omega) hh hy.r hz.r hy.isInts hz.isInts (by omega) (by omega) fun s3 t3 S3 => ?_
  clear S
  walk_at "in"
  rename St _ _ _ _ _ => S
  refine orderT_spec X TR S (by omega) (by omega) hh (by omega) (by omega) fun s4 t4 S4 => ?_
  clear S
  walk_at "in"
  rename St _ _ _ _ _ => S
  rename Addr => du
  have S1 : St s₁ L ((Str.ofString "due", .ref du) :: (Str.ofString "told", .ref to) :: (Str.ofString "one", .ref y.a) :: (Str.ofString "other", .ref z.a) :: B01 ti tj i j W P) _ _ := S.bind (by walk_at "bind")
  clear S
  walk_at "one"
  rename St _ _ _ _ _ => S
  refine holds_spec X TR S (by omega) (by omega) hh (List.mem_cons_of_mem _ hy.st) (List.mem_cons_of_mem _ hz.st) fun s5 t5 S5 => ?_
  clear S
  walk_at "in"
  rename St _ _ _ _ _ => S
  refine orderL_spec X TR S (by omega) (by omega) hh (by walk_at "mem") (by walk_at "mem") ((K.rows _ _).mono fun p hp => by simp [hp]) ((K.rows _ _).mono fun p hp => by simp [hp]) (K.rows_len _ _) (K.rows_len _ _) fun s6 t6 S6 => ?_
  clear S
  walk_at "in"
  rename St _ _ _ _ _ => S
  walk_at "one"
  rename St _ _ _ _ _ => S
  refine l_neSame S (by walk_at "isat") (by walk_at "isat") hts (.cons _ _ (.cons _ _ (.cons _ _ (.cons _ _ (.cons _ _ .nil))))) hu64 ?_
  walk_at "in"
  rename St _ _ _ _ _ => S
  obtain ⟨Hc, hsub, S1⟩ : ∃ Hc, H.Sublist Hc ∧ St s₁ L (B01 ti tj i j W P) Hc _ := ⟨_, by walk_at "sub", S.bind (by walk_at "bind")⟩
  clear S
  have mto2 := hsub.subset mto
  refine comp_list (vs := ts) (fun k zs' H' => zs' = [] ∧ H' = Hc) S1 ⟨rfl, rfl⟩ hsz5 (Or.inl mto2) (by rintro k zs' H' ⟨_, rfl⟩; exact Or.inl mto2) hh (by decide) (by rfl) (by rfl) ?_ ?_
  · clear S1
    rintro C D I k v zs' H' s' hv ⟨rfl, eH⟩ S
    cases eH
    obtain ⟨x, t, rfl, hx⟩ := hts.at _ v hv
    refine tests_one ?_
    walk_at "go"
    rename St _ _ _ _ _ => S
    exact ⟨_, _, S, by trivial, by trivial⟩
  · clear S1
    rintro C D zs' H' s' ⟨rfl, eH⟩ S
    cases eH
    clear S
    intro s7 S
    walk_at "go"
    all_goals first
      | (rename St _ _ _ _ _ => S
         exact h _ _ (hsub.trans (by walk_at "sub")) (S.bind (by walk_at "bind")))
      | (exfalso; rename (!decide _) = true => q; simp at q)
end
end Mine
local macro_rules | `(tactic| walk_at "exec Try") => `(tactic| fail "by hand")
local macro_rules | `(tactic| walk_at "call ref") => `(tactic| fail "by hand")
namespace Mine
noncomputable abbrev turn01T (w : World) := firstBody (firstBody (firstBody ((bodyAt (fd01 w)).drop 4)))
section
variable {w : World} {p : Program} {loose : List Str} {mg mb : Str → Option Value} {A : Around} {s s₁ : Shared} {L l fa P W : Addr} {cd : Value} {Q : Flow → Shared → Prop} {ps : List (Addr × List Value)} {ys : List Way} {H : List Ent} {i j : Nat} {ti tj : Tok} {y z : Way}
abbrev T01 (ti tj : Tok) (i j : Nat) (r : Addr) : List (Str × Value) := [(Str.ofString "b", .int (0 + (j : Nat)) tj), (Str.ofString "a", .int (0 + (i : Nat)) ti), (Str.ofString "one", .ref r)]
theorem tryTurn {vs : List Value} {xs : List Int} (X : (hd01.heap_39 w.params).In s₁.heap) (TR : TopRead p loose mg mb s₁.heap) (hh : A.handled = none) (hd : A.depth + 20 < recursionLimit) (hu : A.units + 200 < cLine) (hfr : A.frames = some [env01 w L fa cd]) (hi : i < 4) (hj : j < 4)
    (hy : WayIn w H y vs xs) (S : St s₁ L (T01 ti tj i j y.a) H s) (h : ∀ s', St s₁ L (T01 ti tj i j y.a) H s' → Q .next s') :
    wpAny (model prog01 w) A (execs (turn01T w) (env01 w L fa cd)) Q (fun _ _ => False) s := by
  have mya := hy.a
  have hrl : y.row.length = 4 := rfl
  obtain ⟨v0, h0⟩ : ∃ v, y.row[i]? = some v := ⟨_, List.getElem?_eq_getElem (by omega)⟩
  obtain ⟨v1, h1⟩ : ∃ v, y.row[j]? = some v := ⟨_, List.getElem?_eq_getElem (by omega)⟩
  have wi : y.row[(0 + ((i : Nat) : Int)).toNat]? = some v0 := by rw [show (0 + ((i : Nat) : Int)).toNat = i by omega]; exact h0
  have wj : y.row[(0 + ((j : Nat) : Int)).toNat]? = some v1 := by rw [show (0 + ((j : Nat) : Int)).toNat = j by omega]; exact h1
  have hF : FrsIn L H [env01 w L fa cd] := fun env0 he => by rw [List.mem_singleton.mp he]; exact ⟨by show ScopeKind.function ≠ ScopeKind.module; decide, L, rfl, Or.inl rfl⟩
  by_cases hij : i = j
  · have e : ((0 + ((i : Nat) : Int)) != (0 + ((j : Nat) : Int))) = false := by subst hij; simp
    refine ex_post (fun s' => St s₁ L ((Str.ofString "refused", .bool false) :: T01 ti tj i j y.a) H s') ?_ ?_
    · refine ex_tryF (s₁ := s₁) (L := L) (X := "TypeError") (T := "TypeError") (l := []) (fun _ _ => False) hfr (by rfl) (by kernel_rfl) (by kernel_rfl) (by kernel_rfl) ?_ ?_ ?_
      · walk_at "go"
        rename St _ _ _ _ _ => S
        refine twc_at (k := i) (y := y) (z := y) h0 (by rw [hij]; exact h1) X TR S (by omega) (by omega) hy hy fun n s' t hn S' => ?_
        clear S
        walk_at "go"
        rename St _ _ _ _ _ => S
        exact ⟨rfl, S.bind (by walk_at "bind")⟩
      · intro b H s' e E' Q' S hf hq
        exact hf.elim
      · intro b H s' e S hf
        exact hf.elim
    · clear S
      intro s' S
      walk_at "go"
      all_goals first | (rename St _ _ _ _ _ => S; exact h _ (S.bind (by walk_at "bind"))) | (exfalso; rename (_ != (_ != _)) = true => q; rw [e] at q; exact absurd q (by decide))
  · have e : ((0 + ((i : Nat) : Int)) != (0 + ((j : Nat) : Int))) = true := by simp only [bne_iff_ne, ne_eq]; omega
    refine ex_post (fun s' => St s₁ L ((Str.ofString "refused", .bool true) :: T01 ti tj i j y.a) H s') ?_ ?_
    · refine ex_tryF (s₁ := s₁) (L := L) (X := "TypeError") (T := "TypeError") (l := []) (fun b' H' => b' = T01 ti tj i j y.a ∧ H' = H) hfr (by rfl) (by kernel_rfl) (by kernel_rfl) (by kernel_rfl) ?_ ?_ ?_
      · walk_at "go"
        rename St _ _ _ _ _ => S
        exact twc_raises (T := kindName i) (U := kindName j) X TR S (by omega) (by omega) hh hfr hF (fun s' L' b' S' => kind_at h0 (hy.mono fun p hp => List.mem_cons_of_mem _ hp) S') (fun s' L' b' S' => kind_at h1 (hy.mono fun p hp => List.mem_cons_of_mem _ hp) S') (kindName_inj hi hj hij)
      · clear S
        rintro b' H' s' e E' Q' S ⟨rfl, rfl⟩ hq
        walk_at "eval Name"
        exact hq
      · clear S
        rintro b' H' s' e S ⟨rfl, rfl⟩
        walk_at "go"
        rename St _ _ _ _ _ => S
        exact ⟨rfl, S.bind (by walk_at "bind")⟩
    · clear S
      intro s' S
      walk_at "go"
      all_goals first | (rename St _ _ _ _ _ => S; exact h _ (S.bind (by walk_at "bind"))) | (exfalso; rename (_ != (_ != _)) = true => q; rw [e] at q; exact absurd q (by decide))
theorem part01D (X : (hd01.heap_39 w.params).In s₁.heap) (TR : TopRead p loose mg mb s₁.heap) (hh : A.handled = none) (hd : A.depth + 20 < recursionLimit) (hu : A.units + 200 < cLine) (hfr : A.frames = some [env01 w L fa cd]) (K : Here w H P W ps ys)
    (S : St s₁ L [(Str.ofString "ways", .ref W)] H s) (hQ : ∀ s' b H, St s₁ L b H s' → Q (.ret (.bool true)) s') :
    wpAny (model prog01 w) A (execs ((bodyAt (fd01 w)).drop 4) (env01 w L fa cd)) Q (fun _ _ => False) s := by
  walk_at "one"
  rename St _ _ _ _ _ => S
  refine for_list (vs := ys.map fun y => Value.ref y.a) (fun i b' H' => b' = [] ∧ H' = H) (S.bind (b' := []) (by walk_at "bind")) ⟨rfl, rfl⟩ (Or.inl K.mW) (by rintro i b' H' ⟨_, rfl⟩; exact Or.inl K.mW) hh (by with_unfolding_all rfl) (by with_unfolding_all rfl) (by with_unfolding_all rfl) ?_ ?_
  · clear S
    rintro I k v b' H' s' hv ⟨rfl, rfl⟩ S
    obtain ⟨y, hy, rfl⟩ : ∃ y, ys[k]? = some y ∧ v = .ref y.a := by
      rw [List.getElem?_map] at hv
      cases hq : ys[k]? with
      | none => rw [hq] at hv; cases hv
      | some y => rw [hq] at hv; injection hv with hv; exact ⟨y, rfl, hv.symm⟩
    obtain ⟨vs, xs, hw⟩ := K.at hy
    walk_at "one"
    rename St _ _ _ _ _ => S
    refine for_range1 (fun _ b' H'' => b' = [(Str.ofString "one", .ref y.a)] ∧ H'' = (I, LI W (k + 1)) :: H') (S.bind (b' := [(Str.ofString "one", .ref y.a)]) (by walk_at "bind")) ⟨rfl, rfl⟩ (by decide) (by decide) (by decide) (by decide) hh (by with_unfolding_all rfl) (by with_unfolding_all rfl) (by with_unfolding_all rfl) ?_ ?_
    · clear S
      rintro I1 P1 i ti b' H'' s' hi ⟨rfl, rfl⟩ S
      walk_at "one"
      rename St _ _ _ _ _ => S
      refine for_range1 (fun _ b' H'' => b' = [(Str.ofString "a", .int (0 + (i : Nat)) ti), (Str.ofString "one", .ref y.a)] ∧ H'' = (I1, P1) :: (I, LI W (k + 1)) :: H') (S.bind (b' := [(Str.ofString "a", .int (0 + (i : Nat)) ti), (Str.ofString "one", .ref y.a)]) (by walk_at "bind")) ⟨rfl, rfl⟩ (by decide) (by decide) (by decide) (by decide) hh (by with_unfolding_all rfl) (by with_unfolding_all rfl) (by with_unfolding_all rfl) ?_ ?_
      · clear S
        rintro I2 P2 j tj b' H'' s' hj ⟨rfl, rfl⟩ S
        refine tryTurn (i := i) (j := j) (ti := ti) (tj := tj) X TR hh hd hu hfr (by omega) (by omega) (hw.mono (H' := (I2, P2) :: (I1, P1) :: (I, LI W (k + 1)) :: H') fun p hp => List.mem_cons_of_mem _ (List.mem_cons_of_mem _ (List.mem_cons_of_mem _ hp))) (S.bind (by walk_at "bind")) fun s2 S2 => ?_
        exact ⟨_, _, S2.bind (by walk_at "bind"), rfl, rfl⟩
      · clear S
        rintro b' H'' s' ⟨rfl, rfl⟩ S
        walk_at "in"
        all_goals (try walk_at "go")
        exact ⟨_, _, S.bind (by walk_at "bind"), rfl, rfl⟩
    · clear S
      rintro b' H'' s' ⟨rfl, rfl⟩ S
      walk_at "in"
      all_goals (try walk_at "go")
      exact ⟨_, _, S.bind (by walk_at "bind"), rfl, rfl⟩
  · clear S
    rintro b' H' s' ⟨rfl, rfl⟩ S
    walk_at "go"
    rename St _ _ _ _ _ => S
    exact hQ _ _ _ S
end
end Mine
namespace Mine
section
variable {w : World} {p : Program} {loose : List Str} {mg mb : Str → Option Value} {A : Around} {s s₁ : Shared} {L l fa P W : Addr} {cd : Value} {Q : Flow → Shared → Prop} {ps : List (Addr × List Value)} {ys : List Way} {H : List Ent}
theorem part01C (X : (hd01.heap_39 w.params).In s₁.heap) (TR : TopRead p loose mg mb s₁.heap) (hh : A.handled = none) (hd : A.depth + 20 < recursionLimit) (hu : A.units + 200 < cLine) (K : Here w H P W ps ys)
    (S : St s₁ L [(Str.ofString "ways", .ref W), (Str.ofString "pieces", .ref P)] H s) (h : ∀ s', St s₁ L [(Str.ofString "ways", .ref W)] H s' → wpAny (model prog01 w) A (execs ((bodyAt (fd01 w)).drop 4) (env01 w L fa cd)) Q (fun _ _ => False) s') :
    wpAny (model prog01 w) A (execs ((bodyAt (fd01 w)).drop 3) (env01 w L fa cd)) Q (fun _ _ => False) s := by
  have mP := K.mP
  have hrl : (refs ps).length = ps.length := by simp
  have h24 := K.hP.2.1
  have hsz : (refs ps).length ≤ sizeLine := by rw [hrl, sizeLine_eq]; omega
  have hlen := K.len
  walk_at "one"
  rename St _ _ _ _ _ => S
  refine for_range1 (fun _ b' H' => b' = [(Str.ofString "ways", .ref W), (Str.ofString "pieces", .ref P)] ∧ H' = H) S ⟨rfl, rfl⟩ (by decide) (by decide) (by omega) (by omega) hh (by with_unfolding_all rfl) (by with_unfolding_all rfl) (by with_unfolding_all rfl) ?_ ?_
  · clear S
    rintro I1 P1 i ti b' H' s' hi ⟨rfl, eH⟩ S
    cases eH
    have mP1 := List.mem_cons_of_mem (I1, P1) mP
    walk_at "one"
    rename St _ _ _ _ _ => S
    refine for_range1 (fun _ b' H' => b' = [(Str.ofString "i", .int (0 + (i : Nat)) ti), (Str.ofString "ways", .ref W), (Str.ofString "pieces", .ref P)] ∧ H' = (I1, P1) :: H) (S.bind (b' := [(Str.ofString "i", .int (0 + (i : Nat)) ti), (Str.ofString "ways", .ref W), (Str.ofString "pieces", .ref P)]) (by walk_at "bind")) ⟨rfl, rfl⟩ (by decide) (by decide) (by omega) (by omega) hh (by with_unfolding_all rfl) (by with_unfolding_all rfl) (by with_unfolding_all rfl) ?_ ?_
    · clear S
      rintro I2 P2 j tj b' H' s' hj ⟨rfl, eH⟩ S
      cases eH
      have hi' : i < ys.length := by omega
      have hj' : j < ys.length := by omega
      have K2 : Here w ((I2, P2) :: (I1, P1) :: H) P W ps ys := K.mono fun p hp => List.mem_cons_of_mem _ (List.mem_cons_of_mem _ hp)
      obtain ⟨vs, xs, hy⟩ := K2.at (List.getElem?_eq_getElem hi')
      obtain ⟨us, zs, hz⟩ := K2.at (List.getElem?_eq_getElem hj')
      refine turn01A X TR hh hd hu K2 (List.getElem?_eq_getElem hi') (List.getElem?_eq_getElem hj') (by omega) (by omega) hy hz (S.bind (by walk_at "bind")) fun s2 to ts H2 hk hsub hts htl mto S2 => ?_
      refine turn01B X TR hh hd hu (K2.mono hk) (by omega) (by omega) (hy.mono hk) (hz.mono hk) hts htl mto S2 fun s3 H3 hs3 S3 => ?_
      exact ⟨_, _, (S3.sub (hsub.trans hs3)).bind (by walk_at "bind"), rfl, rfl⟩
    · clear S
      rintro b' H' s' ⟨rfl, eH⟩ S
      cases eH
      walk_at "in"
      all_goals (try walk_at "go")
      exact ⟨_, _, S.bind (by walk_at "bind"), rfl, rfl⟩
  · clear S
    rintro b' H' s' ⟨rfl, eH⟩ S
    cases eH
    exact h _ (S.bind (by walk_at "bind"))
theorem law01_body {vs : List Value} {ns : List Int} (X : (hd01.heap_39 w.params).In s₁.heap) (TR : TopRead p loose mg mb s₁.heap) (hL : s₁.heap.IsList l vs.toArray) (hI : IntsAre vs ns) (hlen : ns.length ≤ 63)
    (hh : A.handled = none) (hd : A.depth + 20 < recursionLimit) (hu : A.units + 200 < cLine) (hfr : A.frames = some [env01 w L fa cd]) (S : St s₁ L [(Str.ofString "script", .ref l)] [] s) (hQ : ∀ s' b H, St s₁ L b H s' → Q (.ret (.bool true)) s') :
    wpAny (model prog01 w) A (execs (bodyAt (fd01 w)) (env01 w L fa cd)) Q (fun _ _ => False) s := by
  refine part01A X TR hL hI hlen hh hd hu S fun s2 P ps S2 hP => ?_
  refine part01B X TR hh hd hu S2 hP fun s3 W ys hl hW S3 => ?_
  have K := Here.of (w := w) (P := P) (W := W) hP hl hW
  refine part01C X TR hh hd hu K S3 fun s4 S4 => ?_
  exact part01D X TR hh hd hu hfr K S4 hQ
end
end Mine
open Mine in
theorem PySem.Challenge.cw_dn0232_01_holds : PySem.Challenge.rw_dn0232_01.Holds := by
  refine Mine.hd01 ?_
  k_go0
  rename Fr _ _ _ _ => F0
  rename Top _ _ _ _ _ _ => T0
  rename Frag.In _ _ => KX
  rename Heap.IsList _ _ _ => hL
  rename IntsAre _ _ => hI
  rename ¬ (_ < _) => hlen
  rename Shared.gens _ = _ => hg
  refine wpAny_mono (law01_body KX (topRead_of T0) hL hI (by omega) (by rfl) (by simp only [depth_deeper, depth_caller]; decide) (by simp only [units_deeper, units_caller]; decide) (Around.frames_deeper rfl) (law_start0 _ F0 (lk1 (by rfl))) (fun s' b H S' => law_end S' hg (by intro _; rfl) (by with_unfolding_all exact postW_of (by rfl) (by exact w_eq_bool (w_res rfl) w_lit) (by rfl)))) (fun _ _ q => q) (fun _ _ q => q.elim)
