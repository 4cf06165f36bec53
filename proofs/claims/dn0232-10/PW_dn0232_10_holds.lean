import PyProof.Rows.All
import Wide.All
import OpenK.AllK
import Wide.FinOn
import PySem.Challenge.RW_dn0232_10
open PySem PySem.W PySem.Calls PyProof.Rows
set_option Elab.async false
set_option maxRecDepth 100000
set_option maxHeartbeats 4000000
set_option linter.unusedVariables false
set_option linter.unusedSimpArgs false
namespace Mine

/-! ### names known of a frame -/
def lk : List (Str × Value) → Str → Option Value
  | [], _ => none
  | (n, v) :: r, x => if n = x then some v else lk r x
def up (x : Str) (v : Value) : List (Str × Value) → List (Str × Value)
  | [] => [(x, v)]
  | (n, u) :: r => if n = x then (n, v) :: r else (n, u) :: up x v r
theorem lk_up (x y : Str) (v : Value) : ∀ b, lk (up x v b) y = if y = x then some v else lk b y
  | [] => by simp only [up, lk]; by_cases h : x = y <;> simp [h, eq_comm]
  | (n, u) :: r => by
    simp only [up]
    by_cases h : n = x
    · subst h; simp only [if_true, lk]
      by_cases h2 : n = y
      · simp [h2]
      · simp [h2, Ne.symm h2, eq_comm]
    · simp only [if_neg h, lk, lk_up x y v r]
      by_cases h2 : n = y
      · subst h2; simp [h]
      · simp [h2]
/-- all that `b` says, `b'` says -/
def Sub (b' b : List (Str × Value)) : Prop := ∀ x v, lk b x = some v → lk b' x = some v
theorem Sub.nil (b) : Sub b [] := fun _ _ h => by simp [lk] at h
theorem Sub.cons {b' b : List (Str × Value)} {n : Str} {u : Value} (h : lk b' n = some u) (hs : Sub b' b) : Sub b' ((n, u) :: b) := fun x v e => by
  simp only [lk] at e
  by_cases hn : n = x
  · subst hn; simp at e; subst e; exact h
  · simp [hn] at e; exact hs x v e

/-! ### what a made object is -/
abbrev Ent := Addr × (Obj → Prop)
def Frm (b : List (Str × Value)) (o : Obj) : Prop := ∃ es ep, o.data = .dict es ep ∧ StrKeys es ∧ ∀ x v, lk b x = some v → nsFind es x = some v
def Lst (vs : List Value) (o : Obj) : Prop := o.cls = .type "list" ∧ o.dict = none ∧ o.slots = #[] ∧ ∃ n, o.data = .seq vs.toArray n
def Tup (vs : List Value) (o : Obj) : Prop := o.cls = .type "tuple" ∧ o.dict = none ∧ o.slots = #[] ∧ ∃ n, o.data = .seq vs.toArray n
theorem Frm.weak {b b' : List (Str × Value)} {o : Obj} (h : Frm b' o) (hs : Sub b' b) : Frm b o := let ⟨es, ep, h1, h2, h3⟩ := h; ⟨es, ep, h1, h2, fun x v e => h3 x v (hs x v e)⟩

structure St (s₁ : Shared) (L : Addr) (b : List (Str × Value)) (H : List Ent) (s : Shared) : Prop where
  ns : ∃ o, s.heap.get? L = some o ∧ Frm b o
  keep : ∀ a o, s₁.heap.get? a = some o → s.heap.get? a = some o
  fr : s₁.heap.get? L = none
  nw : ∀ p ∈ H, ∃ o, s.heap.get? p.1 = some o ∧ p.2 o
  fresh : ∀ p ∈ H, p.1 ≠ L ∧ s₁.heap.get? p.1 = none
  nd : (H.map (·.1)).Nodup
  eq : ∃ h tk, s = { s₁ with heap := h, toks := tk }

/-! ### changing one entry -/
inductive Upd (a : Addr) (P P' : Obj → Prop) : List Ent → List Ent → Prop
  | head (r) : Upd a P P' ((a, P) :: r) ((a, P') :: r)
  | tail (p) {r r'} : Upd a P P' r r' → Upd a P P' (p :: r) (p :: r')
  | appL {r r'} (q) : Upd a P P' r r' → Upd a P P' (r ++ q) (r' ++ q)
  | appR (q) {r r'} : Upd a P P' r r' → Upd a P P' (q ++ r) (q ++ r')
theorem Upd.split {a P P' H H'} (U : Upd a P P' H H') : ∃ x y, H = x ++ (a, P) :: y ∧ H' = x ++ (a, P') :: y := by
  induction U with
  | head r => exact ⟨[], r, rfl, rfl⟩
  | tail p _ ih => obtain ⟨x, y, rfl, rfl⟩ := ih; exact ⟨p :: x, y, rfl, rfl⟩
  | appL q _ ih => obtain ⟨x, y, rfl, rfl⟩ := ih; exact ⟨x, y ++ q, by simp, by simp⟩
  | appR q _ ih => obtain ⟨x, y, rfl, rfl⟩ := ih; exact ⟨q ++ x, y, by simp, by simp⟩
theorem Upd.mem {a P P' H H'} (U : Upd a P P' H H') : (a, P) ∈ H := by obtain ⟨x, y, rfl, _⟩ := U.split; simp

section
variable {s₁ s : Shared} {L : Addr} {b : List (Str × Value)} {H H' : List Ent}

theorem St.get (S : St s₁ L b H s) {a : Addr} {P : Obj → Prop} (h : (a, P) ∈ H) : ∃ o, s.heap.get? a = some o ∧ P o := S.nw _ h
theorem St.tok (S : St s₁ L b H s) (k : Nat) : St s₁ L b H { s with toks := k } :=
  ⟨S.ns, S.keep, S.fr, S.nw, S.fresh, S.nd, let ⟨h, tk, e⟩ := S.eq; ⟨h, k, by rw [e]⟩⟩

theorem St.size (S : St s₁ L b H s) : s₁.heap.get? s.heap.objs.size = none ∧ s.heap.objs.size ≠ L ∧ ∀ p ∈ H, p.1 ≠ s.heap.objs.size := by
  refine ⟨?_, ?_, ?_⟩
  · cases h : s₁.heap.get? s.heap.objs.size with
    | none => rfl
    | some o => exact absurd (Heap.lt_size (S.keep _ _ h)) (Nat.lt_irrefl _)
  · obtain ⟨o, ho, _⟩ := S.ns; exact Nat.ne_of_gt (Heap.lt_size ho)
  · intro p hp; obtain ⟨o, ho, _⟩ := S.nw p hp; exact Nat.ne_of_lt (Heap.lt_size ho)

/-- any later heap that keeps all -/
theorem St.ext (S : St s₁ L b H s) {h' : Heap} (k : Nat) (hk : ∀ a o, s.heap.get? a = some o → h'.get? a = some o) : St s₁ L b H { s with heap := h', toks := k } where
  ns := let ⟨o, ho, h⟩ := S.ns; ⟨o, hk _ _ ho, h⟩
  keep := fun a o e => hk _ _ (S.keep a o e)
  fr := S.fr
  nw := fun p hp => let ⟨o, ho, h⟩ := S.nw p hp; ⟨o, hk _ _ ho, h⟩
  fresh := S.fresh
  nd := S.nd
  eq := let ⟨h, tk, e⟩ := S.eq; ⟨h', k, by rw [e]⟩

/-- a new object at a place that was free -/
theorem St.new (S : St s₁ L b H s) {h' : Heap} {a : Addr} {P : Obj → Prop} (k : Nat) (hk : ∀ a o, s.heap.get? a = some o → h'.get? a = some o) (ha : s.heap.get? a = none) (hP : ∃ o, h'.get? a = some o ∧ P o) :
    St s₁ L b ((a, P) :: H) { s with heap := h', toks := k } where
  ns := (S.ext k hk).ns
  keep := (S.ext k hk).keep
  fr := S.fr
  nw := fun p hp => by
    rcases List.mem_cons.mp hp with rfl | hp
    · exact hP
    · exact (S.ext k hk).nw p hp
  fresh := fun p hp => by
    rcases List.mem_cons.mp hp with rfl | hp
    · refine ⟨?_, ?_⟩
      · rintro rfl; obtain ⟨o, ho, _⟩ := S.ns; rw [ha] at ho; cases ho
      · cases e : s₁.heap.get? a with
        | none => rfl
        | some o => have := S.keep _ _ e; rw [ha] at this; cases this
    · exact S.fresh p hp
  nd := by
    refine List.nodup_cons.mpr ⟨fun hm => ?_, S.nd⟩
    obtain ⟨q, hq, e⟩ := List.mem_map.mp hm
    obtain ⟨o, ho, _⟩ := S.nw q hq
    have e' : q.1 = a := e
    rw [e', ha] at ho; cases ho
  eq := (S.ext k hk).eq

theorem get?_size_none (h : Heap) : h.get? h.objs.size = none := by
  cases e : h.get? h.objs.size with
  | none => rfl
  | some o => exact absurd (Heap.lt_size e) (Nat.lt_irrefl _)

theorem St.push (S : St s₁ L b H s) {o : Obj} {P : Obj → Prop} (hP : P o) (k : Nat) (hf : o.isFreed = false := by rfl) : St s₁ L b ((s.heap.objs.size, P) :: H) { s with heap := s.heap.push o, toks := k } :=
  S.new k (fun _ _ e => Heap.get?_push_of_some _ e) (get?_size_none _) ⟨o, Heap.get?_push_size _ hf, hP⟩

/-- one object changed -/
theorem St.upd (S : St s₁ L b H s) {h' : Heap} {a : Addr} {P P' : Obj → Prop} (U : Upd a P P' H H') (k : Nat) (hk : ∀ c o, c ≠ a → s.heap.get? c = some o → h'.get? c = some o) (hP : ∃ o, h'.get? a = some o ∧ P' o) :
    St s₁ L b H' { s with heap := h', toks := k } := by
  obtain ⟨x, y, rfl, rfl⟩ := U.split
  have ha := S.fresh (a, P) (by simp)
  have hnd : ((x ++ (a, P') :: y).map (·.1)).Nodup := by have := S.nd; simpa using this
  have hne : ∀ p ∈ x ++ y, p.1 ≠ a := by
    intro p hp e
    have h1 := S.nd
    simp only [List.map_append, List.map_cons] at h1
    have h2 := (List.nodup_append.mp h1)
    rcases List.mem_append.mp hp with hp | hp
    · exact h2.2.2 p.1 (List.mem_map.mpr ⟨p, hp, rfl⟩) a (by simp) e
    · exact (List.nodup_cons.mp h2.2.1).1 (List.mem_map.mpr ⟨p, hp, e⟩)
  refine ⟨?_, ?_, S.fr, ?_, ?_, hnd, ?_⟩
  · obtain ⟨o, ho, h⟩ := S.ns; exact ⟨o, hk _ _ (Ne.symm ha.1) ho, h⟩
  · intro c o e; exact hk _ _ (by rintro rfl; have := ha.2; simp only at this; rw [this] at e; cases e) (S.keep c o e)
  · intro p hp
    rcases List.mem_append.mp hp with hp | hp
    · obtain ⟨o, ho, h⟩ := S.nw p (by simp [hp]); exact ⟨o, hk _ _ (hne p (by simp [hp])) ho, h⟩
    · rcases List.mem_cons.mp hp with rfl | hp
      · exact hP
      · obtain ⟨o, ho, h⟩ := S.nw p (by simp [hp]); exact ⟨o, hk _ _ (hne p (by simp [hp])) ho, h⟩
  · intro p hp
    rcases List.mem_append.mp hp with hp | hp
    · exact S.fresh p (by simp [hp])
    · rcases List.mem_cons.mp hp with rfl | hp
      · exact ha
      · exact S.fresh p (by simp [hp])
  · obtain ⟨h, tk, e⟩ := S.eq; exact ⟨h', k, by rw [e]⟩

/-- the frame's own names changed -/
theorem St.frame (S : St s₁ L b H s) {h' : Heap} {b' : List (Str × Value)} (k : Nat) (hk : ∀ c o, c ≠ L → s.heap.get? c = some o → h'.get? c = some o) (hP : ∃ o, h'.get? L = some o ∧ Frm b' o) :
    St s₁ L b' H { s with heap := h', toks := k } where
  ns := hP
  keep := fun c o e => hk _ _ (by rintro rfl; rw [S.fr] at e; cases e) (S.keep c o e)
  fr := S.fr
  nw := fun p hp => let ⟨o, ho, h⟩ := S.nw p hp; ⟨o, hk _ _ (S.fresh p hp).1 ho, h⟩
  fresh := S.fresh
  nd := S.nd
  eq := let ⟨h, tk, e⟩ := S.eq; ⟨h', k, by rw [e]⟩

theorem St.bind (S : St s₁ L b H s) {b' : List (Str × Value)} (hb : Sub b b') : St s₁ L b' H s := ⟨let ⟨o, ho, h⟩ := S.ns; ⟨o, ho, h.weak hb⟩, S.keep, S.fr, S.nw, S.fresh, S.nd, S.eq⟩
theorem St.perm (S : St s₁ L b H s) (hp : H'.Perm H) : St s₁ L b H' s :=
  ⟨S.ns, S.keep, S.fr, fun p h => S.nw p (hp.mem_iff.mp h), fun p h => S.fresh p (hp.mem_iff.mp h), (hp.map (·.1)).nodup_iff.mpr S.nd, S.eq⟩
theorem St.sub (S : St s₁ L b H s) (hs : H'.Sublist H) : St s₁ L b H' s :=
  ⟨S.ns, S.keep, S.fr, fun p h => S.nw p (hs.subset h), fun p h => S.fresh p (hs.subset h), List.Nodup.sublist (hs.map (·.1)) S.nd, S.eq⟩
theorem St.drop (S : St s₁ L b (p :: H) s) : St s₁ L b H s := S.sub (List.sublist_cons_self _ _)

theorem St.Ns (S : St s₁ L b H s) : ∃ m, s.heap.Ns L m ∧ ∀ x v, lk b x = some v → m x = some v := by
  obtain ⟨o, ho, es, ep, hd, hk, hf⟩ := S.ns
  exact ⟨nsFind es, ⟨o, es, ep, ho, hd, hk, fun _ => rfl⟩, hf⟩
theorem Frm.of_Ns {h : Heap} {L : Addr} {m : Str → Option Value} {b : List (Str × Value)} (hn : h.Ns L m) (hb : ∀ x v, lk b x = some v → m x = some v) : ∃ o, h.get? L = some o ∧ Frm b o := by
  obtain ⟨o, es, ep, ho, hd, hk, hf⟩ := hn
  exact ⟨o, ho, es, ep, hd, hk, fun x v e => (hf x).trans (hb x v e)⟩
end

/-! ### kinds -/
theorem Lst.isList {h : Heap} {a : Addr} {vs : List Value} (x : ∃ o, h.get? a = some o ∧ Lst vs o) : h.IsList a vs.toArray := let ⟨o, ho, hc, _, _, n, hd⟩ := x; ⟨o, ho, hc, n, hd⟩
theorem Tup.isTup {h : Heap} {a : Addr} {vs : List Value} (x : ∃ o, h.get? a = some o ∧ Tup vs o) : IsTup h a vs.toArray := let ⟨o, ho, hc, _, _, n, hd⟩ := x; ⟨o, ho, hc, n, hd⟩
theorem Lst.isL {h : Heap} {a : Addr} {vs : List Value} (x : ∃ o, h.get? a = some o ∧ Lst vs o) : ∃ n, IsL h a vs.toArray n := by
  obtain ⟨⟨c, d, dt, sl⟩, ho, hc, hd, hs, n, hdt⟩ := x
  simp only at hc hd hs hdt; subst hc hd hs hdt
  exact ⟨n, ho⟩
end Mine
namespace Mine

/-! ### texts as lists of numbers -/
def T (l : List Nat) : Str := ⟨l.toArray⟩
@[simp] theorem T_cps (l : List Nat) : (T l).cps.toList = l := rfl
@[simp] theorem T_len (l : List Nat) : (T l).length = l.length := by simp [T, Str.length]
theorem T_of (x : Str) : T x.cps.toList = x := by cases x; rfl
theorem T_inj {a b : List Nat} (h : T a = T b) : a = b := by have := congrArg (fun x => x.cps.toList) h; simpa using this
@[simp] theorem T_beq (a b : List Nat) : (T a == T b) = (a == b) := by
  rw [Bool.eq_iff_iff]; simp only [beq_iff_eq]; exact ⟨T_inj, fun h => by rw [h]⟩

def clip (n : Nat) (i : Int) : Nat := (max 0 (min (if i < 0 then i + n else i) (n : Int))).toNat
def loC (n : Nat) : Option Int → Nat
  | none => 0
  | some i => clip n i
def hiC (n : Nat) : Option Int → Nat
  | none => n
  | some i => clip n i
/-- `l[lo:hi]` -/
def cut {α : Type} (l : List α) (lo hi : Option Int) : List α := (l.take (hiC l.length hi)).drop (loC l.length lo)
theorem clip_le (n : Nat) (i : Int) : clip n i ≤ n := by unfold clip; omega
theorem hiC_le (n : Nat) (i : Option Int) : hiC n i ≤ n := by cases i <;> simp [hiC, clip_le]
theorem clip_nn {n : Nat} {i : Int} (h : 0 ≤ i) : clip n i = min i.toNat n := by unfold clip; rw [if_neg (by omega)]; omega

theorem picked {α : Type} (l : List α) (a b : Nat) (hb : b ≤ l.length) : ((List.range (b - a)).map (fun k => a + k)).filterMap (l[·]?) = (l.take b).drop a := by
  by_cases h : a ≤ b
  · rw [StrLaws.picks l (b - a) a (by omega), List.drop_take]
  · have : b - a = 0 := by omega
    rw [this]; simp [List.drop_eq_nil_iff]; omega
theorem sliceRange1 (a b : Nat) : sliceRange (a : Int) (b : Int) 1 = (List.range (b - a)).map (fun k => a + k) := by
  unfold sliceRange
  simp only [show ((1 : Int) > 0) = True from by simp, if_true]
  have e : (if (a : Int) < b then ((b : Int) - a + 1 - 1) / 1 else 0).toNat = b - a := by split <;> omega
  rw [e]
  refine List.map_congr_left fun k _ => ?_
  omega
theorem cut_to {α : Type} (l : List α) {k : Int} (h : 0 ≤ k) : cut l none (some k) = l.take k.toNat := by
  unfold cut
  show List.drop 0 (l.take (clip l.length k)) = _
  rw [clip_nn h, List.drop_zero, ← List.take_take, List.take_length]
theorem cut_from {α : Type} (l : List α) {k : Int} (h : 0 ≤ k) : cut l (some k) none = l.drop k.toNat := by
  unfold cut
  show List.drop (clip l.length k) (l.take l.length) = _
  rw [clip_nn h, List.take_length]
  by_cases hk : k.toNat ≤ l.length
  · rw [Nat.min_eq_left hk]
  · rw [Nat.min_eq_right (by omega), List.drop_length, List.drop_eq_nil_of_le (by omega)]
theorem cut_all {α : Type} (l : List α) : cut l none none = l := by
  unfold cut
  show List.drop 0 (l.take l.length) = _
  simp
/-! ### names -/
section
variable {M : Model} {A : Around} {E : Value → Shared → Prop} {s s₁ : Shared} {env : Env} {L : Addr} {b : List (Str × Value)} {H H' : List Ent} {x : Str} {v : Value} {pos : Pos}
theorem ld_L {Q : Value → Shared → Prop} (S : St s₁ L b H s) (hv : lk b x = some v) (h : Q v s) (hx : env.kindOf x = some .local) (hL : env.locals = L) (hk : env.scope.kind = .function) : wpAny M A (loadName env x) Q E s := by
  subst hL
  obtain ⟨m, hn, hm⟩ := S.Ns
  exact wpAny_loadName_local hk hx hn (hm _ _ hv) h
theorem nm_L {Q : Value → Shared → Prop} (S : St s₁ L b H s) (hx : env.kindOf x = some .local) (hv : lk b x = some v) (h : Q v s) (hL : env.locals = L) (hk : env.scope.kind = .function)
    (hd : (x == ("__debug__" : Str)) = false) : wpAny M A (eval (.Name x pos) env) Q E s := wpAny_Name (ld_L S hv h hx hL hk) hd
theorem nm_K {Q : Value → Shared → Prop} {K : Frag} {p : Program} {loose : List Str} {mg mb : Str → Option Value} (S : St s₁ L b H s) (X : K.In s₁.heap) (T : TopRead p loose mg mb s₁.heap) (hx : env.kindOf x = some .globalImplicit) (e : nsIn K mainGlobals x = some (some v)) (h : Q v s)
    (hg : env.globals = mainGlobals) (hk : env.scope.kind = .function) (hd : (x == ("__debug__" : Str)) = false) : wpAny M A (eval (.Name x pos) env) Q E s :=
  Name_function_global hk hx (loadGlobal_global (env := env) (hg ▸ T.g.keeps S.keep) (mg_of X T.g e) h) hd
theorem nm_B {Q : Value → Shared → Prop} {K : Frag} {p : Program} {loose : List Str} {mg mb : Str → Option Value} (S : St s₁ L b H s) (X : K.In s₁.heap) (T : TopRead p loose mg mb s₁.heap) (hx : env.kindOf x = some .globalImplicit) (e : nsIn K mainGlobals x = some none) (hv : bootBuiltins x = some v) (h : Q v s)
    (hn : x ≠ "__name__") (hg : env.globals = mainGlobals) (hb : env.builtins = builtinsNs) (hk : env.scope.kind = .function) (hd : (x == ("__debug__" : Str)) = false) : wpAny M A (eval (.Name x pos) env) Q E s :=
  Name_function_global hk hx (loadGlobal_builtin (env := env) (hg ▸ T.g.keeps S.keep) (mg_none_of X T.g e) (hb ▸ T.b.keeps S.keep) ((T.builtins x hn).trans hv) h) hd

theorem st_L {Q : Unit → Shared → Prop} (S : St s₁ L b H s) (hx : env.kindOf x = some .local) (h : ∀ s', St s₁ L (up x v b) H s' → Q () s') (hL : env.locals = L) (hk : env.scope.kind = .function) :
    wpAny M A (storeName env x v) Q E s := by
  subst hL
  obtain ⟨m, hn, hm⟩ := S.Ns
  refine wpAny_storeName_local hx hn (fun h' hn' hs => h _ (S.frame _ (fun c o hc e => hs.extBut c o hc e) (Frm.of_Ns hn' fun y u hy => ?_))) (by rw [hk]; rfl)
  rw [lk_up] at hy
  by_cases e : y = x
  · simpa [e] using hy
  · simp only [e, if_false] at hy ⊢; exact hm _ _ hy
end

/-! ### ints -/
section
variable {prog : Program} {w : World} {A : Around} {E : Value → Shared → Prop} {s s₁ : Shared} {L : Addr} {b : List (Str × Value)} {H H' : List Ent} {i j : Int} {t u : Tok} {Q : Value → Shared → Prop} {env : Env}
theorem c_int {k : Nat} {pos : Pos} (S : St s₁ L b H s) (h : ∀ s' t', St s₁ L b H s' → Q (.int i t') s') : wpAny (model prog w) A (eval (.Constant (.int i) k pos) env) Q E s := wpAny_Constant_int (h _ _ (S.tok _))
theorem c_str {x : Str} {k : Nat} {pos : Pos} (S : St s₁ L b H s) (h : ∀ s' t', St s₁ L b H s' → Q (.str x t') s') : wpAny (model prog w) A (eval (.Constant (.str x) k pos) env) Q E s := wpAny_Constant_str (h _ _ (S.tok _))
theorem i_add (S : St s₁ L b H s) (h : ∀ s' t', St s₁ L b H s' → Q (.int (i + j) t') s') : wpAny (model prog w) A (binaryOp .Add (.int i t) (.int j u)) Q E s := add_int (h _ _ (S.tok _))
theorem i_sub (S : St s₁ L b H s) (h : ∀ s' t', St s₁ L b H s' → Q (.int (i - j) t') s') : wpAny (model prog w) A (binaryOp .Sub (.int i t) (.int j u)) Q E s := sub_int (h _ _ (S.tok _))
theorem i_mod (S : St s₁ L b H s) (h0 : 0 < j) (h : ∀ s' t', St s₁ L b H s' → Q (.int (i % j) t') s') : wpAny (model prog w) A (binaryOp .Mod (.int i t) (.int j u)) Q E s :=
  mod_int (by omega) (by rw [Int.fmod_eq_emod_of_nonneg _ (by omega)]; exact h _ _ (S.tok _))
theorem i_eq (h : Q (.bool (i == j)) s) : wpAny (model prog w) A (compareOp .Eq (.int i t) (.int j u)) Q E s := eq_int h
end

/-! ### texts -/
section
variable {prog : Program} {w : World} {A : Around} {E : Value → Shared → Prop} {s s₁ : Shared} {L : Addr} {b : List (Str × Value)} {H H' : List Ent} {l m : List Nat} {t u : Tok} {Q : Value → Shared → Prop} {env : Env}
/-- a slice object -/
def Slc (lo hi : Option Int) (o : Obj) : Prop := ∃ (l u : Option (Int × Tok)), o.cls = .type "slice" ∧ o.data = .fields #[partValue l, partValue u, .none] ∧ l.map (·.1) = lo ∧ u.map (·.1) = hi
theorem slc_sn {i : Int} {ti : Tok} : Slc (some i) none { cls := .type "slice", data := .fields #[.int i ti, .none, .none] } := ⟨some (i, ti), none, rfl, rfl, rfl, rfl⟩
theorem slc_ns {j : Int} {tj : Tok} : Slc none (some j) { cls := .type "slice", data := .fields #[.none, .int j tj, .none] } := ⟨none, some (j, tj), rfl, rfl, rfl, rfl⟩
theorem slc_nn : Slc none none { cls := .type "slice", data := .fields #[.none, .none, .none] } := ⟨none, none, rfl, rfl, rfl, rfl⟩
/-- both ends of a slice are known -/
def SliceEnd (Q : Value → Shared → Prop) (l u : Value) (s : Shared) : Prop := Q (.ref s.heap.objs.size) { s with heap := s.heap.push { cls := .type "slice", data := .fields #[l, u, .none] } }
theorem slice_end {v v' : Value} {lo hi : Option Int} (S : St s₁ L b H s) (hP : Slc lo hi { cls := .type "slice", data := .fields #[v, v', .none] }) (h : ∀ s' a, St s₁ L b ((a, Slc lo hi) :: H) s' → Q (.ref a) s') : SliceEnd Q v v' s :=
  h _ _ (S.push hP s.toks)
theorem ev_slice {lower upper : Option Expr} {p : Pos}
    (h : wpAny (model prog w) A (evalPart lower env) (fun l s₁ => wpAny (model prog w) A (evalPart upper env) (fun u s₂ => SliceEnd Q l u s₂) E s₁) E s) : wpAny (model prog w) A (eval (.Slice lower upper none p) env) Q E s :=
  wpAny_Slice (wpAny_mono h (fun _ _ h₁ => wpAny_mono h₁ (fun _ _ h₂ => wpAny_pure h₂) fun _ _ x => x) fun _ _ x => x)
end
end Mine
namespace Mine

/-! ### the written number -/
section
variable {prog : Program} {w : World} {A : Around} {E : Value → Shared → Prop} {s s₁ : Shared} {L : Addr} {b : List (Str × Value)} {H H' : List Ent} {l m : List Nat} {t u : Tok} {Q : Value → Shared → Prop} {env : Env}
/-! ### made lists and tuples -/
theorem new_list {vs : List Value} (S : St s₁ L b H s) (hsz : vs.length ≤ sizeLine) (h : ∀ s' a, St s₁ L b ((a, Lst vs) :: H) s' → Q (.ref a) s') : wpAny (model prog w) A (newList vs) Q E s :=
  wpAny_newObj_type (h _ _ (S.push (P := Lst vs) ⟨rfl, rfl, rfl, _, rfl⟩ s.toks)) (by show vs.toArray.size ≤ sizeLine; rw [List.size_toArray]; exact hsz)
theorem new_tuple {vs : List Value} (S : St s₁ L b H s) (hsz : vs.length ≤ sizeLine) (h : ∀ s' a, St s₁ L b ((a, Tup vs) :: H) s' → Q (.ref a) s') : wpAny (model prog w) A (newTuple vs) Q E s :=
  wpAny_newObj_type (h _ _ (S.push (P := Tup vs) ⟨rfl, rfl, rfl, _, rfl⟩ s.toks)) (by show vs.toArray.size ≤ sizeLine; rw [List.size_toArray]; exact hsz)

/-! ### calls -/
/-- what stands where a call's arguments are ready -/
def Ready (K : Frag) (P : Shared → Prop) (s : Shared) : Prop := K.In s.heap ∧ P s
theorem Ready.mk' {K : Frag} {P : Shared → Prop} (X : K.In s₁.heap) (S : St s₁ L b H s) (h : P s) : Ready K P s := ⟨X.keeps S.keep, h⟩
theorem callWith_fn {K : Frag} {f : Addr} {e : Expr} {rest : List Expr} {pos : Pos} (X : K.In s₁.heap) (hk : keepIn K (.ref f) = true)
    (h : wpAny (model prog w) A (spliced (backTo pos (starEach (e :: rest) env))) (fun vs s₁ => Ready K (fun s => wpAny (model prog w) A (call (.ref f) vs) Q E s) s₁) E s)
    (he : starEach (e :: rest) env = (false, eval e env) :: starEach rest env) (hplain : (backTo pos (starEach rest env)).any (·.1) = false) :
    wpAny (model prog w) A (callWith pos (.ref f) [] (backTo pos (starEach (e :: rest) env)) []) Q E s :=
  callWith_K X hk (wpAny_mono h (fun _ _ h => h) fun _ _ h => h) he hplain

theorem St.enter (S : St s₁ L b H s) {h₀ : Heap} {b' : List (Str × Value)} {m : Str → Option Value} (k : Nat) (hns : h₀.Ns s.heap.objs.size m) (hk : ∀ b o, s.heap.get? b = some o → h₀.get? b = some o) (hm : ∀ x v, lk b' x = some v → m x = some v) :
    St s₁ s.heap.objs.size b' ((L, Frm b) :: H) { s with heap := h₀, toks := k } where
  ns := Frm.of_Ns hns hm
  keep := fun a o e => hk _ _ (S.keep a o e)
  fr := S.size.1
  nw := fun p hp => by
    rcases List.mem_cons.mp hp with rfl | hp
    · obtain ⟨o, ho, h⟩ := S.ns; exact ⟨o, hk _ _ ho, h⟩
    · obtain ⟨o, ho, h⟩ := S.nw p hp; exact ⟨o, hk _ _ ho, h⟩
  fresh := fun p hp => by
    rcases List.mem_cons.mp hp with rfl | hp
    · exact ⟨Ne.symm S.size.2.1, S.fr⟩
    · exact ⟨S.size.2.2 p hp, (S.fresh p hp).2⟩
  nd := List.nodup_cons.mpr ⟨fun hm => by
    obtain ⟨q, hq, e⟩ := List.mem_map.mp hm
    exact (S.fresh q hq).1 e, S.nd⟩
  eq := let ⟨h, tk, e⟩ := S.eq; ⟨h₀, k, by rw [e]⟩

/-- back to the caller's frame -/
theorem St.back {L' : Addr} {b' : List (Str × Value)} (S : St s₁ L' b' ((L, Frm b) :: H) s) : St s₁ L b H s where
  ns := S.nw (L, Frm b) (List.mem_cons_self ..)
  keep := S.keep
  fr := (S.fresh (L, Frm b) (List.mem_cons_self ..)).2
  nw := fun p hp => S.nw p (List.mem_cons_of_mem _ hp)
  fresh := fun p hp => ⟨fun e => (List.nodup_cons.mp S.nd).1 (List.mem_map.mpr ⟨p, hp, e⟩), (S.fresh p (List.mem_cons_of_mem _ hp)).2⟩
  nd := (List.nodup_cons.mp S.nd).2
  eq := S.eq

theorem call_fn {K : Frag} {f : Addr} {oc : Value} {od : Option Addr} {osl : Array (Option Value)} {fd : FuncData} {body : List Stmt} {args : List Value} {binds b' : List (Str × Value)}
    (S : St s₁ L b H s) (X : K.In s₁.heap) (hlim : s₁.heap.NoLimit) (ho : K.lookup f = some ⟨oc, od, .func fd, osl⟩) (hcd : codeIn K fd.code fd.qualname = true) (hroom : A.depth < recursionLimit)
    (hbody : fd.body = .stmts body) (hbind : BindsTo s fd ⟨args, []⟩ binds) (hcell : ∀ x ∈ fd.scope.names, x.2 ≠ .cell) (hloc : ∀ x ∈ binds, fd.scope.names.lookup x.1 = some .local) (hb : b' = binds.reverse)
    (h : ∀ s' L', St s₁ L' b' ((L, Frm b) :: H) s' →
      wpAny (model prog w) (A.deeper (callEnv fd L' f)) (execs body (callEnv fd L' f)) (fun fl s'' => Q (match fl with | .ret v => v | _ => .none) s'') (fun _ _ => False) s')
    (hco : fd.scope.isCoroutine = false) (hgen : fd.scope.isGenerator = false) (hk : fd.scope.kind = .function) : wpAny (model prog w) A (call (.ref f) args) Q E s := by
  have X' := X.keeps S.keep
  refine wpAny_call (codeAny_call_def hroom (X' _ _ ho) rfl (hlim.keeps S.keep) (codeRec_of X' hcd) hbody hbind hcell hloc (fun h₀ hns hk₀ => ?_) hco hgen hk)
  refine wpAny_mono (h _ _ (S.enter (b' := b') (s.toks + binds.length) hns hk₀ fun x v e => ?_)) (fun _ _ q => q) (fun _ _ q => q.elim)
  subst hb
  rw [← e]
  clear h hns hk₀ hloc hbind e
  induction binds.reverse with
  | nil => rfl
  | cons p r ih =>
    obtain ⟨n, u⟩ := p
    simp only [List.lookup_cons, lk, ih]
    by_cases hx : n = x
    · subst hx; simp
    · have : (x == n) = false := by simp [Ne.symm hx]
      simp [this, hx]
end
end Mine
namespace Mine

/-- an iterator at `I`: at turn i its object meets `P i`, it hands out what meets `V i`, while the heap meets `R` -/
structure Itr (prog : Program) (w : World) (A : Around) (I : Addr) (n : Nat) (P : Nat → Obj → Prop) (V : Nat → Value → Prop) (R : Heap → Prop) : Prop where
  item : ∀ i (s : Shared) (Q : Option Value → Shared → Prop) (E : Value → Shared → Prop), i < n → (∃ o, s.heap.get? I = some o ∧ P i o) → R s.heap →
    (∀ v h' tk, V i v → (∃ o, h'.get? I = some o ∧ P (i + 1) o) → (∀ c o, c ≠ I → s.heap.get? c = some o → h'.get? c = some o) → Q (some v) { s with heap := h', toks := tk }) → wpAny (model prog w) A (pyNext (.ref I)) Q E s
  done : ∀ (s : Shared) (Q : Option Value → Shared → Prop) (E : Value → Shared → Prop), (∃ o, s.heap.get? I = some o ∧ P n o) → R s.heap →
    (∀ h' tk, (∀ c o, c ≠ I → s.heap.get? c = some o → h'.get? c = some o) → Q none { s with heap := h', toks := tk }) → wpAny (model prog w) A (pyNext (.ref I)) Q E s
  self : ∀ i (s : Shared) (Q : Value → Shared → Prop) (E : Value → Shared → Prop), (∃ o, s.heap.get? I = some o ∧ P i o) → R s.heap → Q (.ref I) s → wpAny (model prog w) A (pyIter (.ref I)) Q E s

def LI (l : Addr) (i : Nat) (o : Obj) : Prop := o.cls = .type "list_iterator" ∧ o.data = .fields #[.ref l, .int i 0]
def RI (x left step : Int) (o : Obj) : Prop := o = { cls := .type "range_iterator", dict := none, data := .fields #[rawInt x, rawInt left, rawInt step], slots := #[] }

theorem Itr.list {prog : Program} {w : World} {A : Around} {I l : Addr} (vs : List Value) (hh : A.handled = none) (hne : l ≠ I) :
    Itr prog w A I vs.length (LI l) (fun i v => vs[i]? = some v) (fun h => h.IsList l vs.toArray) where
  item := fun i s Q E hi ⟨o, ho, h1, h2⟩ hR hQ => by
    refine (Walks.list (prog := prog) (w := w) hh I l hne vs.toArray).item i s Q E (by simpa using hi) ⟨⟨o, ho, h1, h2⟩, hR⟩ fun v h' tk hv hst hk => ?_
    exact hQ v h' tk (by simpa using hv) (let ⟨o, ho, r⟩ := hst.1; ⟨o, ho, r⟩) fun c o hc e => hk c o (by simpa using hc) e
  done := fun s Q E ⟨o, ho, h1, h2⟩ hR hQ =>
    (Walks.list (prog := prog) (w := w) hh I l hne vs.toArray).done s Q E ⟨⟨o, ho, h1, by rw [List.size_toArray]; exact h2⟩, hR⟩ fun h' tk hk => hQ h' tk fun c o hc e => hk c o (by simpa using hc) e
  self := fun i s Q E ⟨o, ho, h1, h2⟩ hR hQ => wpAny_pyIter_listiter (i := i) ⟨o, ho, h1, h2⟩ hQ
theorem Itr.range {prog : Program} {w : World} {A : Around} {I : Addr} (a c : Int) (n : Nat) (hh : A.handled = none) :
    Itr prog w A I n (fun i => RI (a + i * c) ((n : Int) - i) c) (fun i v => ∃ t, v = .int (a + i * c) t) (fun _ => True) where
  item := fun i s Q E hi ⟨o, ho, h1⟩ hR hQ => by
    subst h1
    refine (Walks.range (prog := prog) (w := w) hh I a c n).item i s Q E hi ho fun v h' tk hv hst hk => ?_
    exact hQ v h' tk hv ⟨_, hst, rfl⟩ fun c o hc e => hk c o (by simpa using hc) e
  done := fun s Q E ⟨o, ho, h1⟩ hR hQ => by
    subst h1
    exact (Walks.range (prog := prog) (w := w) hh I a c n).done s Q E ho fun h' tk hk => hQ h' tk fun c o hc e => hk c o (by simpa using hc) e
  self := fun i s Q E ⟨o, ho, h1⟩ hR hQ => by subst h1; exact wpAny_pyIter_rangeiter ho hQ

section
variable {prog : Program} {w : World} {A : Around} {E : Value → Shared → Prop} {s s₁ : Shared} {L I l : Addr} {b : List (Str × Value)} {H H' : List Ent} {env : Env}

theorem it_list {Q : Value → Shared → Prop} {vs : List Value} (S : St s₁ L b H s) (hl : (l, Lst vs) ∈ H ∨ s₁.heap.IsList l vs.toArray) (h : ∀ s' I, l ≠ I → St s₁ L b ((I, LI l 0) :: H) s' → Q (.ref I) s') : wpAny (model prog w) A (pyIter (.ref l)) Q E s := by
  have hl' : s.heap.IsList l vs.toArray := hl.elim (fun m => Lst.isList (S.get m)) fun ⟨o, ho, r⟩ => ⟨o, S.keep _ _ ho, r⟩
  refine wpAny_pyIter_list hl' (h _ _ ?_ (S.push (P := LI l 0) ⟨rfl, rfl⟩ s.toks))
  obtain ⟨o, ho, _⟩ := hl'; exact Nat.ne_of_lt (Heap.lt_size ho)
/-- a range object -/
def Rng (a c st : Int) (o : Obj) : Prop := ∃ t u v, o = { cls := .type "range", dict := none, data := .fields #[.int a t, .int c u, .int st v], slots := #[] }
theorem c_range1 {Q : Value → Shared → Prop} {n : Int} {t : Tok} (S : St s₁ L b H s) (h : ∀ s' r, St s₁ L b ((r, Rng 0 n 1) :: H) s' → Q (.ref r) s') : wpAny (model prog w) A (call (.type "range") [.int n t]) Q E s :=
  call_range_1 (h _ _ (S.push (P := Rng 0 n 1) ⟨_, _, _, rfl⟩ _))
theorem it_range1 {Q : Value → Shared → Prop} {r : Addr} {a c : Int} (S : St s₁ L b ((r, Rng a c 1) :: H) s) (ha : -(2 ^ 62) ≤ a) (ha' : a < 2 ^ 62) (hc : -(2 ^ 62) ≤ c) (hc' : c < 2 ^ 62)
    (h : ∀ s' I, St s₁ L b ((I, RI (a + ((0 : Nat) : Int) * 1) (((c - a).toNat : Int) - ((0 : Nat) : Int)) 1) :: H) s' → Q (.ref I) s') : wpAny (model prog w) A (pyIter (.ref r)) Q E s := by
  obtain ⟨o, ho, t, u, v, rfl⟩ := S.get (List.mem_cons_self ..)
  refine wpAny_pyIter_range (a := a) (b := c) (c := 1) ho (small_one ha ha' hc hc') (h _ _ (S.drop.push (P := RI _ _ 1) ?_ s.toks))
  show _ = _
  have e : Builtin.Range.rangeSize a c 1 = ((c - a).toNat : Int) - ((0 : Nat) : Int) := by rw [rangeSize_one]; split <;> omega
  rw [e]; simp

/-- an entry at the head passes from one state to the next -/
theorem St.step {P P' : Obj → Prop} (S : St s₁ L b ((I, P) :: H) s) {h' : Heap} (k : Nat) (hP : ∃ o, h'.get? I = some o ∧ P' o) (hk : ∀ c o, c ≠ I → s.heap.get? c = some o → h'.get? c = some o) : St s₁ L b ((I, P') :: H) { s with heap := h', toks := k } :=
  S.upd (.head _) k hk hP
theorem St.gone {P : Obj → Prop} (S : St s₁ L b ((I, P) :: H) s) {h' : Heap} (k : Nat) (hk : ∀ c o, c ≠ I → s.heap.get? c = some o → h'.get? c = some o) : St s₁ L b H { s with heap := h', toks := k } where
  ns := let ⟨o, ho, h⟩ := S.ns; ⟨o, hk _ _ (Ne.symm (S.fresh _ (List.mem_cons_self ..)).1) ho, h⟩
  keep := fun a o e => hk _ _ (by rintro rfl; have := (S.fresh _ (List.mem_cons_self ..)).2; simp only at this; rw [this] at e; cases e) (S.keep a o e)
  fr := S.fr
  nw := fun p hp => let ⟨o, ho, h⟩ := S.nw p (List.mem_cons_of_mem _ hp); ⟨o, hk _ _ (fun e => (List.nodup_cons.mp S.nd).1 (List.mem_map.mpr ⟨p, hp, e⟩)) ho, h⟩
  fresh := fun p hp => S.fresh p (List.mem_cons_of_mem _ hp)
  nd := (List.nodup_cons.mp S.nd).2
  eq := let ⟨h, tk, e⟩ := S.eq; ⟨h', k, by rw [e]⟩

theorem getHead {P : Obj → Prop} (S : St s₁ L b ((I, P) :: H) s) : ∃ o, s.heap.get? I = some o ∧ P o := S.get (List.mem_cons_self ..)

/-- what a turn of a for leaves -/
def TurnEnd (s₁ : Shared) (L I : Addr) (P : Obj → Prop) (J : List (Str × Value) → List Ent → Prop) (Q : Flow → Shared → Prop) (f : Flow) (s : Shared) : Prop :=
  match f with
  | .next | .cont => ∃ b H, St s₁ L b ((I, P) :: H) s ∧ J b H
  | .brk => Q .next s
  | .ret v => Q (.ret v) s

theorem loop_for {n : Nat} {P : Nat → Obj → Prop} {V : Nat → Value → Prop} {R : Heap → Prop} {x : Str} {px : Pos} {body : List Stmt} {Q : Flow → Shared → Prop} {RE : Value → Shared → Prop} (W : Itr prog w A I n P V R) (J : Nat → List (Str × Value) → List Ent → Prop)
    (S : St s₁ L b ((I, P 0) :: H) s) (h0 : J 0 b H) (hR : ∀ i b H s, i ≤ n → J i b H → St s₁ L b ((I, P i) :: H) s → R s.heap) (hx : env.kindOf x = some .local) (hL : env.locals = L) (hk : env.scope.kind = .function)
    (turn : ∀ i v b' H' s', i < n → V i v → J i b' H' → St s₁ L (up x v b') ((I, P (i + 1)) :: H') s' → wpAny (model prog w) A (execs body env) (TurnEnd s₁ L I (P (i + 1)) (J (i + 1)) Q) (fun _ _ => False) s')
    (done : ∀ b' H' s', J n b' H' → St s₁ L b' H' s' → Q .next s') :
    codeAny (model prog w) A (.forLoop (.Name x px) (.ref I) body [] env) (fun r s' => match r with | .ok f => Q f s' | .error e => RE e s') s := by
  refine codeAny_forLoop (fun k s' => ∃ b' H' i, St s₁ L b' ((I, P i) :: H') s' ∧ J i b' H' ∧ i ≤ n ∧ k = n + 1 - i) ?_ (n + 1) ⟨b, H, 0, S, h0, Nat.zero_le _, rfl⟩
  rintro k s' ⟨b', H', i, S', hJ, hi, rfl⟩
  have hR' := hR i b' H' s' hi hJ S'
  by_cases hlt : i < n
  · refine W.item i _ _ _ hlt (getHead S') hR' fun v h₁ tk₁ hV hP₁ hk₁ => ?_
    refine wpAny_assign_Name (st_L (S'.step tk₁ hP₁ hk₁) hx (fun s₂ S₂ => ?_) hL hk)
    refine wpAny_mono (turn i v b' H' s₂ hlt hV hJ S₂) (fun f s₃ h₃ => ?_) fun _ _ e => e.elim
    cases f with
    | next => obtain ⟨b'', H'', S₃, hJ₃⟩ := h₃; exact ⟨n + 1 - (i + 1), by omega, b'', H'', i + 1, S₃, hJ₃, hlt, rfl⟩
    | cont => obtain ⟨b'', H'', S₃, hJ₃⟩ := h₃; exact ⟨n + 1 - (i + 1), by omega, b'', H'', i + 1, S₃, hJ₃, hlt, rfl⟩
    | brk => exact h₃
    | ret v => exact h₃
  · have hin : i = n := by omega
    subst hin
    exact W.done _ _ _ (getHead S') hR' fun h₁ tk₁ hk₁ => wpAny_execs_nil (done b' H' _ hJ (S'.gone tk₁ hk₁))

/-- where the loop's source is known -/
def ForAt (prog : Program) (w : World) (A : Around) (target : Expr) (body : List Stmt) (env : Env) (Q : Flow → Shared → Prop) (E : Value → Shared → Prop) (xv : Value) (s : Shared) : Prop :=
  wpAny (model prog w) A (pyIter xv) (fun it s₂ => codeAny (model prog w) A (.forLoop target it body [] env) (fun r s' => match r with | .ok f => Q f s' | .error e => cameBackBy (model prog w) A env E e s') s₂) E s
theorem ex_for {target iter : Expr} {body : List Stmt} {pos : Pos} {Q : Flow → Shared → Prop} (h : wpAny (model prog w) A (eval iter env) (fun xv s₁ => ForAt prog w A target body env Q E xv s₁) E s)
    (hs : ∀ x, foldedSetIterable iter env x = pure x) : wpAny (model prog w) A (exec (.For target iter body [] pos) env) Q E s := wpAny_For h hs

/-- a for over a list of the call's own or of the caller's -/
theorem for_list {x : Str} {px : Pos} {body : List Stmt} {Q : Flow → Shared → Prop} {vs : List Value} (J : Nat → List (Str × Value) → List Ent → Prop) (S : St s₁ L b H s) (h0 : J 0 b H)
    (hl : (l, Lst vs) ∈ H ∨ s₁.heap.IsList l vs.toArray) (hJ : ∀ i b H, J i b H → (l, Lst vs) ∈ H ∨ s₁.heap.IsList l vs.toArray) (hh : A.handled = none) (hx : env.kindOf x = some .local) (hL : env.locals = L) (hk : env.scope.kind = .function)
    (turn : ∀ I i v b' H' s', vs[i]? = some v → J i b' H' → St s₁ L (up x v b') ((I, LI l (i + 1)) :: H') s' → wpAny (model prog w) A (execs body env) (TurnEnd s₁ L I (LI l (i + 1)) (J (i + 1)) Q) (fun _ _ => False) s')
    (done : ∀ b' H' s', J vs.length b' H' → St s₁ L b' H' s' → Q .next s') : ForAt prog w A (.Name x px) body env Q E (.ref l) s :=
  it_list S hl fun s' I hne S' => loop_for (Itr.list vs hh hne) J S' h0
    (fun i b H s _ h S => (hJ i b H h).elim (fun m => Lst.isList (S.get (List.mem_cons_of_mem _ m))) fun ⟨o, ho, r⟩ => ⟨o, S.keep _ _ ho, r⟩) hx hL hk
    (fun i v b' H' s' _ hV hj S => turn I i v b' H' s' hV hj S) done
theorem for_range1 {x : Str} {px : Pos} {body : List Stmt} {Q : Flow → Shared → Prop} {r : Addr} {a c : Int} (J : Nat → List (Str × Value) → List Ent → Prop) (S : St s₁ L b ((r, Rng a c 1) :: H) s) (h0 : J 0 b H)
    (ha : -(2 ^ 62) ≤ a) (ha' : a < 2 ^ 62) (hc : -(2 ^ 62) ≤ c) (hc' : c < 2 ^ 62) (hh : A.handled = none) (hx : env.kindOf x = some .local) (hL : env.locals = L) (hk : env.scope.kind = .function)
    (turn : ∀ I P i t b' H' s', a + (i : Nat) < c → J i b' H' → St s₁ L (up x (.int (a + (i : Nat)) t) b') ((I, P) :: H') s' → wpAny (model prog w) A (execs body env) (TurnEnd s₁ L I P (J (i + 1)) Q) (fun _ _ => False) s')
    (done : ∀ b' H' s', J (c - a).toNat b' H' → St s₁ L b' H' s' → Q .next s') : ForAt prog w A (.Name x px) body env Q E (.ref r) s :=
  it_range1 S ha ha' hc hc' fun s' I S' => loop_for (Itr.range a 1 (c - a).toNat hh) J S' h0 (fun _ _ _ _ _ _ _ => trivial) hx hL hk
    (fun i v b' H' s' hi ⟨t, hV⟩ hj S => by subst hV; rw [Int.mul_one] at S; exact turn I _ i t b' H' s' (by omega) hj S) done

/-- a while by a measure -/
def WTurn (s₁ : Shared) (L : Addr) (J : Nat → List (Str × Value) → List Ent → Prop) (n : Nat) (Q : Flow → Shared → Prop) (f : Flow) (s : Shared) : Prop :=
  match f with
  | .next | .cont => ∃ m b H, m < n ∧ St s₁ L b H s ∧ J m b H
  | .brk => Q .next s
  | .ret v => Q (.ret v) s
theorem ex_while {test : Expr} {body : List Stmt} {pos : Pos} {Q : Flow → Shared → Prop} (J : Nat → List (Str × Value) → List Ent → Prop) (n : Nat) (S : St s₁ L b H s) (h0 : J n b H)
    (turn : ∀ n b' H' s', J n b' H' → St s₁ L b' H' s' → wpAny (model prog w) A (isTrue test env (eval test env)) (fun c s₂ => if c then wpAny (model prog w) A (execs body env) (WTurn s₁ L J n Q) (fun _ _ => False) s₂ else Q .next s₂) (fun _ _ => False) s') :
    wpAny (model prog w) A (exec (.While test body [] pos) env) Q E s := by
  refine wpAny_While (codeAny_whileLoop (fun n s' => ∃ b' H', St s₁ L b' H' s' ∧ J n b' H') ?_ n ⟨b, H, S, h0⟩)
  rintro n s' ⟨b', H', S', hJ⟩
  refine wpAny_mono (turn n b' H' s' hJ S') (fun c s₂ h₂ => ?_) fun _ _ e => e.elim
  cases c with
  | true =>
    simp only [if_true] at h₂ ⊢
    refine wpAny_mono h₂ (fun f s₃ h₃ => ?_) fun _ _ e => e.elim
    cases f with
    | next => obtain ⟨m, b'', H'', hm, S₃, hJ₃⟩ := h₃; exact ⟨m, hm, b'', H'', S₃, hJ₃⟩
    | cont => obtain ⟨m, b'', H'', hm, S₃, hJ₃⟩ := h₃; exact ⟨m, hm, b'', H'', S₃, hJ₃⟩
    | brk => exact h₃
    | ret v => exact h₃
  | false =>
    simp only [Bool.false_eq_true, if_false] at h₂ ⊢
    exact wpAny_execs_nil h₂
end
end Mine
namespace Mine

section
variable {prog : Program} {w : World} {A : Around} {E : Value → Shared → Prop} {s s₁ : Shared} {L I l D C : Addr} {b : List (Str × Value)} {H H' : List Ent} {env : Env}

/-- a changed list -/
theorem St.mapSeq (S : St s₁ L b H s) {vs : List Value} {f : Array Value → Array Value} {vs' : List Value} (U : Upd l (Lst vs) (Lst vs') H H') (hf : f vs.toArray = vs'.toArray) (k : Nat) :
    St s₁ L b H' { s with heap := s.heap.update l (Obj.mapSeq f), toks := k } := by
  obtain ⟨⟨c, d, dt, sl⟩, ho, hc, hd, hs, n, hdt⟩ := S.get U.mem
  simp only at hc hd hs hdt; subst hc hd hs hdt
  refine S.upd U k (fun c o hc e => (Heap.get?_update_other _ _ (Ne.symm hc)).trans e) ⟨_, Heap.get?_update_self _ ho rfl, rfl, rfl, rfl, ?_⟩
  exact ⟨_, by show Data.seq _ _ = _; rw [hf]⟩

theorem l_append {Q : Value → Shared → Prop} {vs : List Value} {x : Value} (S : St s₁ L b H s) (U : Upd l (Lst vs) (Lst (vs ++ [x])) H H') (hsz : vs.length ≤ sizeLine) (h : ∀ s', St s₁ L b H' s' → Q .none s') :
    wpAny (model prog w) A (call (.builtin "list.append") [.ref l, x]) Q E s := by
  have hl : s.heap.IsList l vs.toArray := Lst.isList (S.get U.mem)
  obtain ⟨o, ho, hc, n, hd⟩ := id hl
  refine wpAny_call_entry slot_list_append hl.typeIs entry_list_append ?_ (args_list_append _ _)
  show wpAny _ _ (updateSeq l (·.push x) >>= fun _ => ret .none) _ _ s
  refine wpAny_bind (wpAny_updateSeq ho hd (wpAny_pure ⟨.none, rfl, h _ (S.mapSeq U (by simp) s.toks)⟩) (by rw [List.size_toArray]; exact hsz))

/-- the tests of a comprehension's clause -/
abbrev tests (ifs : List Expr) (env : Env) : Sem Bool := forIn ifs true fun c r => if r = true then do let ok ← isTrue c env (eval c env); pure (ForInStep.yield ok) else pure (ForInStep.yield r)
theorem tests_nil {Q : Bool → Shared → Prop} (h : Q true s) : wpAny (model prog w) A (tests [] env) Q E s := wpAny_pure h
def CompEnd (s₁ : Shared) (C : Addr) (X : List Ent) (J : List Ent → Prop) (s : Shared) : Prop := ∃ b H, St s₁ C b (X ++ H) s ∧ J H

theorem comp_loop {n : Nat} {P : Nat → Obj → Prop} {V : Nat → Value → Prop} {R : Heap → Prop} {x : Str} {px pos : Pos} {elt iter : Expr} {ifs : List Expr} {scope : Scope} {RR : Result → Shared → Prop} {bC : List (Str × Value)}
    (W : Itr prog w A I n P V R) (J : Nat → List Value → List Ent → Prop)
    (S : St s₁ C bC ((D, Lst []) :: (I, P 0) :: (L, Frm b) :: H) s) (h0 : J 0 [] H) (hn : n ≤ sizeLine) (hR : ∀ i ys H s bC, i ≤ n → J i ys H → St s₁ C bC ((D, Lst ys) :: (I, P i) :: (L, Frm b) :: H) s → R s.heap)
    (hx : env.kindOf x = some .local) (hL : env.locals = C) (hk : env.scope.kind = .function)
    (turn : ∀ i v ys H' s', i < n → V i v → J i ys H' → St s₁ C [(x, v)] ((D, Lst ys) :: (I, P (i + 1)) :: (L, Frm b) :: H') s' →
      wpAny (model prog w) A (tests ifs env) (fun ok s₃ => if ok = true then wpAny (model prog w) A (eval elt env) (fun y s₄ => CompEnd s₁ C [(D, Lst ys), (I, P (i + 1)), (L, Frm b)] (J (i + 1) (ys ++ [y])) s₄) (fun _ _ => False) s₃
        else CompEnd s₁ C [(D, Lst ys), (I, P (i + 1)), (L, Frm b)] (J (i + 1) ys) s₃) (fun _ _ => False) s')
    (done : ∀ ys H' s' bC, J n ys H' → St s₁ C bC ((D, Lst ys) :: (L, Frm b) :: H') s' → RR (.ok .next) s') :
    codeAny (model prog w) A (.compLoop (.ListComp elt [⟨.Name x px, iter, ifs, 0⟩] scope pos) 0 (.ref I) (.ref D) env) RR s := by
  refine codeAny_compLoop_tests (fun k s' => ∃ bC ys H' i, St s₁ C bC ((D, Lst ys) :: (I, P i) :: (L, Frm b) :: H') s' ∧ J i ys H' ∧ i ≤ n ∧ ys.length ≤ i ∧ k = n + 1 - i) ?_ (n + 1) ⟨bC, [], H, 0, S, h0, Nat.zero_le _, Nat.le_refl _, rfl⟩
  rintro k s' ⟨bC', ys, H', i, S', hJ, hi, hlen, rfl⟩
  have hR' := hR i ys H' s' bC' hi hJ S'
  have S₀ := S'.perm (List.Perm.swap (I, P i) (D, Lst ys) ((L, Frm b) :: H')).symm
  by_cases hlt : i < n
  · refine W.item i _ _ _ hlt (getHead S₀) hR' fun v h₁ tk₁ hV hP₁ hk₁ => ?_
    have S₁ := (S₀.step tk₁ hP₁ hk₁).perm (List.Perm.swap (I, P (i + 1)) (D, Lst ys) ((L, Frm b) :: H'))
    refine wpAny_assign_Name (st_L S₁ hx (fun s₂ S₂ => ?_) hL hk)
    have S₃ := S₂.bind (b' := [(x, v)]) (Sub.cons (by rw [lk_up]; simp) (Sub.nil _))
    refine wpAny_mono (turn i v ys H' s₂ hlt hV hJ S₃) (fun ok s₃ h₃ => ?_) fun _ _ e => e.elim
    cases ok with
    | false =>
      obtain ⟨b₃, H₃, S₃, hJ₃⟩ := h₃
      exact ⟨n + 1 - (i + 1), by omega, b₃, ys, H₃, i + 1, S₃, hJ₃, hlt, by omega, rfl⟩
    | true =>
      refine wpAny_mono h₃ (fun y s₄ h₄ => ?_) fun _ _ e => e.elim
      obtain ⟨b₄, H₄, S₄, hJ₄⟩ := h₄
      refine l_append S₄ (.head _) (by omega) fun s₅ S₅ => ?_
      exact ⟨n + 1 - (i + 1), by omega, b₄, ys ++ [y], H₄, i + 1, S₅, hJ₄, hlt, by simp; omega, rfl⟩
  · have hin : i = n := by omega
    subst hin
    refine W.done _ _ _ (getHead S₀) hR' fun h₁ tk₁ hk₁ => ?_
    exact done ys H' _ bC' hJ (S₀.gone tk₁ hk₁)

/-- what stands behind a comprehension -/
def CompDone (prog : Program) (w : World) (A : Around) (use : Option (Value → Sem Unit)) (Q : Value → Shared → Prop) (E : Value → Shared → Prop) (s₁ : Shared) (L : Addr) (b : List (Str × Value)) (C D : Addr) (ys : List Value) (H' : List Ent) (s' : Shared) : Prop :=
  match use with
  | none => ∀ s'', St s₁ L b ((D, Lst ys) :: H') s'' → Q (.ref D) s''
  | some u => wpAny (model prog w) A (u (.ref D)) (fun _ s₂ => ∃ b₂ H₂, St s₁ L b₂ ((C, Frm []) :: H₂) s₂ ∧ ∀ s₃, St s₁ L b₂ H₂ s₃ → Q .none s₃) E s'
/-- where a comprehension's source is known -/
def CompAt (prog : Program) (w : World) (A : Around) (elt : Expr) (x : Str) (px pos : Pos) (iter : Expr) (ifs : List Expr) (scope : Scope) (env : Env) (cl : List (Str × Addr)) (use : Option (Value → Sem Unit)) (Q : Value → Shared → Prop) (E : Value → Shared → Prop) (xv : Value) (s : Shared) : Prop :=
  wpAny (model prog w) A (pyIter xv) (fun it s₂ => wpAny (model prog w) A (newList []) (fun acc s₃ =>
      wpAny (model prog w) A (newFunctionEnv scope env.globals cl [] env.qual none .none (some env)) (fun cenv s₄ =>
        codeAny (model prog w) A (.compStart (.ListComp elt [⟨.Name x px, iter, ifs, 0⟩] scope pos) 0 it acc { cenv with scope := relabel scope env }) (compPost (model prog w) A E use Q acc cenv.locals) s₄) E s₃) E s₂) E s

theorem comp_at {n : Nat} {P : Nat → Obj → Prop} {V : Nat → Value → Prop} {R : Heap → Prop} {x : Str} {px pos : Pos} {elt iter : Expr} {ifs : List Expr} {scope : Scope} {cl : List (Str × Addr)} {use : Option (Value → Sem Unit)} {Q : Value → Shared → Prop}
    (W : Itr prog w A I n P V R) (J : Nat → List Value → List Ent → Prop) (S : St s₁ L b ((I, P 0) :: H) s) (h0 : J 0 [] H) (hn : n ≤ sizeLine)
    (hR : ∀ C D i ys H s bC, i ≤ n → J i ys H → St s₁ C bC ((D, Lst ys) :: (I, P i) :: (L, Frm b) :: H) s → R s.heap) (hR0 : ∀ s b', St s₁ L b' ((I, P 0) :: H) s → R s.heap)
    (hcell : ∀ y ∈ scope.names, y.2 ≠ .cell) (hkind : scope.kind = .function) (hx : scope.names.lookup x = some .local)
    (turn : ∀ C D i v ys H' s', i < n → V i v → J i ys H' → St s₁ C [(x, v)] ((D, Lst ys) :: (I, P (i + 1)) :: (L, Frm b) :: H') s' →
      wpAny (model prog w) A (tests ifs (compEnvC scope cl C env)) (fun ok s₃ => if ok = true then wpAny (model prog w) A (eval elt (compEnvC scope cl C env)) (fun y s₄ => CompEnd s₁ C [(D, Lst ys), (I, P (i + 1)), (L, Frm b)] (J (i + 1) (ys ++ [y])) s₄) (fun _ _ => False) s₃
        else CompEnd s₁ C [(D, Lst ys), (I, P (i + 1)), (L, Frm b)] (J (i + 1) ys) s₃) (fun _ _ => False) s')
    (done : ∀ C D ys H' s', J n ys H' → St s₁ L b ((C, Frm []) :: (D, Lst ys) :: H') s' →
      CompDone prog w A use Q E s₁ L b C D ys H' s') :
    wpAny (model prog w) A (newList []) (fun acc s₃ =>
      wpAny (model prog w) A (newFunctionEnv scope env.globals cl [] env.qual none .none (some env)) (fun cenv s₄ =>
        codeAny (model prog w) A (.compStart (.ListComp elt [⟨.Name x px, iter, ifs, 0⟩] scope pos) 0 (.ref I) acc { cenv with scope := relabel scope env }) (compPost (model prog w) A E use Q acc cenv.locals) s₄) E s₃) E s := by
  refine new_list S (by simp [sizeLine_eq]) fun s₃ D S₃ => ?_
  refine wpAny_newFunctionEnv hcell (by intro y hy; simp at hy) (fun h₁ hns₁ hsb₁ => ?_) hkind
  have S₄ := S₃.enter (b' := []) (s₃.toks + ([] : List (Str × Value)).length) hns₁ (fun c o e => hsb₁.extBut c o (Nat.ne_of_lt (Heap.lt_size e)) (Heap.get?_push_of_some _ e)) (fun x v e => by simp [lk] at e)
  generalize hC : s₃.heap.objs.size = C at S₄ ⊢
  have S₅ : St s₁ C [] ((D, Lst []) :: (I, P 0) :: (L, Frm b) :: H) _ := S₄.perm (by
    refine List.Perm.trans ?_ (List.perm_middle (l₁ := [(D, Lst []), (I, P 0)]) (l₂ := H) (a := (L, Frm b)))
    exact List.Perm.refl _)
  have loop : ∀ s₆, St s₁ C [] ((D, Lst []) :: (I, P 0) :: (L, Frm b) :: H) s₆ → codeAny (model prog w) A (.compLoop (.ListComp elt [⟨.Name x px, iter, ifs, 0⟩] scope pos) 0 (.ref I) (.ref D) (compEnvC scope cl C env)) (compPost (model prog w) A E use Q (.ref D) C) s₆ := by
    intro s₆ S₆
    refine comp_loop (env := compEnvC scope cl C env) W J S₆ h0 hn (fun i ys H s bC hi hJ S => hR C D i ys H s bC hi hJ S) (lookup_relabel_local hx) rfl hkind (fun i v ys H' s' hi hV hJ S => turn C D i v ys H' s' hi hV hJ S) fun ys H' s' bC hJ S' => ?_
    have Sc : St s₁ L b ((C, Frm []) :: (D, Lst ys) :: H') s' := by
      have S0 : St s₁ C bC ((L, Frm b) :: (D, Lst ys) :: H') s' := S'.perm (List.Perm.swap (D, Lst ys) (L, Frm b) H')
      have fC := S0.ns
      have hb := S0.back
      refine ⟨hb.ns, hb.keep, hb.fr, ?_, ?_, ?_, hb.eq⟩
      · intro p hp
        rcases List.mem_cons.mp hp with rfl | hp
        · obtain ⟨o, ho, h⟩ := fC; exact ⟨o, ho, h.weak (Sub.nil _)⟩
        · exact hb.nw p hp
      · intro p hp
        rcases List.mem_cons.mp hp with rfl | hp
        · exact ⟨Ne.symm (S0.fresh (L, Frm b) (List.mem_cons_self ..)).1, S0.fr⟩
        · exact hb.fresh p hp
      · exact List.nodup_cons.mpr ⟨fun hm => by
          obtain ⟨q, hq, e⟩ := List.mem_map.mp hm
          exact (S0.fresh q (List.mem_cons_of_mem _ hq)).1 e, hb.nd⟩
    have fin := done C D ys H' s' hJ Sc
    have nsC : ∀ {b' : List (Str × Value)} {K : List Ent} {s₇ : Shared}, St s₁ L b' ((C, Frm []) :: K) s₇ → ∃ m, s₇.heap.Ns C m ∧ ∀ h', Heap.SameBut C s₇.heap h' → St s₁ L b' K { s₇ with heap := h' } := by
      intro b' K s₇ S₇
      obtain ⟨o, ho, es, ep, hd, hk, hf⟩ := getHead S₇
      exact ⟨nsFind es, ⟨o, es, ep, ho, hd, hk, fun _ => rfl⟩, fun h' hs => S₇.gone s₇.toks fun c o hc e => hs.extBut c o hc e⟩
    cases use with
    | none =>
      obtain ⟨m, hm, hS⟩ := nsC Sc
      exact ⟨m, hm, fun h' hs => fin _ (hS h' hs)⟩
    | some u =>
      refine wpAny_mono fin (fun _ s₂ h₂ => ?_) fun _ _ e => e
      obtain ⟨b₂, H₂, S₂, hq⟩ := h₂
      obtain ⟨m, hm, hS⟩ := nsC S₂
      exact ⟨m, hm, fun h' hs => hq _ (hS h' hs)⟩
  have go := loop _ S₅
  have hRs : R h₁ := hR C D 0 [] H _ [] (Nat.zero_le _) h0 S₅
  exact codeAny_compStart_list go (W.self 0 _ _ _ (getHead (S₅.perm (List.Perm.swap (I, P 0) (D, Lst []) ((L, Frm b) :: H)).symm)) hRs go)

theorem ex_comp {x y : Str} {px py pos spos : Pos} {elt iter : Expr} {ifs : List Expr} {scope : Scope} {cl : List (Str × Addr)} {Q : Flow → Shared → Prop}
    (hsw : swapsWith (.ListComp elt [⟨.Name x px, iter, ifs, 0⟩] scope pos) (some (.Name y py)) spos.line env = pure true)
    (hclos : closureFor scope env = pure cl) (hkind : scope.kind = .function) (hnames : ∀ y ∈ scope.names, y.2 = .local → scope.names.lookup y.1 = some .local)
    (h : wpAny (model prog w) A (eval iter env) (fun xv s₁ => CompAt prog w A elt x px pos iter ifs scope env cl (some (assign (.Name y py) env)) (fun _ s' => Q .next s') E xv s₁) E s) (hs : ∀ x, foldedSetIterable iter env x = pure x) :
    wpAny (model prog w) A (exec (.Assign [.Name y py] (.ListComp elt [⟨.Name x px, iter, ifs, 0⟩] scope pos) spos) env) Q E s := by
  rw [exec_Assign_Name_used _ _ _ _ hsw]
  refine wpAny_bind (wpAny_standAt (wpAny_bind ?_))
  show wpAny _ A (do let _ ← comprehension (.ListComp elt [⟨.Name x px, iter, ifs, 0⟩] scope pos) scope env _ (newList []) false (eval iter env) (some (assign (.Name y py) env))) _ _ s
  exact wpAny_bind (wpAny_mono (wpAny_comprehension_free (use := some (assign (.Name y py) env)) (Q := fun _ s' => Q .next s') rfl hs hclos hkind hnames h) (fun _ s' hq => wpAny_pure (wpAny_pure hq)) fun _ _ e => e)

/-- over a list -/
theorem comp_list {x : Str} {px pos : Pos} {elt iter : Expr} {ifs : List Expr} {scope : Scope} {cl : List (Str × Addr)} {use : Option (Value → Sem Unit)} {Q : Value → Shared → Prop} {vs : List Value} (J : Nat → List Value → List Ent → Prop)
    (S : St s₁ L b H s) (h0 : J 0 [] H) (hn : vs.length ≤ sizeLine) (hl : (l, Lst vs) ∈ H ∨ s₁.heap.IsList l vs.toArray) (hJ : ∀ i ys H, J i ys H → (l, Lst vs) ∈ H ∨ s₁.heap.IsList l vs.toArray) (hh : A.handled = none)
    (hcell : ∀ y ∈ scope.names, y.2 ≠ .cell) (hkind : scope.kind = .function) (hx : scope.names.lookup x = some .local)
    (turn : ∀ C D I i v ys H' s', vs[i]? = some v → J i ys H' → St s₁ C [(x, v)] ((D, Lst ys) :: (I, LI l (i + 1)) :: (L, Frm b) :: H') s' →
      wpAny (model prog w) A (tests ifs (compEnvC scope cl C env)) (fun ok s₃ => if ok = true then wpAny (model prog w) A (eval elt (compEnvC scope cl C env)) (fun y s₄ => CompEnd s₁ C [(D, Lst ys), (I, LI l (i + 1)), (L, Frm b)] (J (i + 1) (ys ++ [y])) s₄) (fun _ _ => False) s₃
        else CompEnd s₁ C [(D, Lst ys), (I, LI l (i + 1)), (L, Frm b)] (J (i + 1) ys) s₃) (fun _ _ => False) s')
    (done : ∀ C D ys H' s', J vs.length ys H' → St s₁ L b ((C, Frm []) :: (D, Lst ys) :: H') s' →
      CompDone prog w A use Q E s₁ L b C D ys H' s') :
    CompAt prog w A elt x px pos iter ifs scope env cl use Q E (.ref l) s :=
  it_list S hl fun s' I hne S' => comp_at (Itr.list vs hh hne) J S' h0 hn
    (fun C D i ys H s bC _ h S => (hJ i ys H h).elim (fun m => Lst.isList (S.get (List.mem_cons_of_mem _ (List.mem_cons_of_mem _ (List.mem_cons_of_mem _ m))))) fun ⟨o, ho, r⟩ => ⟨o, S.keep _ _ ho, r⟩)
    (fun s b' S => hl.elim (fun m => Lst.isList (S.get (List.mem_cons_of_mem _ m))) fun ⟨o, ho, r⟩ => ⟨o, S.keep _ _ ho, r⟩) hcell hkind hx
    (fun C D i v ys H' s' hi hV hJ S => turn C D I i v ys H' s' hV hJ S) done
end
end Mine
namespace Mine

/-! ### lists of texts -/
def tx (s : String) : List Nat := (Str.ofString s).cps.toList

section
variable {prog : Program} {w : World} {A : Around} {E : Value → Shared → Prop} {s s₁ : Shared} {L l a c : Addr} {b : List (Str × Value)} {H H' : List Ent} {env : Env} {Q : Value → Shared → Prop} {t u : Tok} {i j : Int}

theorem c_tx {x : String} {k : Nat} {pos : Pos} (S : St s₁ L b H s) (h : ∀ s' t', St s₁ L b H s' → Q (.str (T (tx x)) t') s') : wpAny (model prog w) A (eval (.Constant (.str (Str.ofString x)) k pos) env) Q E s :=
  c_str S fun s' t' S' => by have := h s' t' S'; rwa [show T (tx x) = Str.ofString x from T_of _] at this

/-! ### where a list lies -/
def IsAt (s₁ : Shared) (H : List Ent) (l : Addr) (vs : List Value) : Prop := (l, Lst vs) ∈ H ∨ s₁.heap.IsList l vs.toArray
theorem IsAt.isList {vs : List Value} (S : St s₁ L b H s) (h : IsAt s₁ H l vs) : s.heap.IsList l vs.toArray := h.elim (fun m => Lst.isList (S.get m)) fun ⟨o, ho, r⟩ => ⟨o, S.keep _ _ ho, r⟩

theorem i_fdiv (S : St s₁ L b H s) (h0 : 0 < j) (h1 : j < 1073741824) (h : ∀ s' t', St s₁ L b H s' → Q (.int (i / j) t') s') : wpAny (model prog w) A (binaryOp .FloorDiv (.int i t) (.int j u)) Q E s :=
  floordiv_int (by omega) (by rw [Int.fdiv_eq_ediv_of_nonneg _ (by omega)]; exact h _ _ (S.tok _)) (Or.inl (PyProof.noPylong_small (by omega)))
theorem i_neg (S : St s₁ L b H s) (h : ∀ s' t', St s₁ L b H s' → Q (.int (-i) t') s') : wpAny (model prog w) A (unaryOp .USub (.int i t)) Q E s := neg_int (h _ _ (S.tok _))
theorem c_lenL {vs : List Value} (S : St s₁ L b H s) (hl : IsAt s₁ H l vs) (hsz : vs.length ≤ sizeLine) (h : ∀ s' t', St s₁ L b H s' → Q (.int vs.length t') s') : wpAny (model prog w) A (call (.builtin "len") [.ref l]) Q E s := by
  have h' := h { s with toks := s.toks + 1 + 1 } (s.toks + 1) (S.tok _)
  refine len_list (hl.isList S) (by rw [sizeLine_eq] at hsz; rw [List.size_toArray]; omega) ?_
  rw [List.size_toArray]; exact h'
theorem l_item {value slice : Expr} {vs : List Value} {k : Int} {x : Value} (S : St s₁ L b H s) (hl : IsAt s₁ H l vs) (h0 : 0 ≤ k) (h1 : k < 2 ^ 62) (hx : vs[k.toNat]? = some x) (h : Q x s)
    (hs : subscripted slice false (.ref l) (.int k u) = operate [.ref l, .int k u] (getItem (.ref l) (.int k u))) :
    wpAny (model prog w) A (subscriptTail value slice (.ref l) (.int k u)) Q E s :=
  tail_any (hl.isList S).typeIs slot_list_getitem.lookup (wpAny_getItem_list (hl.isList S) h0 (by omega) (by simpa using hx) h) hs
theorem PlainL {vs : List Value} (S : St s₁ L b H s) (hl : (l, Lst vs) ∈ H) : ∀ c, Value.ref l = .ref c → ∃ o, s.heap.get? c = some o ∧ o.dict = none := fun c e => by
  cases e
  obtain ⟨o, ho, _, hd, _⟩ := S.get hl; exact ⟨o, ho, hd⟩
theorem m_append {vs : List Value} {pl : Sem Bool} {Q : Value × List Value → Shared → Prop} (S : St s₁ L b H s) (hl : (l, Lst vs) ∈ H) (h : Q (.builtin "list.append", [.ref l]) s) : wpAny (model prog w) A (getMethod (.ref l) "append" pl) Q E s := by
  obtain ⟨o, ho, hc, hd, _⟩ := S.get hl
  exact getMethod_list_append ho hc hd h

theorem l_mul {vs : List Value} {n : Int} (S : St s₁ L b H s) (hl : (l, Lst vs) ∈ H) (hlo : -(2 ^ 62) ≤ n) (hhi : n < 2 ^ 62) (hsz : vs.length * n.toNat ≤ 2 ^ 24) (h : ∀ s' a, St s₁ L b ((a, Lst (List.replicate n.toNat vs).flatten) :: H) s' → Q (.ref a) s') :
    wpAny (model prog w) A (binaryOp .Mult (.ref l) (.int n u)) Q E s := by
  obtain ⟨k, hl'⟩ := Lst.isL (S.get hl)
  have e : List.foldl (fun x1 x2 => x1 ++ x2) #[] (List.replicate (if vs.toArray.isEmpty = true then 0 else n.toNat) vs.toArray) = (List.replicate n.toNat vs).flatten.toArray := by
    have key : ∀ (k : Nat) (acc : List Value), (List.replicate k vs.toArray).foldl (· ++ ·) acc.toArray = (acc ++ (List.replicate k vs).flatten).toArray := by
      intro k
      induction k with
      | zero => intro acc; simp
      | succ k ih => intro acc; simp only [List.replicate_succ, List.foldl_cons, List.flatten_cons]; rw [show acc.toArray ++ vs.toArray = (acc ++ vs).toArray from by simp, ih]; simp
    split
    · rename_i h1
      have : vs = [] := by simpa using h1
      subst this; simp
    · have := key n.toNat []
      simpa using this
  exact wpAny_binaryOp_repeat_ref (T := "list") (U := "int") (by decide) ⟨_, hl', rfl⟩ (fun s' => typeIs_int s' n u) noFill_list_mul F.fills_int_mul F.slot_int_rmul repeat_list F.slot_int_index.lookup
    (call_meets F.slot_int_rmul (typeIs_int s n u) F.entry_int_rmul (F.args_int_rmul_2 _ _) (int___rmul___int_list n u l vs.toArray k)
      ⟨hl', rfl, ⟨_, hl', rfl⟩, call_meets F.slot_list_mul ⟨_, hl', rfl⟩ F.entry_list_mul (F.args_list_mul_2 _ _)
        (AutoListH.list___mul___list_int_3 l vs.toArray k n u (by simp [Builtin.List.listFitsIndex]; omega) (by rw [List.size_toArray]; exact Nat.not_lt.mpr (Nat.le_trans hsz (by decide))) (by simp only [Builtin.List.listTooLong, sizeLine, List.size_toArray, decide_eq_true_eq]; exact Nat.not_lt.mpr (Nat.le_trans hsz (by decide))))
        ⟨hl', h _ _ (S.push (P := Lst (List.replicate n.toNat vs).flatten) ⟨rfl, rfl, rfl, _, by show Data.seq _ _ = _; rw [e]⟩ s.toks)⟩⟩)

/-! ### == -/
def lEq (e : Value → Value → Bool) : List Value → List Value → Bool
  | [], [] => true
  | x :: xs, y :: ys => e x y && lEq e xs ys
  | _, _ => false
theorem lEq_len {e : Value → Value → Bool} : ∀ {xs ys : List Value}, lEq e xs ys = true → xs.length = ys.length
  | [], [], _ => rfl
  | [], _ :: _, h => by simp [lEq] at h
  | _ :: _, [], h => by simp [lEq] at h
  | _ :: xs, _ :: ys, h => by simp only [lEq, Bool.and_eq_true] at h; simp [lEq_len h.2]
theorem lEq_iff {e : Value → Value → Bool} : ∀ {xs ys : List Value}, lEq e xs ys = true ↔ xs.length = ys.length ∧ ∀ (j : Nat) (x y : Value), xs[j]? = some x → ys[j]? = some y → e x y = true
  | [], [] => by simp [lEq]
  | [], _ :: _ => by simp [lEq]
  | _ :: _, [] => by simp [lEq]
  | x :: xs, y :: ys => by
    simp only [lEq, Bool.and_eq_true, List.length_cons, Nat.add_right_cancel_iff]
    rw [lEq_iff]
    constructor
    · rintro ⟨h1, h2, h3⟩
      refine ⟨h2, fun j x' y' hx hy => ?_⟩
      cases j with
      | zero => simp at hx hy; subst hx hy; exact h1
      | succ j => exact h3 j x' y' (by simpa using hx) (by simpa using hy)
    · rintro ⟨h1, h2⟩
      exact ⟨h2 0 x y rfl rfl, h1, fun j x' y' hx hy => h2 (j + 1) x' y' (by simpa using hx) (by simpa using hy)⟩
theorem all_range_lEq {e : Value → Value → Bool} {xs ys : List Value} (h : xs.length = ys.length) : (List.range xs.toArray.size).all (fun j => e (xs[j]?.getD .none) (ys[j]?.getD .none)) = lEq e xs ys := by
  rw [Bool.eq_iff_iff, lEq_iff, List.all_eq_true]
  simp only [List.mem_range, List.size_toArray]
  constructor
  · intro hh
    refine ⟨h, fun j x y hx hy => ?_⟩
    have := hh j (List.getElem?_eq_some_iff.mp hx).1
    rwa [hx, hy] at this
  · rintro ⟨_, hh⟩ j hj
    have h2 : j < ys.length := h ▸ hj
    exact hh j _ _ (by simp [hj]) (by simp [h2])
section
open SeqAt
theorem rc_lists {e : Value → Value → Bool} {vs us : List Value} (ha : s.heap.IsList a vs.toArray) (hc : s.heap.IsList c us.toArray) (hu : A.units < cLine) (he : ∀ x ∈ vs, ∀ y ∈ us, EqAt A.in1 s x y (e x y)) :
    RcAt A s (.ref a) (.ref c) (lEq e vs us) := by
  by_cases hl : vs.length = us.length
  · rw [← all_range_lEq hl]
    exact RcAt.lists ha hc (by simpa using hl) hu fun j h1 h2 => by
      have h1' : j < vs.length := by simpa using h1
      have h2' : j < us.length := by simpa using h2
      have := he vs[j] (List.getElem_mem h1') us[j] (List.getElem_mem h2')
      simpa [h1', h2'] using this
  · have : lEq e vs us = false := by
      cases h : lEq e vs us with
      | false => rfl
      | true => exact absurd (lEq_len h) hl
    rw [this]
    exact RcAt.lists_lengths ha hc (by simpa using hl) hu
end
theorem l_neInts {vs us : List Value} {ns ms : List Int} (S : St s₁ L b H s) (ha : IsAt s₁ H a vs) (hc : IsAt s₁ H c us) (hv : IntsAre vs ns) (hw : IntsAre us ms) (hu : A.units + 64 < cLine) (h : Q (.bool (!decide (ns = ms))) s) :
    wpAny (model prog w) A (compareOp .NotEq (.ref a) (.ref c)) Q E s := ke_ne_ints (ha.isList S) (hc.isList S) hv hw hu h
end
end Mine
namespace Mine
theorem law_end {c : ClaimW} {cl : Str → Option Addr} {mean : ExcName → Option Value} {args : List WData} {s₁ s' : Shared} {L : Addr} {b : List (Str × Value)} {H : List Ent} (S : St s₁ L b H s') (hg : s₁.gens = #[])
    (hn : ∀ cls, c.raises args cls = false) (hp : c.post args (.bool true) args = true) : GoodW c cl mean args s₁ (.ok (.ret (.bool true))) s' := by
  obtain ⟨h, tk, e⟩ := S.eq
  exact ⟨.inl ⟨.bool true, .bool true, [], rfl, hn, .bool true, hp, unshared_nil⟩, S.keep, by rw [e], by rw [e]; exact hg⟩
/-- the start: the frame that the call has laid -/
theorem law_start0 {s₁ : Shared} {L : Addr} {h : Heap} {m : Str → Option Value} {b : List (Str × Value)} (tk : Nat) (F : Fr s₁.heap L h m) (hb : ∀ x v, lk b x = some v → m x = some v) : St s₁ L b [] { s₁ with heap := h, toks := tk } where
  ns := Frm.of_Ns F.ns hb
  keep := F.keep
  fr := Heap.get?_none_of_le F.above
  nw := fun _ hp => nomatch hp
  fresh := fun _ hp => nomatch hp
  nd := List.nodup_nil
  eq := ⟨h, tk, rfl⟩
theorem lk1 {x : Str} {v : Value} {m : Str → Option Value} (h : m x = some v) : ∀ y u, lk [(x, v)] y = some u → m y = some u := fun y u e => by
  simp only [lk] at e
  by_cases hx : x = y
  · subst hx; simp at e; subst e; exact h
  · simp [hx] at e
end Mine
namespace Mine
def fdAt (K : Frag) (f : Addr) : FuncData := match K.lookup f with
  | some ⟨_, _, .func fd, _⟩ => fd
  | _ => default
def bodyAt (fd : FuncData) : List Stmt := match fd.body with
  | .stmts b => b
  | _ => []
end Mine
namespace Mine
theorem ifT {P Q : Prop} (h : P) : if true = true then P else Q := h
end Mine
namespace Mine
section
variable {prog : Program} {w : World} {A : Around} {E : Value → Shared → Prop} {s s₁ : Shared} {L l a c : Addr} {b : List (Str × Value)} {H H' : List Ent} {env : Env}
end
end Mine
namespace Mine
end Mine
namespace Mine
end Mine
namespace Mine
section
variable {prog : Program} {w : World} {A : Around} {E : Value → Shared → Prop} {s s₁ : Shared} {L l a c : Addr} {b : List (Str × Value)} {H H' : List Ent} {env : Env} {Q : Value → Shared → Prop} {t u : Tok} {i j : Int}

theorem slicePick_cut (vs : List Value) (lo hi : Option Int) : slicePick vs.toArray lo hi none = (cut vs lo hi).toArray := by
  have e : sliceBounds lo hi none vs.toArray.size = ((loC vs.length lo : Int), (hiC vs.length hi : Int), 1) := by
    unfold sliceBounds
    rw [List.size_toArray]
    cases lo <;> cases hi <;> simp only [loC, hiC, clip, Option.getD_none, show ((1 : Int) > 0) = True from by simp, if_true] <;> (refine Prod.ext ?_ (Prod.ext ?_ rfl)) <;> simp only <;> omega
  unfold slicePick
  rw [e, sliceRange1]
  have := picked vs (loC vs.length lo) (hiC vs.length hi) (hiC_le _ _)
  congr 1
  simpa [cut] using this
theorem partOf (p : Option (Int × Tok)) : IsPart (partValue p) (p.map (·.1)) := by
  cases p with
  | none => exact .none
  | some x => exact .int _ _
theorem l_slice {value slice : Expr} {vs : List Value} {lo hi : Option Int} (S : St s₁ L b ((a, Slc lo hi) :: H) s) (hl : IsAt s₁ H l vs) (hsz : vs.length ≤ sizeLine) (h : ∀ s' c, St s₁ L b ((c, Lst (cut vs lo hi)) :: H) s' → Q (.ref c) s')
    (hs : subscripted slice false (.ref l) (.ref a) = operate [.ref a, .ref l] (getItem (.ref l) (.ref a))) : wpAny (model prog w) A (subscriptTail value slice (.ref l) (.ref a)) Q E s := by
  obtain ⟨o, ho, lo', hi', hc, hd, rfl, rfl⟩ := S.get (List.mem_cons_self ..)
  have hl' : s.heap.IsList l vs.toArray := hl.isList S.drop
  refine tail_any hl'.typeIs slot_list_getitem.lookup (wpAny_getItem_list_slice (st := none) hl' ⟨o, ho, hc, hd⟩ (partOf lo') (partOf hi') .none (by simp) ?_ (by rw [List.size_toArray]; exact hsz)) hs
  refine h _ _ (S.drop.push (P := Lst _) ⟨rfl, rfl, rfl, 0, ?_⟩ s.toks)
  show Data.seq _ _ = _
  rw [slicePick_cut]
end
section
variable {prog : Program} {w : World} {A : Around} {E : Value → Shared → Prop} {s s₁ : Shared} {L I l : Addr} {b : List (Str × Value)} {H H' : List Ent} {env : Env}
theorem comp_use {y : Str} {py : Pos} {C D : Addr} {ys : List Value} {Q : Value → Shared → Prop} (S : St s₁ L b ((C, Frm []) :: (D, Lst ys) :: H) s) (hx : env.kindOf y = some .local) (hL : env.locals = L) (hk : env.scope.kind = .function)
    (h : ∀ s₃, St s₁ L (up y (.ref D) b) ((D, Lst ys) :: H) s₃ → Q .none s₃) : CompDone prog w A (some (assign (.Name y py) env)) Q E s₁ L b C D ys H s :=
  wpAny_assign_Name (st_L S hx (fun s' S' => ⟨_, _, S', h⟩) hL hk)
end
end Mine
namespace Mine
end Mine
open PyProof.Rows.TI (gone gone_some gone_none gone_get)
open PySem.AutoSeq1 (wpAny_loadPart')
open PySem.SeqAt PySem.MeetsSeq PySem.MeetsSeq2 PySem.MeetsSeq3 PySem.SeqRoads2
namespace Mine

theorem remove_loopAt (l : Addr) (items : Array Value) (n : Nat) (x : Value) (e : Value → Bool) (j : Nat) (hj : j < items.size) (hit : e items[j] = true) (k : Nat) (hs1 : items.size ≤ sizeLine) :
    ∀ i : Nat, j - i = k → i ≤ j → (∀ m (hm : m < items.size), i ≤ m → m < j → e items[m] = false) → Meets (Builtin.«list.remove.loop» ⟨[.ref l, x, rawInt i], []⟩)
      (fun A R s => s.heap.get? l = some { cls := .type "list", dict := none, data := .seq items n, slots := #[] } ∧ (∀ y, y ∈ items → EqAt A.in1 s y x (e y)) ∧ R (.ok (.ret .none)) { s with heap := s.heap.update l (Obj.mapSeq fun xs => xs.eraseIdxIfInBounds j) }) := by
  induction k with
  | zero =>
    intro i hk hij hno prog w A R s h
    obtain ⟨hp, g, d, tk, os⟩ := s; obtain ⟨hl, he, h⟩ := h
    have hij' : i = j := by omega
    subst hij'
    wp_walk using wpAny_loadPart' hl
    have hi : items[((i : Nat) : Int).toNat]? = some items[i] := by simp [hj]
    rw [hi]
    refine wpAny_bind (he _ (Array.getElem_mem hj) prog w _ _ ?_)
    rw [hit]
    have hz' : (items.eraseIdxIfInBounds i).size ≤ sizeLine + 1 := Nat.le_trans (size_erased items _) (Nat.le_succ_of_le hs1)
    wp_walk using (wpAny_updateSeq hl rfl (hz := hs1) (_hz' := hz')), wpAny_loadPart' hl
    simpa using h
  | succ k ih =>
    intro i hk hij hno prog w A R s h
    obtain ⟨hp, g, d, tk, os⟩ := s; obtain ⟨hl, he, h⟩ := h
    have hlt : i < items.size := by omega
    wp_walk using wpAny_loadPart' hl
    have hi : items[((i : Nat) : Int).toNat]? = some items[i] := by simp [hlt]
    have hc : ((i : Int) + 1) = ((i + 1 : Nat) : Int) := by push_cast; rfl
    rw [hi]
    refine wpAny_bind (he _ (Array.getElem_mem hlt) prog w _ _ ?_)
    rw [hno i hlt (Nat.le_refl _) (by omega)]
    wp_walk
    rw [hc]
    exact ⟨plainId_quiet plain_remove_loop _, codeAny_builtin entry_remove_loop (by
      rw [Around.under_plainId plain_remove_loop _]
      exact ih (i + 1) (by omega) (by omega) (fun m hm h1 h2 => hno m hm (by omega) h2) prog w A R _ ⟨hl, he, h⟩)⟩

theorem list_removeAt (l : Addr) (items : Array Value) (n : Nat) (x : Value) (e : Value → Bool) (j : Nat) (hj : j < items.size)
    (hit : e items[j] = true) (hno : ∀ m (hm : m < items.size), m < j → e items[m] = false) (hs1 : items.size ≤ sizeLine) :
    Meets (Builtin.«list.remove» ⟨[.ref l, x], []⟩)
      (fun A R s => s.heap.get? l = some { cls := .type "list", dict := none, data := .seq items n, slots := #[] } ∧ (∀ y, y ∈ items → EqAt A.in1 s y x (e y)) ∧ R (.ok (.ret .none)) { s with heap := s.heap.update l (Obj.mapSeq fun xs => xs.eraseIdxIfInBounds j) }) := by
  intro prog w A R s h
  obtain ⟨hp, g, d, tk, os⟩ := s; obtain ⟨hl, he, h⟩ := h
  wp_walk using wpAny_loadPart' hl
  exact ⟨plainId_quiet plain_remove_loop _, codeAny_builtin entry_remove_loop (by
    rw [Around.under_plainId plain_remove_loop _]
    exact remove_loopAt l items n x e j hj hit _ hs1 0 rfl (Nat.zero_le _) (fun m hm _ h2 => hno m hm h2) prog w A R _ ⟨hl, he, h⟩)⟩

theorem remove_noneAt (l : Addr) (items : Array Value) (n : Nat) (x : Value) (e : Value → Bool) (hno : ∀ m (hm : m < items.size), e items[m] = false) (k : Nat) :
    ∀ i : Nat, items.size - i = k → Meets (Builtin.«list.remove.loop» ⟨[.ref l, x, rawInt i], []⟩)
      (fun A R s => s.heap.get? l = some { cls := .type "list", dict := none, data := .seq items n, slots := #[] } ∧ (∀ y, y ∈ items → EqAt A.in1 s y x (e y)) ∧ raisesNew "ValueError" A R s) := by
  induction k with
  | zero =>
    intro i hk prog w A R s h
    obtain ⟨hp, g, d, tk, os⟩ := s; obtain ⟨hl, he, h⟩ := h
    wp_walk using wpAny_loadPart' hl
    have hi : items[((i : Nat) : Int).toNat]? = none := by simp; omega
    rw [hi]
    wp_walk
    exact_raiseError plainExc_ValueError h.1 h.2
  | succ k ih =>
    intro i hk prog w A R s h
    obtain ⟨hp, g, d, tk, os⟩ := s; obtain ⟨hl, he, h⟩ := h
    have hlt : i < items.size := by omega
    wp_walk using wpAny_loadPart' hl
    have hi : items[((i : Nat) : Int).toNat]? = some items[i] := by simp [hlt]
    have hc : ((i : Int) + 1) = ((i + 1 : Nat) : Int) := by push_cast; rfl
    rw [hi]
    refine wpAny_bind (he _ (Array.getElem_mem hlt) prog w _ _ ?_)
    rw [hno i hlt]
    wp_walk
    rw [hc]
    exact ⟨plainId_quiet plain_remove_loop _, codeAny_builtin entry_remove_loop (by
      rw [Around.under_plainId plain_remove_loop _]
      exact ih (i + 1) (by omega) prog w A R _ ⟨hl, he, h⟩)⟩

theorem list_removeAt_none (l : Addr) (items : Array Value) (n : Nat) (x : Value) (e : Value → Bool) (hno : ∀ m (hm : m < items.size), e items[m] = false) :
    Meets (Builtin.«list.remove» ⟨[.ref l, x], []⟩)
      (fun A R s => s.heap.get? l = some { cls := .type "list", dict := none, data := .seq items n, slots := #[] } ∧ (∀ y, y ∈ items → EqAt A.in1 s y x (e y)) ∧ raisesNew "ValueError" A R s) := by
  intro prog w A R s h
  obtain ⟨hp, g, d, tk, os⟩ := s; obtain ⟨hl, he, h⟩ := h
  wp_walk using wpAny_loadPart' hl
  exact ⟨plainId_quiet plain_remove_loop _, codeAny_builtin entry_remove_loop (by
    rw [Around.under_plainId plain_remove_loop _]
    exact remove_noneAt l items n x e hno _ 0 rfl prog w A R _ ⟨hl, he, h⟩)⟩

theorem eraseP_at (e : Value → Bool) : ∀ vs : List Value, vs.any e = true → ∃ j, ∃ hj : j < vs.length, e vs[j] = true ∧ (∀ m (hm : m < vs.length), m < j → e vs[m] = false) ∧ vs.eraseP e = vs.eraseIdx j
  | [], h => by simp at h
  | v :: vs, h => by
    by_cases hv : e v = true
    · exact ⟨0, by simp, hv, by omega, by simp [hv]⟩
    · have hv' : e v = false := by simpa using hv
      obtain ⟨j, hj, h1, h2, h3⟩ := eraseP_at e vs (by simpa [hv'] using h)
      refine ⟨j + 1, by simpa using hj, by simpa using h1, fun m hm hmj => ?_, by simp [hv', h3]⟩
      cases m with
      | zero => exact hv'
      | succ m => simpa using h2 m (by simpa using hm) (by omega)

section
variable {prog : Program} {w : World} {A : Around} {E : Value → Shared → Prop} {s s₁ : Shared} {L l : Addr} {b : List (Str × Value)} {H H' : List Ent} {env : Env}

theorem lst_get {vs : List Value} (S : St s₁ L b H s) (hl : (l, Lst vs) ∈ H) : ∃ n, s.heap.get? l = some { cls := .type "list", dict := none, data := .seq vs.toArray n, slots := #[] } := by
  obtain ⟨⟨c, d, dt, sl⟩, ho, hc, hd, hs, n, hdt⟩ := S.get hl
  simp only at hc hd hs hdt; subst hc hd hs hdt
  exact ⟨n, ho⟩

theorem l_removeY {vs : List Value} {x : Value} {Q : Value → Shared → Prop} (e : Value → Bool) (S : St s₁ L b H s) (U : Upd l (Lst vs) (Lst (vs.eraseP e)) H H') (hsz : vs.length ≤ sizeLine) (he : ∀ y ∈ vs, EqAt A.in1 s y x (e y)) (hit : vs.any e = true)
    (h : ∀ s', St s₁ L b H' s' → Q .none s') : wpAny (model prog w) A (call (.builtin "list.remove") [.ref l, x]) Q E s := by
  obtain ⟨n, hl⟩ := lst_get S U.mem
  obtain ⟨j, hj, h1, h2, h3⟩ := eraseP_at e vs hit
  refine call_meets PySem.F.slot_list_remove ⟨_, hl, rfl⟩ PySem.F.entry_list_remove (PySem.F.args_list_remove_2 _ _) (list_removeAt l vs.toArray n x e j (by simpa using hj) (by simpa using h1) (fun m hm hmj => by simpa using h2 m (by simpa using hm) hmj) (by simpa using hsz)) ⟨hl, fun y hy => he y (by simpa using hy), ?_⟩
  refine h _ (S.mapSeq U ?_ s.toks)
  rw [h3, Array.eraseIdxIfInBounds]
  simp [hj]

theorem l_removeN {vs : List Value} {x : Value} {Q : Value → Shared → Prop} (e : Value → Bool) (S : St s₁ L b H s) (hl : (l, Lst vs) ∈ H) (he : ∀ y ∈ vs, EqAt A.in1 s y x (e y)) (hno : vs.any e = false) (hh : A.handled = none)
    (h : ∀ h' tk ex, Heap.NewExc s.heap h' ex "ValueError" → E (.ref ex) { s with heap := h', toks := tk }) : wpAny (model prog w) A (call (.builtin "list.remove") [.ref l, x]) Q E s := by
  obtain ⟨n, hl⟩ := lst_get S hl
  refine call_meets PySem.F.slot_list_remove ⟨_, hl, rfl⟩ PySem.F.entry_list_remove (PySem.F.args_list_remove_2 _ _) (list_removeAt_none l vs.toArray n x e (fun m hm => ?_)) ⟨hl, fun y hy => he y (by simpa using hy), hh, h⟩
  have := List.any_eq_false.mp hno vs[m] (List.getElem_mem _)
  simpa using this

theorem l_pop {vs : List Value} {x : Value} {Q : Value → Shared → Prop} (S : St s₁ L b H s) (U : Upd l (Lst (vs ++ [x])) (Lst vs) H H') (hsz : vs.length < sizeLine)
    (h : ∀ s', St s₁ L b H' s' → Q x s') : wpAny (model prog w) A (call (.builtin "list.pop") [.ref l]) Q E s := by
  obtain ⟨n, hl⟩ := lst_get S U.mem
  refine call_meets PySem.F.slot_list_pop ⟨_, hl, rfl⟩ PySem.F.entry_list_pop (PySem.F.args_list_pop_1 _) (list_pop_last l (vs ++ [x]).toArray n x (by simp) (by simp; omega)) ⟨hl, ?_⟩
  refine h _ (S.mapSeq U ?_ s.toks)
  rw [Array.eraseIdxIfInBounds]
  simp [List.eraseIdx_append]

theorem l_extend {vs us : List Value} {c : Addr} {Q : Value → Shared → Prop} (S : St s₁ L b H s) (hc : (c, Lst us) ∈ H) (U : Upd l (Lst vs) (Lst (vs ++ us)) H H') (hsz : vs.length + us.length ≤ sizeLine)
    (h : ∀ s', St s₁ L b H' s' → Q .none s') : wpAny (model prog w) A (call (.builtin "list.extend") [.ref l, .ref c]) Q E s := by
  obtain ⟨n, hl⟩ := lst_get S U.mem
  obtain ⟨n2, hb⟩ := lst_get S hc
  have hsz' : vs.toArray.size + us.toArray.size ≤ sizeLine := by simpa using hsz
  refine call_meets PySem.F.slot_list_extend ⟨_, hl, rfl⟩ PySem.F.entry_list_extend (PySem.F.args_list_extend_2 _ _) (AutoSeq1.list_extend_list_list_0 l vs.toArray n c us.toArray n2 (extend_door hsz') (Nat.le_trans (Nat.le_add_right _ _) hsz')) ⟨hl, hb, ?_⟩
  exact h _ (S.mapSeq U (by simp) s.toks)

theorem l_truth {vs : List Value} {Q : Bool → Shared → Prop} (S : St s₁ L b H s) (hl : IsAt s₁ H l vs) (hsz : vs.length ≤ sizeLine) (h : ∀ s', St s₁ L b H s' → Q (!vs.isEmpty) s') : wpAny (model prog w) A (truthy (.ref l)) Q E s := by
  refine wpAny_truthy_list (IsAt.isList S hl) (by rw [sizeLine_eq] at hsz; simp; omega) ?_
  have : (!vs.toArray.isEmpty) = !vs.isEmpty := by cases vs <;> simp
  rw [this]; exact h _ (S.tok _)

theorem l_count {vs : List Value} {x : Value} {Q : Value → Shared → Prop} (e : Value → Bool) (S : St s₁ L b H s) (hl : (l, Lst vs) ∈ H) (he : ∀ y ∈ vs, EqAt A.in1 s y x (e y))
    (h : ∀ s' t', St s₁ L b H s' → Q (.int (vs.countP e : Nat) t') s') : wpAny (model prog w) A (call (.builtin "list.count") [.ref l, x]) Q E s := by
  obtain ⟨n, hl⟩ := lst_get S hl
  refine call_meets PySem.F.slot_list_count ⟨_, hl, rfl⟩ PySem.F.entry_list_count (PySem.F.args_list_count_2 _ _) (list_countAt l vs.toArray n none #[] x e) ⟨hl, fun y hy => he y (by simpa using hy), ?_⟩
  have := h _ s.toks (S.tok (s.toks + 1))
  simpa using this

theorem m_list {vs : List Value} {name : Str} {id : String} {pl : Sem Bool} {Q : Value × List Value → Shared → Prop} (S : St s₁ L b H s) (hl : IsAt s₁ H l vs) (slot : Slot "list" name id) (hty : typeOf (.builtin id) = pure (.type "method_descriptor"))
    (hp : (l, Lst vs) ∈ H) (h : Q (.builtin id, [.ref l]) s) : wpAny (model prog w) A (getMethod (.ref l) name pl) Q E s :=
  getMethod_builtin (IsAt.isList S hl).typeIs PySem.F.plainAttrs_list slot hty (PlainL S hp) h

/-! ### a try -/
def FrsIn (L : Addr) (H : List Ent) (l : List Env) : Prop := ∀ env ∈ l, env.scope.kind ≠ .module ∧ ∃ F, env.frame = some F ∧ (F = L ∨ ∃ b, (F, Frm b) ∈ H)

structure Hld (s₁ : Shared) (L : Addr) (b : List (Str × Value)) (H : List Ent) (l : List Env) (base : Heap) (e : Addr) (X : String) (a0 fl : Value) (s : Shared) : Prop where
  S : St s₁ L b H s
  nw : ∀ p ∈ H, (∃ o, base.get? p.1 = some o ∧ p.2 o) ∨ ∃ b', p.2 = Frm b'
  kb : ∀ a o, s₁.heap.get? a = some o → base.get? a = some o
  st : base.StaysIn s.heap
  ff : s.heap.FunFrames base l
  tr : s.heap.TracedAtW base e (.type X) a0 fl

theorem Hld.next {l : List Env} {base : Heap} {e : Addr} {X : String} {a0 fl fl' : Value} (h : Hld s₁ L b H l base e X a0 fl s) {h' : Heap} (tk : Nat) (st : base.StaysIn h') (ff : h'.FunFrames base l) (tr : h'.TracedAtW base e (.type X) a0 fl')
    (up : s.heap.UpToSlots h') : Hld s₁ L b H l base e X a0 fl' { s with heap := h', toks := tk } := by
  have fr : ∀ (a : Addr) (b' : List (Str × Value)), (∃ o, s.heap.get? a = some o ∧ Frm b' o) → ∃ o, h'.get? a = some o ∧ Frm b' o := by
    rintro a b' ⟨o, ho, es, ep, hd, r⟩
    obtain ⟨sl, h2⟩ := up a o ho (fun vs q => by rw [hd] at q; cases q)
    exact ⟨_, h2, es, ep, hd, r⟩
  refine ⟨⟨fr _ _ h.S.ns, fun a o x => st a o (h.kb a o x), h.S.fr, fun p hp => ?_, h.S.fresh, h.S.nd, ?_⟩, h.nw, h.kb, st, ff, tr⟩
  · rcases h.nw p hp with ⟨o, ho, hP⟩ | ⟨b', hb⟩
    · exact ⟨o, st _ _ ho, hP⟩
    · have := h.S.nw p hp
      rw [hb] at this ⊢
      exact fr _ _ this
  · obtain ⟨_, _, e⟩ := h.S.eq
    exact ⟨h', tk, by rw [e]⟩

theorem Hld.flight {l : List Env} {base : Heap} {e : Addr} {X : String} {a0 fl : Value} {Q : Unit → Shared → Prop} (h : Hld s₁ L b H l base e X a0 fl s) (k : ∀ s', Hld s₁ L b H l base e X a0 .none s' → Q () s') :
    wpAny (model prog w) A (setFlight (.ref e) none) Q E s := by
  refine wpAny_setFlight_noneW h.st h.ff h.tr fun h' k1 k2 k3 k4 => ?_
  exact k _ (h.next s.toks k1 k2 k3.at fun a o ho hn => ⟨o.slots, k4 a o ho hn⟩)

theorem mem_fst_unique {H : List Ent} (nd : (H.map (·.1)).Nodup) {p q : Ent} (hp : p ∈ H) (hq : q ∈ H) (e : p.1 = q.1) : p = q := by
  induction H with
  | nil => simp at hp
  | cons r H ih =>
    simp only [List.map_cons, List.nodup_cons] at nd
    rcases List.mem_cons.mp hp with h1 | h1 <;> rcases List.mem_cons.mp hq with h2 | h2
    · rw [h1, h2]
    · exact absurd (List.mem_map.mpr ⟨q, h2, by rw [← e, h1]⟩) nd.1
    · exact absurd (List.mem_map.mpr ⟨p, h1, by rw [e, h2]⟩) nd.1
    · exact ih nd.2 h1 h2

theorem St.funFrames {base : Heap} (S : St s₁ L b H s) : ∀ {l : List Env}, FrsIn L H l → (∀ env ∈ l, ∀ F, env.frame = some F → base.get? F = none) → s.heap.FunFrames base l
  | [], _, _ => trivial
  | env :: l, hF, hb => by
    obtain ⟨hk, F, hf, hm⟩ := hF env (List.mem_cons_self ..)
    have : ∃ b' o, s.heap.get? F = some o ∧ Frm b' o := by
      rcases hm with rfl | ⟨b', hm⟩
      · obtain ⟨o, ho, h⟩ := S.ns; exact ⟨b, o, ho, h⟩
      · obtain ⟨o, ho, h⟩ := S.get hm; exact ⟨b', o, ho, h⟩
    obtain ⟨b', o, ho, es, ep, hd, _⟩ := this
    exact ⟨hk, ⟨F, o, hf, hb env (List.mem_cons_self ..) F hf, ho, fun vs q => by rw [hd] at q; cases q⟩, S.funFrames (fun e he => hF e (List.mem_cons_of_mem _ he)) fun e he => hb e (List.mem_cons_of_mem _ he)⟩

theorem tr_note {l : List Env} {e : Addr} {X : String} {h' : Heap} {tk : Nat} {Q : Unit → Shared → Prop} (S : St s₁ L b H s) (hx : Heap.NewExc s.heap h' e X) (hfr : A.frames = some (env :: l)) (hF : FrsIn L H (env :: l)) (hf : env.frame = some L)
    (k : ∀ base a0 s', Hld s₁ L b H (env :: l) base e X a0 (rawInt L) s' → Q () s') : wpAny (model prog w) A (noteFrame (.ref e) env) Q E { s with heap := h', toks := tk } := by
  obtain ⟨ob, tp, he, hcls, hd⟩ := hx.there
  have S' : St s₁ L b H { s with heap := h', toks := tk } := S.ext tk hx.keeps
  let fs := (env :: l).filterMap (·.frame)
  have hfs : ∀ env' ∈ env :: l, ∀ F, env'.frame = some F → F ∈ fs := fun env' he' F hF' => List.mem_filterMap.mpr ⟨env', he', hF'⟩
  have hinv : ∀ F ∈ fs, F = L ∨ ∃ b, (F, Frm b) ∈ H := fun F hm => by
    obtain ⟨env', he', e'⟩ := List.mem_filterMap.mp hm
    obtain ⟨_, F', e2, hm'⟩ := hF env' he'
    rw [e2] at e'; cases e'; exact hm'
  have hL : ∀ F ∈ fs, s₁.heap.get? F = none := fun F hm => by
    rcases hinv F hm with rfl | ⟨b', hm'⟩
    · exact S.fr
    · exact (S.fresh _ hm').2
  have hst : (gone s.heap fs).StaysIn h' := fun a o ha => hx.keeps a o (gone_some ha).2
  have hen : (gone s.heap fs).get? e = none := by
    cases hq : (gone s.heap fs).get? e with
    | none => rfl
    | some o => have := (gone_some hq).2; rw [hx.new] at this; cases this
  have hFF : h'.FunFrames (gone s.heap fs) (env :: l) := S'.funFrames hF fun env' he' F e' => gone_none (hfs env' he' F e')
  unfold noteFrame
  simp only [hf]
  refine wpAny_bind (wpAny_field he hd (x := .none) rfl ?_)
  rw [if_neg (show ¬ ((Value.none != Value.none) = true) by decide)]
  refine wpAny_entryW (base := gone s.heap fs) hfr hFF hf he hst hen hd (by simp) (a0 := tp) rfl fun h2 hN => ?_
  obtain ⟨k1, k2, k3, k4⟩ := hN
  rw [hcls] at k3
  have H0 : Hld s₁ L b H (env :: l) (gone s.heap fs) e X tp (rawInt L) { s with heap := h2, toks := tk } := by
    have fr : ∀ (a : Addr) (b' : List (Str × Value)), (∃ o, s.heap.get? a = some o ∧ Frm b' o) → ∃ o, h2.get? a = some o ∧ Frm b' o := by
      rintro a b' ⟨o, ho, es, ep, hd, r⟩
      obtain ⟨sl, h3⟩ := k4 a o (hx.keeps _ _ ho) (fun vs q => by rw [hd] at q; cases q)
      exact ⟨_, h3, es, ep, hd, r⟩
    have nw : ∀ p ∈ H, (∃ o, (gone s.heap fs).get? p.1 = some o ∧ p.2 o) ∨ ∃ b', p.2 = Frm b' := fun p hp => by
      by_cases hm : p.1 ∈ fs
      · rcases hinv _ hm with q | ⟨b', hm'⟩
        · exact absurd q (S.fresh p hp).1
        · have := mem_fst_unique S.nd hp hm' rfl
          exact Or.inr ⟨b', by rw [this]⟩
      · obtain ⟨o, ho, h⟩ := S.nw p hp
        exact Or.inl ⟨o, (gone_get hm).trans ho, h⟩
    have kb : ∀ a o, s₁.heap.get? a = some o → (gone s.heap fs).get? a = some o := fun a o ha => (gone_get fun hm => by rw [hL a hm] at ha; cases ha).trans (S.keep a o ha)
    refine ⟨⟨fr _ _ S.ns, fun a o ha => k1 a o (kb a o ha), S.fr, fun p hp => ?_, S.fresh, S.nd, ?_⟩, nw, kb, k1, k2, k3⟩
    · rcases nw p hp with ⟨o, ho, hP⟩ | ⟨b', hb⟩
      · exact ⟨o, k1 _ _ ho, hP⟩
      · have := S.nw p hp
        rw [hb] at this ⊢
        exact fr _ _ this
    · obtain ⟨_, _, e⟩ := S.eq
      exact ⟨h2, tk, by rw [e]⟩
  exact k _ _ _ H0

/-- the state in which a try's body raised -/
def Rais (s₁ : Shared) (L : Addr) (X : String) (J : List (Str × Value) → List Ent → Prop) (ev : Value) (s' : Shared) : Prop :=
  ∃ b H s h' tk e, ev = .ref e ∧ s' = { s with heap := h', toks := tk } ∧ St s₁ L b H s ∧ Heap.NewExc s.heap h' e X ∧ J b H

theorem ex_try {body suite : List Stmt} {b₀ : Stmt} {t : Expr} {pos hpos : Pos} {X T : String} {l : List Env} {Q : Flow → Shared → Prop} (J : List (Str × Value) → List Ent → Prop)
    (hfr : A.frames = some (env :: l)) (hF : ∀ b H, J b H → FrsIn L H (env :: l)) (hf : env.frame = some L)
    (hexc : isSubtype (.type T) (.type "BaseException") = pure true) (hnt : isSubtype (.type ((Manifest.find? T).elim "type" fun x => x.metatype)) (.type "tuple") = pure false) (hsub : isSubtype (.type X) (.type T) = pure true)
    (hbody : wpAny (model prog w) A (execs body env) Q (Rais s₁ L X J) s)
    (hname : ∀ b H s' e E' (Q' : Value → Shared → Prop), St s₁ L b H s' → J b H → Q' (.type T) s' → wpAny (model prog w) (A.mark (some e)) (eval t env) Q' E' s')
    (hsuite : ∀ b H s' e, St s₁ L b H s' → J b H → wpAny (model prog w) (A.mark (some e)) (execs (b₀ :: suite) env) Q (fun _ _ => False) s') :
    wpAny (model prog w) A (exec (.Try body [.ExceptHandler (some t) none (b₀ :: suite) hpos] [] [] pos) env) Q E s := by
  refine wpAny_Try_except (wpAny_mono hbody (fun f s' hq => ?_) fun ev s' hr => ?_)
  · cases f with
    | next => exact wpAny_execs_nil hq
    | _ => exact hq
  · obtain ⟨b', H', s0, h', tk, e, rfl, rfl, S, hx, hJ⟩ := hr
    refine tr_note S hx hfr (hF _ _ hJ) hf fun base a0 s₂ K₂ => ?_
    refine K₂.flight fun s₃ K₃ => ?_
    refine wpAny_handleBy_builtin (X := X) (T := T) (b := true) hexc hnt hsub ?_
    refine hname b' H' s₃ _ _ _ K₃.S hJ ⟨rfl, K₃.tr.there, ?_⟩
    simp only [if_true]
    refine K₃.flight fun s₄ K₄ => ?_
    exact wpAny_mono (hsuite b' H' s₄ _ K₄.S hJ) (fun _ _ q => q) fun _ _ q => q.elim
end
end Mine
open PySem.SeqAt
namespace Mine
/-- what the def gives when both lists are one -/
def uldS (e : Value → Value → Bool) : Nat → List Value → List Value → List Value
  | 0, _, ms => ms
  | n + 1, cur, ms => match cur.getLast? with
    | none => ms
    | some x => if cur.dropLast.any (fun y => e y x) then uldS e n (cur.dropLast.eraseP fun y => e y x) ms else uldS e n cur.dropLast (ms ++ [x])
theorem uldS_snoc (e : Value → Value → Bool) (n : Nat) (cs : List Value) (x : Value) (ms : List Value) : uldS e (n + 1) (cs ++ [x]) ms = if cs.any (fun y => e y x) then uldS e n (cs.eraseP fun y => e y x) ms else uldS e n cs (ms ++ [x]) := by
  rw [uldS]
  simp only [List.getLast?_append, List.getLast?_singleton, Option.some_or, List.dropLast_concat]
theorem uldS_fuel (e : Value → Value → Bool) : ∀ (n : Nat) (cur ms : List Value), cur.length ≤ n → uldS e n cur ms = uldS e cur.length cur ms := by
  intro n
  induction n using Nat.strongRecOn with
  | ind n ih =>
    intro cur ms hn
    rcases List.eq_nil_or_concat cur with rfl | ⟨cs, x, rfl⟩
    · cases n <;> rfl
    · rw [List.concat_eq_append] at hn ⊢
      have hl : (cs ++ [x]).length = cs.length + 1 := by simp
      obtain ⟨k, rfl⟩ : ∃ k, n = k + 1 := ⟨n - 1, by omega⟩
      have hp := List.length_eraseP_le (p := fun y => e y x) (l := cs)
      rw [hl, uldS_snoc, uldS_snoc]
      split
      · rw [ih k (by omega) _ _ (by omega), ← ih cs.length (by omega) _ _ hp]
      · rw [ih k (by omega) _ _ (by omega)]

/-! ### the plain law -/
section
variable (num : Value → Int)
def same (y x : Value) : Bool := num y == num x
def cnt (n : Int) (r : List Value) : Nat := r.countP fun y => num y == n
def bump (c : Int → Nat) (n : Int) : Int → Nat := fun m => if m = n then c m + 1 else c m
def aliveR (c : Int → Nat) : List Value → List Value
  | [] => []
  | x :: r => aliveR c r ++ if c (num x) ≤ cnt num (num x) r then [x] else []
def dueR (c : Int → Nat) : List Value → List Value
  | [] => []
  | x :: r => (if cnt num (num x) r = c (num x) then [x] else []) ++ dueR (bump c (num x)) r

theorem aliveB (x : Value) (c : Int → Nat) : ∀ r, cnt num (num x) r ≤ c (num x) → (aliveR num c r).any (fun y => same num y x) = false ∧ aliveR num (bump c (num x)) r = aliveR num c r
  | [], _ => ⟨rfl, rfl⟩
  | y :: r, h => by
    by_cases e : num y = num x
    · have hc : cnt num (num x) (y :: r) = cnt num (num x) r + 1 := by simp [cnt, e]
      rw [hc] at h
      obtain ⟨h1, h2⟩ := aliveB x c r (by omega)
      have n1 : ¬ c (num y) ≤ cnt num (num y) r := by rw [e]; omega
      have n2 : ¬ bump c (num x) (num y) ≤ cnt num (num y) r := by simp only [bump, e, if_true]; omega
      simp only [aliveR, if_neg n1, if_neg n2, List.append_nil]
      exact ⟨h1, h2⟩
    · have hc : cnt num (num x) (y :: r) = cnt num (num x) r := by simp [cnt, e]
      rw [hc] at h
      obtain ⟨h1, h2⟩ := aliveB x c r h
      have hb : bump c (num x) (num y) = c (num y) := by simp [bump, e]
      simp only [aliveR, hb, h2, List.any_append, h1, Bool.false_or, and_true]
      split <;> simp [same, e]
theorem aliveA (x : Value) (c : Int → Nat) : ∀ r, c (num x) < cnt num (num x) r → (aliveR num c r).any (fun y => same num y x) = true ∧ (aliveR num c r).eraseP (fun y => same num y x) = aliveR num (bump c (num x)) r
  | [], h => by simp [cnt] at h
  | y :: r, h => by
    by_cases e : num y = num x
    · have hc : cnt num (num x) (y :: r) = cnt num (num x) r + 1 := by simp [cnt, e]
      rw [hc] at h
      have p1 : c (num y) ≤ cnt num (num y) r := by rw [e]; omega
      by_cases hlt : c (num x) < cnt num (num x) r
      · obtain ⟨h1, h2⟩ := aliveA x c r hlt
        have p2 : bump c (num x) (num y) ≤ cnt num (num y) r := by simp only [bump, e, if_true]; omega
        simp only [aliveR, if_pos p1, if_pos p2, List.any_append, h1, Bool.true_or, true_and]
        obtain ⟨z, hz, hz'⟩ := List.any_eq_true.mp h1
        rw [List.eraseP_append_left (p := fun y => same num y x) hz' _ hz, h2]
      · obtain ⟨h1, h2⟩ := aliveB num x c r (by omega)
        have p2 : ¬ bump c (num x) (num y) ≤ cnt num (num y) r := by simp only [bump, e, if_true]; omega
        have hs : same num y x = true := by simp [same, e]
        simp only [aliveR, if_pos p1, if_neg p2, List.any_append, h1, Bool.false_or]
        refine ⟨by simp [hs], ?_⟩
        rw [List.eraseP_append_right _ (fun z hz => by have := List.any_eq_false.mp h1 z hz; exact this), h2]
        simp [hs]
    · have hc : cnt num (num x) (y :: r) = cnt num (num x) r := by simp [cnt, e]
      rw [hc] at h
      obtain ⟨h1, h2⟩ := aliveA x c r h
      have hb : bump c (num x) (num y) = c (num y) := by simp [bump, e]
      simp only [aliveR, hb, List.any_append, h1, Bool.true_or, true_and]
      obtain ⟨z, hz, hz'⟩ := List.any_eq_true.mp h1
      rw [List.eraseP_append_left (p := fun y => same num y x) hz' _ hz, h2]
theorem uldS_due : ∀ (r : List Value) (c : Int → Nat) (ms : List Value), uldS (same num) (aliveR num c r).length (aliveR num c r) ms = ms ++ dueR num c r
  | [], c, ms => by simp [aliveR, dueR, uldS]
  | x :: r, c, ms => by
    by_cases h : c (num x) ≤ cnt num (num x) r
    · simp only [aliveR, if_pos h, List.length_append, List.length_singleton]
      rw [uldS_snoc]
      by_cases hlt : c (num x) < cnt num (num x) r
      · obtain ⟨h1, h2⟩ := aliveA num x c r hlt
        rw [if_pos h1, h2, uldS_fuel _ _ _ _ (by rw [← h2]; exact List.length_eraseP_le), uldS_due r]
        have : ¬ cnt num (num x) r = c (num x) := by omega
        simp [dueR, this]
      · obtain ⟨h1, h2⟩ := aliveB num x c r (by omega)
        rw [if_neg (by simp [h1]), ← h2, uldS_due r]
        have : cnt num (num x) r = c (num x) := by omega
        simp [dueR, this]
    · obtain ⟨h1, h2⟩ := aliveB num x c r (by omega)
      simp only [aliveR, if_neg h, List.append_nil]
      rw [← h2, uldS_due r]
      have : ¬ cnt num (num x) r = c (num x) := by omega
      simp [dueR, this]
theorem aliveR_all : ∀ r, aliveR num (fun _ => 0) r = r.reverse
  | [] => rfl
  | x :: r => by simp [aliveR, aliveR_all r]
theorem uldS_law (vs : List Value) : uldS (same num) vs.length vs [] = dueR num (fun _ => 0) vs.reverse := by
  have := uldS_due num vs.reverse (fun _ => 0) []
  rw [aliveR_all, List.reverse_reverse] at this
  simpa using this
end

/-! ### rows that are made one by one -/
def Kof (ps : List (Addr × List Value)) : List Ent := ps.map fun p => (p.1, Lst p.2)
theorem Kof_upd {a : Addr} {vs vs' : List Value} : ∀ {ps : List (Addr × List Value)} {k : Nat}, ps[k]? = some (a, vs) → Upd a (Lst vs) (Lst vs') (Kof ps) (Kof (ps.set k (a, vs')))
  | [], k, h => by simp at h
  | p :: ps, 0, h => by simp at h; subst h; exact Upd.head _
  | p :: ps, k + 1, h => by simp at h; exact Upd.tail _ (Kof_upd h)
theorem Kof_mem {ps : List (Addr × List Value)} {p : Addr × List Value} (h : p ∈ ps) : (p.1, Lst p.2) ∈ Kof ps := List.mem_map.mpr ⟨p, h, rfl⟩

section
variable {prog : Program} {w : World} {A : Around} {E : Value → Shared → Prop} {s s₁ : Shared} {L l : Addr} {b : List (Str × Value)} {H H' : List Ent} {env : Env}
theorem c_rangeD {Q : Value → Shared → Prop} {n m : Int} {t u v : Tok} (S : St s₁ L b H s) (hn : n < 2 ^ 62) (hn' : -(2 ^ 62) ≤ n) (hm : m < 2 ^ 62) (hm' : -(2 ^ 62) ≤ m) (h : ∀ s' r, St s₁ L b ((r, Rng n m (-1)) :: H) s' → Q (.ref r) s') : wpAny (model prog w) A (call (.type "range") [.int n t, .int m u, .int (-1) v]) Q E s :=
  call_range_3 (by decide) (h _ _ (S.push (P := Rng n m (-1)) ⟨_, _, _, rfl⟩ _)) (Or.inl (PyProof.noPylong_of_log2 (by decide +kernel)))
theorem it_rangeD {Q : Value → Shared → Prop} {r : Addr} {a c : Int} (S : St s₁ L b ((r, Rng a c (-1)) :: H) s) (ha : -(2 ^ 62) ≤ a) (ha' : a < 2 ^ 62) (hc : -(2 ^ 62) ≤ c) (hc' : c < 2 ^ 62)
    (h : ∀ s' I, St s₁ L b ((I, RI (a + ((0 : Nat) : Int) * (-1)) (((a - c).toNat : Int) - ((0 : Nat) : Int)) (-1)) :: H) s' → Q (.ref I) s') : wpAny (model prog w) A (pyIter (.ref r)) Q E s := by
  obtain ⟨o, ho, t, u, v, rfl⟩ := S.get (List.mem_cons_self ..)
  refine wpAny_pyIter_range (a := a) (b := c) (c := -1) ho (small_down ha ha' hc hc') (h _ _ (S.drop.push (P := RI _ _ (-1)) ?_ s.toks))
  show _ = _
  have e : Builtin.Range.rangeSize a c (-1) = ((a - c).toNat : Int) - ((0 : Nat) : Int) := by rw [rangeSize_down]; split <;> omega
  rw [e]; simp
theorem for_rangeD {x : Str} {px : Pos} {body : List Stmt} {Q : Flow → Shared → Prop} {r : Addr} {a c : Int} (J : Nat → List (Str × Value) → List Ent → Prop) (S : St s₁ L b ((r, Rng a c (-1)) :: H) s) (h0 : J 0 b H)
    (ha : -(2 ^ 62) ≤ a) (ha' : a < 2 ^ 62) (hc : -(2 ^ 62) ≤ c) (hc' : c < 2 ^ 62) (hh : A.handled = none) (hx : env.kindOf x = some .local) (hL : env.locals = L) (hk : env.scope.kind = .function)
    (turn : ∀ I P i t b' H' s', c < a - (i : Nat) → J i b' H' → St s₁ L (up x (.int (a - (i : Nat)) t) b') ((I, P) :: H') s' → wpAny (model prog w) A (execs body env) (TurnEnd s₁ L I P (J (i + 1)) Q) (fun _ _ => False) s')
    (done : ∀ b' H' s', J (a - c).toNat b' H' → St s₁ L b' H' s' → Q .next s') : ForAt prog w A (.Name x px) body env Q E (.ref r) s :=
  it_rangeD S ha ha' hc hc' fun s' I S' => loop_for (Itr.range a (-1) (a - c).toNat hh) J S' h0 (fun _ _ _ _ _ _ _ => trivial) hx hL hk
    (fun i v b' H' s' hi ⟨t, hV⟩ hj S => by
      subst hV
      have e : a + (i : Int) * (-1) = a - (i : Int) := by omega
      rw [e] at S; exact turn I _ i t b' H' s' (by omega) hj S) done
theorem ints_rep (n : Int) (t : Tok) : ∀ k, IntsAre (List.replicate k (.int n t)) (List.replicate k n)
  | 0 => .nil
  | k + 1 => .cons n t (ints_rep n t k)
theorem flat_rep {α : Type} (v : α) : ∀ k, (List.replicate k [v]).flatten = List.replicate k v
  | 0 => rfl
  | k + 1 => by rw [List.replicate_succ, List.flatten_cons, flat_rep v k]; rfl
end
end Mine
namespace Mine
open_top hd10 for PySem.Challenge.rw_dn0232_10
end Mine
local macro_rules | `(tactic| walk_at "size") => `(tactic| first | assumption | (simp only [sizeLine_eq, List.length_append, List.length_cons, List.length_nil]; omega) | (simp only [sizeLine_eq, List.length_append, List.length_cons, List.length_nil] at *; omega))
local macro_rules | `(tactic| walk_at "mem") => `(tactic| (first | assumption | exact List.mem_cons_self .. | (refine List.mem_cons_of_mem _ ?_; walk_at "mem")))
local macro_rules | `(tactic| walk_at "isat") => `(tactic| first | exact Or.inr (by assumption) | exact Or.inl (by walk_at "mem"))
local macro_rules | `(tactic| walk_at "upd") => `(tactic| (first | exact Mine.Upd.head _ | (apply Mine.Upd.tail; walk_at "upd")))
local macro_rules | `(tactic| walk_at "eval Name") => `(tactic| ((rename Mine.St _ _ _ _ _ => wS); first
  | (refine Mine.nm_L wS (by with_unfolding_all rfl) (by with_unfolding_all rfl) ?_ (by with_unfolding_all rfl) (by with_unfolding_all rfl) (by with_unfolding_all decide))
  | (refine Mine.nm_K wS (by assumption) (by assumption) (by with_unfolding_all rfl) (by with_unfolding_all rfl) ?_ (by with_unfolding_all rfl) (by with_unfolding_all rfl) (by with_unfolding_all decide))
  | (refine Mine.nm_B wS (by assumption) (by assumption) (by with_unfolding_all rfl) (by with_unfolding_all rfl) (by first | reg3_boot | boot_fact | boot_fast) ?_ (by with_unfolding_all decide) (by with_unfolding_all rfl) (by with_unfolding_all rfl) (by with_unfolding_all rfl) (by with_unfolding_all decide))
  | (refine Mine.nm_C wS (by with_unfolding_all rfl) (by with_unfolding_all rfl) (by walk_at "mem") ?_ (by with_unfolding_all rfl) (by with_unfolding_all decide))))
local macro_rules | `(tactic| walk_at "loadName") => `(tactic| ((rename Mine.St _ _ _ _ _ => wS); first
  | (refine Mine.ld_L wS (by with_unfolding_all rfl) ?_ (by with_unfolding_all rfl) (by with_unfolding_all rfl) (by with_unfolding_all rfl))
  | (refine Mine.ld_C wS (by with_unfolding_all rfl) (by with_unfolding_all rfl) (by walk_at "mem") ?_ (by with_unfolding_all rfl))))
local macro_rules | `(tactic| walk_at "storeName") => `(tactic| ((rename Mine.St _ _ _ _ _ => wS); first
  | (refine Mine.st_L wS (by with_unfolding_all rfl) ?_ (by with_unfolding_all rfl) (by with_unfolding_all rfl); clear wS; intro _ _)
  | (refine Mine.st_C wS (by with_unfolding_all rfl) (by with_unfolding_all rfl) (by walk_at "upd") ?_ (by with_unfolding_all rfl); clear wS; intro _ _)))
local macro_rules | `(tactic| walk_at "eval Constant int") => `(tactic| ((rename Mine.St _ _ _ _ _ => wS); refine Mine.c_int wS ?_; clear wS; intro _ _ _))
local macro_rules | `(tactic| walk_at "eval Constant str") => `(tactic| ((rename Mine.St _ _ _ _ _ => wS); refine Mine.c_tx wS ?_; clear wS; intro _ _ _))
local macro_rules | `(tactic| walk_at "binaryOp Add int int") => `(tactic| ((rename Mine.St _ _ _ _ _ => wS); refine Mine.i_add wS ?_; clear wS; intro _ _ _))
local macro_rules | `(tactic| walk_at "inplaceOp Add int int") => `(tactic| ((rename Mine.St _ _ _ _ _ => wS); refine Mine.i_iadd wS ?_; clear wS; intro _ _ _))
local macro_rules | `(tactic| walk_at "binaryOp Sub int int") => `(tactic| ((rename Mine.St _ _ _ _ _ => wS); refine Mine.i_sub wS ?_; clear wS; intro _ _ _))
local macro_rules | `(tactic| walk_at "binaryOp Mod int int") => `(tactic| ((rename Mine.St _ _ _ _ _ => wS); refine Mine.i_mod wS (by first | decide | omega) ?_; clear wS; intro _ _ _))
local macro_rules | `(tactic| walk_at "compareOp Gt int int") => `(tactic| (refine Mine.i_gt ?_))
local macro_rules | `(tactic| walk_at "compareOp Lt int int") => `(tactic| (refine Mine.i_lt ?_))
local macro_rules | `(tactic| walk_at "compareOp Eq int int") => `(tactic| (refine Mine.i_eq ?_))
local macro_rules | `(tactic| walk_at "compareOp NotEq int int") => `(tactic| (refine Mine.i_ne ?_))
local macro_rules | `(tactic| walk_at "call builtin:len cons nil") => `(tactic| ((rename Mine.St _ _ _ _ _ => wS); first
  | (refine Mine.t_len wS (by walk_at "size") ?_; clear wS; intro _ _ _)
  | (refine Mine.c_lenL wS (by walk_at "isat") (by walk_at "size") ?_; clear wS; intro _ _ _)))
local macro_rules | `(tactic| walk_at "eval Slice") => `(tactic| (refine Mine.ev_slice ?_))
local macro_rules | `(tactic| walk_at "evalPart") => `(tactic| first | (refine Mine.ep_some ?_) | (refine Mine.ep_none ?_))
local macro_rules | `(tactic| walk_at "newTuple") => `(tactic| ((rename Mine.St _ _ _ _ _ => wS); refine Mine.new_tuple wS (by simp [sizeLine_eq]) ?_; clear wS; intro _ _ _))
local macro_rules | `(tactic| walk_at "newList") => `(tactic| ((rename Mine.St _ _ _ _ _ => wS); refine Mine.new_list wS (by simp [sizeLine_eq]) ?_; clear wS; intro _ _ _))
local macro_rules | `(tactic| walk_at "SliceEnd") => `(tactic| ((rename Mine.St _ _ _ _ _ => wS); (first | refine Mine.slice_end wS Mine.slc_ss ?_ | refine Mine.slice_end wS Mine.slc_sn ?_ | refine Mine.slice_end wS Mine.slc_ns ?_ | refine Mine.slice_end wS Mine.slc_nn ?_); clear wS; intro _ _ _))
local macro_rules | `(tactic| walk_at "subscriptTail") => `(tactic| ((with_reducible show wpAny _ _ (subscriptTail _ _ (Value.str _ _) (Value.ref _)) _ _ _); (rename Mine.St _ _ _ _ _ => wS); refine Mine.t_slice wS (by walk_at "size") ?_ (by with_unfolding_all rfl) (by intro _; with_unfolding_all rfl); clear wS; intro _ _ _))
local macro_rules | `(tactic| walk_at "binaryOp Mod str ref") => `(tactic| ((rename Mine.St _ _ _ _ _ => wS); refine Mine.t_fmt wS (by decide +kernel) (by omega) (by omega) (by omega) (by omega) ?_; clear wS; intro _ _ _))
local macro_rules | `(tactic| walk_at "eval ListComp") => `(tactic| (refine Mine.ev_comp (by first | exact closureFor_none (by with_unfolding_all decide) | with_unfolding_all rfl) (by with_unfolding_all rfl) (by with_unfolding_all decide) ?_ (by intro _; with_unfolding_all rfl)))
local macro_rules | `(tactic| walk_at "exec Assign cons ListComp") => `(tactic| (refine Mine.ex_comp (by with_unfolding_all rfl) (by first | exact closureFor_none (by with_unfolding_all decide) | with_unfolding_all rfl) (by with_unfolding_all rfl) (by with_unfolding_all decide) ?_ (by intro _; with_unfolding_all rfl)))
local macro_rules | `(tactic| walk_at "exec For") => `(tactic| (refine Mine.ex_for ?_ (by intro _; with_unfolding_all rfl)))
local macro_rules | `(tactic| walk_at "binaryOp FloorDiv int int") => `(tactic| ((rename Mine.St _ _ _ _ _ => wS); refine Mine.i_fdiv wS (by first | decide | omega) (by first | decide | omega) ?_; clear wS; intro _ _ _))
local macro_rules | `(tactic| walk_at "binaryOp Mult int int") => `(tactic| ((rename Mine.St _ _ _ _ _ => wS); first | (refine Mine.i_mulR wS (by decide +kernel) ?_; clear wS; intro _ _ _) | (refine Mine.i_mulL wS (by decide +kernel) ?_; clear wS; intro _ _ _)))
local macro_rules | `(tactic| walk_at "unaryOp USub int") => `(tactic| ((rename Mine.St _ _ _ _ _ => wS); refine Mine.i_neg wS ?_; clear wS; intro _ _ _))
local macro_rules | `(tactic| walk_at "compareOp LtE int int") => `(tactic| (refine Mine.i_le ?_))
local macro_rules | `(tactic| walk_at "compareOp GtE int int") => `(tactic| (refine Mine.i_ge ?_))
local macro_rules | `(tactic| walk_at "compareOp Eq str str") => `(tactic| (refine Mine.t_eq ?_))
local macro_rules | `(tactic| walk_at "compareOp NotEq str str") => `(tactic| (refine Mine.t_ne ?_))
local macro_rules | `(tactic| walk_at "binaryOp Add str str") => `(tactic| ((rename Mine.St _ _ _ _ _ => wS); refine Mine.t_add wS (by walk_at "size") ?_; clear wS; intro _ _ _))
local macro_rules | `(tactic| walk_at "inplaceOp Add str str") => `(tactic| ((rename Mine.St _ _ _ _ _ => wS); refine Mine.t_iadd wS (by walk_at "size") ?_; clear wS; intro _ _ _))
local macro_rules | `(tactic| walk_at "call builtin:chr") => `(tactic| ((rename Mine.St _ _ _ _ _ => wS); refine Mine.c_chr wS (by omega) (by omega) ?_; clear wS; intro _ _ _))
local macro_rules | `(tactic| walk_at "call builtin:sum") => `(tactic| ((rename Mine.St _ _ _ _ _ => wS); refine Mine.c_sum wS (by assumption) (by walk_at "isat") (by assumption) ?_; clear wS; intro _ _ _))
local macro_rules | `(tactic| walk_at "call builtin:str.join") => `(tactic| ((rename Mine.St _ _ _ _ _ => wS); refine Mine.c_join wS (by walk_at "isat") (by assumption) (by with_unfolding_all rfl) (by walk_at "size") ?_; clear wS; intro _ _ _))
local macro_rules | `(tactic| walk_at "unpackItems ref") => `(tactic| ((rename Mine.St _ _ _ _ _ => wS); refine Mine.unpack_tup wS (by assumption) (by with_unfolding_all rfl) ?_; clear wS; intro _ _))
local macro_rules | `(tactic| walk_at "call builtin:list.append") => `(tactic| ((rename Mine.St _ _ _ _ _ => wS); refine Mine.l_append wS (by walk_at "upd") (by walk_at "size") ?_; clear wS; intro _ _))
local macro_rules | `(tactic| walk_at "Ready") => `(tactic| ((rename Mine.St _ _ _ _ _ => wS); refine Mine.Ready.mk' (by assumption) wS ?_))
local macro_rules | `(tactic| walk_at "callWith ref") => `(tactic| (refine Mine.callWith_fn (by assumption) (by with_unfolding_all rfl) ?_ (by with_unfolding_all rfl) (by with_unfolding_all rfl)))
local macro_rules | `(tactic| walk_at "getMethod ref") => `(tactic| ((rename Mine.St _ _ _ _ _ => wS); refine Mine.m_append wS (by walk_at "mem") ?_))
local macro_rules | `(tactic| walk_at "call type:range") => `(tactic| ((rename Mine.St _ _ _ _ _ => wS); (first | refine Mine.c_range1 wS ?_ | refine Mine.c_range2 wS ?_); clear wS; intro _ _ _))
local macro_rules | `(tactic| walk_at "assign Tuple") => `(tactic| ((rename Mine.St _ _ _ _ _ => wS); refine Mine.as_tup wS (by walk_at "mem") (by assumption) (by with_unfolding_all rfl) (by with_unfolding_all rfl) ?_; clear wS; intro _ _))
local macro_rules | `(tactic| walk_at "compareOp NotEq ref ref") => `(tactic| ((rename Mine.St _ _ _ _ _ => wS); first
  | (refine Mine.l_neInts wS (by walk_at "isat") (by walk_at "isat") (by first | assumption | exact PyProof.Rows.IntsAre.nil) (by first | assumption | exact PyProof.Rows.IntsAre.nil) (by assumption) ?_)
  | (refine Mine.l_neTx wS (by walk_at "isat") (by walk_at "isat") (by first | assumption | exact Mine.TxAre.nil) (by first | assumption | exact Mine.TxAre.nil) (by omega) ?_)))
local macro_rules | `(tactic| walk_at "compareOp Eq ref ref") => `(tactic| ((rename Mine.St _ _ _ _ _ => wS); first
  | (refine Mine.l_eqInts wS (by walk_at "isat") (by walk_at "isat") (by first | assumption | exact PyProof.Rows.IntsAre.nil) (by first | assumption | exact PyProof.Rows.IntsAre.nil) (by assumption) ?_)
  | (refine Mine.l_eqTx wS (by walk_at "isat") (by walk_at "isat") (by first | assumption | exact Mine.TxAre.nil) (by first | assumption | exact Mine.TxAre.nil) (by omega) ?_)))
local macro_rules | `(tactic| walk_at "call type:str") => `(tactic| ((rename Mine.St _ _ _ _ _ => wS); refine Mine.c_strInt wS (by first | assumption | exact Mine.log2_small (by omega)) ?_; clear wS; intro _ _ _))
local macro_rules | `(tactic| walk_at "call builtin:max cons cons") => `(tactic| ((rename Mine.St _ _ _ _ _ => wS); refine Mine.c_max2 wS (by assumption) ?_; clear wS; intro _ _ _))
local macro_rules | `(tactic| walk_at "call builtin:max") => `(tactic| ((rename Mine.St _ _ _ _ _ => wS); refine Mine.c_max2 wS (by assumption) ?_; clear wS; intro _ _ _))
local macro_rules | `(tactic| walk_at "call builtin:min") => `(tactic| ((rename Mine.St _ _ _ _ _ => wS); refine Mine.c_min2 wS (by assumption) ?_; clear wS; intro _ _ _))
local macro_rules | `(tactic| walk_at "binaryOp Add ref ref") => `(tactic| ((rename Mine.St _ _ _ _ _ => wS); refine Mine.l_add wS (by walk_at "mem") (by walk_at "mem") (by walk_at "size") ?_; clear wS; intro _ _ _))
local macro_rules | `(tactic| walk_at "subscriptTail") => `(tactic| ((with_reducible show wpAny _ _ (subscriptTail _ _ (Value.ref _) (Value.ref _)) _ _ _); (rename Mine.St _ _ _ _ _ => wS); refine Mine.l_slice wS (by walk_at "isat") (by walk_at "size") ?_ (by with_unfolding_all rfl); clear wS; intro _ _ _))
local macro_rules | `(tactic| walk_at "tree") => `(tactic| first | (with_reducible show wpAny _ _ _ _ _ _) | (with_reducible show Mine.SliceEnd _ _ _ _) | (with_reducible show Mine.Ready _ _ _) | (with_reducible show @ite Prop _ _ _ _))
local macro_rules | `(tactic| walk_at "go") => `(tactic| repeat' ((try dsimp only); walk_at "tree"; walk1))
local macro_rules | `(tactic| walk_at "in") => `(tactic| repeat' ((try dsimp only); walk_at "tree"; (fail_if_success (with_reducible show wpAny _ _ (execs _ _) _ _ _)); walk1))
local macro_rules | `(tactic| walk_at "one") => `(tactic| ((try dsimp only); refine wpAny_execs_cons ?_; walk_at "in"))
local macro_rules | `(tactic| walk_at "sub") => `(tactic| first | exact List.Sublist.refl _ | exact List.Sublist.slnil | exact List.nil_sublist _ | (apply List.Sublist.cons_cons; walk_at "sub") | (apply List.Sublist.cons; walk_at "sub"))
local macro_rules | `(tactic| walk_at "bind") => `(tactic| first | exact Mine.Sub.nil _ | (refine Mine.Sub.cons (by with_unfolding_all rfl) ?_; walk_at "bind"))
local macro_rules | `(tactic| walk_at "subscriptTail") => `(tactic| ((with_reducible show wpAny _ _ (subscriptTail _ _ (Value.ref _) (Value.int _ _)) _ _ _); (rename Mine.St _ _ _ _ _ => wS); first
  | (refine Mine.l_item wS (by walk_at "isat") (by omega) (by omega) (by assumption) ?_ (by with_unfolding_all rfl))
  | (refine Mine.l_last wS (by walk_at "isat") (by omega) (by omega) (by walk_at "size") (by assumption) ?_ (by with_unfolding_all rfl))))
local macro_rules | `(tactic| walk_at "subscriptTail") => `(tactic| ((with_reducible show wpAny _ _ (subscriptTail _ _ (Value.str _ _) (Value.int _ _)) _ _ _); (rename Mine.St _ _ _ _ _ => wS); refine Mine.t_item wS (by omega) (by omega) (by assumption) ?_ (by with_unfolding_all rfl); clear wS; intro _ _ _))
local macro_rules | `(tactic| walk_at "truthy ref") => `(tactic| ((rename Mine.St _ _ _ _ _ => wS); refine Mine.l_truth wS (by walk_at "isat") (by walk_at "size") ?_; clear wS; intro _ _))
local macro_rules | `(tactic| walk_at "call builtin:list.pop") => `(tactic| ((rename Mine.St _ _ _ _ _ => wS); refine Mine.l_pop wS (by walk_at "upd") (by walk_at "size") ?_; clear wS; intro _ _))
local macro_rules | `(tactic| walk_at "call builtin:list.extend") => `(tactic| ((rename Mine.St _ _ _ _ _ => wS); refine Mine.l_extend wS (by walk_at "mem") (by walk_at "upd") (by walk_at "size") ?_; clear wS; intro _ _))
local macro_rules | `(tactic| walk_at "getMethod ref") => `(tactic| ((rename Mine.St _ _ _ _ _ => wS); first
  | (refine Mine.m_append wS (by walk_at "mem") ?_)
  | (refine Mine.m_list (name := "pop") wS (by walk_at "isat") PySem.F.slot_list_pop PySem.F.type_list_pop (by walk_at "mem") ?_)
  | (refine Mine.m_list (name := "remove") wS (by walk_at "isat") PySem.F.slot_list_remove PySem.F.type_list_remove (by walk_at "mem") ?_)
  | (refine Mine.m_list (name := "extend") wS (by walk_at "isat") PySem.F.slot_list_extend PySem.F.type_list_extend (by walk_at "mem") ?_)
  | (refine Mine.m_list (name := "count") wS (by walk_at "isat") PySem.F.slot_list_count PySem.F.type_list_count (by walk_at "mem") ?_)))
local macro_rules | `(tactic| walk_at "binaryOp Mult ref int") => `(tactic| ((rename Mine.St _ _ _ _ _ => wS); refine Mine.l_mul wS (by walk_at "mem") (by omega) (by omega) (by simp only [List.length_cons, List.length_nil]; omega) ?_; clear wS; intro _ _ _))
local macro_rules | `(tactic| walk_at "call type:range") => `(tactic| ((rename Mine.St _ _ _ _ _ => wS); (first | refine Mine.c_range1 wS ?_ | refine Mine.c_range2 wS ?_ | refine Mine.c_rangeD wS (by omega) (by omega) (by omega) (by omega) ?_); clear wS; intro _ _ _))
namespace Mine
section
variable {w : World} {p : Program} {loose : List Str} {mg mb : Str → Option Value} {A : Around} {E : Value → Shared → Prop} {s s₁ : Shared} {L l : Addr} {b : List (Str × Value)} {H : List Ent} {Q : Value → Shared → Prop}
theorem uldS_spec {vs : List Value} {fs : List Env} (e : Value → Value → Bool) (X : (hd10.heap_39 w.params).In s₁.heap) (TR : TopRead p loose mg mb s₁.heap) (S : St s₁ L b ((l, Lst vs) :: H) s) (hroom : A.depth < recursionLimit)
    (hh : A.handled = none) (hfr : A.frames = some fs) (hF : ∀ env ∈ fs, env.scope.kind ≠ .module ∧ ∃ F, env.frame = some F ∧ (F = L ∨ ∃ b, (F, Frm b) ∈ H))
    (hl : vs.length ≤ 100000) (he : ∀ env s', (∀ p ∈ H, ∃ o, s'.heap.get? p.1 = some o ∧ p.2 o) → ∀ x ∈ vs, ∀ y ∈ vs, SeqAt.EqAt (A.deeper env).in1 s' y x (e y x))
    (h : ∀ s' t m, St s₁ L b ((t, Tup [.ref m, .ref l]) :: (m, Lst (uldS e vs.length vs [])) :: (l, Lst []) :: H) s' → Q (.ref t) s') :
    wpAny (model PySem.Challenge.rw_dn0232_10.row.prog w) A (call (.ref 21) [.ref l, .ref l]) Q E s := by
  refine call_fn S X TR.nolimit (by rfl) (by rfl) hroom (by rfl) (BindsTo.of_eq (by rfl)) (by decide) (b' := [(Str.ofString "actual", .ref l), (Str.ofString "expected", .ref l)]) (locs (by rfl)) (by rfl) ?_ (by rfl) (by rfl) (by rfl)
  clear S
  intro s' L' S'
  walk_at "one"
  rename St _ _ _ _ _ => S
  obtain ⟨m, em, S2⟩ : ∃ m, Value.ref m = Value.ref _ ∧ St s₁ L' [(Str.ofString "missing", .ref m), (Str.ofString "actual", .ref l), (Str.ofString "expected", .ref l)] ((m, Lst []) :: (L, Frm b) :: (l, Lst vs) :: H) _ := ⟨_, rfl, (S.bind (by walk_at "bind")).sub (by walk_at "sub")⟩
  clear S em
  refine wpAny_execs_cons ?_
  refine ex_while (fun n b' H' => ∃ cur ms, n = cur.length ∧ cur.length ≤ vs.length ∧ cur ⊆ vs ∧ b' = [(Str.ofString "missing", .ref m), (Str.ofString "actual", .ref l), (Str.ofString "expected", .ref l)] ∧ H' = (m, Lst ms) :: (L, Frm b) :: (l, Lst cur) :: H ∧ ms.length + cur.length ≤ vs.length ∧ uldS e cur.length cur ms = uldS e vs.length vs []) vs.length S2 ⟨vs, [], rfl, Nat.le_refl _, fun _ h => h, rfl, rfl, by simp, rfl⟩ ?_
  clear S2
  rintro n b' H' s2 ⟨cur, ms, rfl, hlen, hsub, rfl, rfl, hms, hu⟩ S
  have hcs : cur.length ≤ sizeLine := by rw [sizeLine_eq]; omega
  rcases List.eq_nil_or_concat cur with rfl | ⟨cs, x, rfl⟩
  · walk_at "go"
    rename St _ _ _ _ _ => S
    have : uldS e vs.length vs [] = ms := by rw [← hu]; rfl
    rw [this] at h
    exact h _ _ m (St.back (S.perm (List.perm_middle (l₁ := [_, _])).symm))
  · simp only [List.concat_eq_append] at *
    walk_at "in"
    · rename_i hc
      simp at hc
    · rename_i hc
      clear hc
      walk_at "one"
      rename St _ _ _ _ _ => S
      have S2 := (S.bind (b' := [(Str.ofString "item", x), (Str.ofString "missing", .ref m), (Str.ofString "actual", .ref l), (Str.ofString "expected", .ref l)]) (by walk_at "bind"))
      clear S
      have hx : x ∈ vs := hsub (by simp)
      have hcs' : cs ⊆ vs := fun y hy => hsub (by simp [hy])
      refine wpAny_execs_cons ?_
      have hlast : (cs ++ [x]).getLast? = some x := by simp
      have hstep : uldS e (cs ++ [x]).length (cs ++ [x]) ms = if cs.any (fun y => e y x) then uldS e cs.length (cs.eraseP fun y => e y x) ms else uldS e cs.length cs (ms ++ [x]) := by
        rw [show (cs ++ [x]).length = cs.length + 1 by simp, uldS, hlast]; simp
      rw [hstep] at hu
      refine ex_try (s₁ := s₁) (J := fun b' H' => b' = [(Str.ofString "item", x), (Str.ofString "missing", .ref m), (Str.ofString "actual", .ref l), (Str.ofString "expected", .ref l)] ∧ H' = (m, Lst ms) :: (L, Frm b) :: (l, Lst cs) :: H ∧ cs.any (fun y => e y x) = false) (T := "ValueError") (X := "ValueError") (by exact Around.frames_deeper hfr) ?_ (by rfl) ?_ ?_ ?_ ?_ ?_ ?_
      · rintro b' H' ⟨rfl, rfl, _⟩ env hm
        rcases List.mem_cons.mp hm with rfl | hm
        · exact ⟨by show ScopeKind.function ≠ .module; decide, L', rfl, Or.inl rfl⟩
        · obtain ⟨hk, F, hf, hm⟩ := hF env hm
          refine ⟨hk, F, hf, Or.inr ?_⟩
          rcases hm with rfl | ⟨b'', hm⟩
          · exact ⟨b, by simp⟩
          · exact ⟨b'', by simp [hm]⟩
      · rw [isSubtype_type]; kernel_rfl
      · rw [isSubtype_type]; kernel_rfl
      · rw [isSubtype_type]; kernel_rfl
      · walk_at "go"
        rename St _ _ _ _ _ => S
        have heq : ∀ env, ∀ y ∈ cs, SeqAt.EqAt (A.deeper env).in1 _ y x (e y x) := fun env y hy => he env _ (fun p hp => S.nw p (by simp [hp])) x hx y (hcs' hy)
        by_cases hany : cs.any (fun y => e y x) = true
        · refine l_removeY (fun y => e y x) S (by walk_at "upd") (by simp at hcs; omega) (heq _) hany ?_
          clear S
          intro _ S
          rw [if_pos hany] at hu
          walk_at "go"
          rename St _ _ _ _ _ => S
          have hp := List.length_eraseP_le (p := fun y => e y x) (l := cs)
          refine ⟨_, _, _, ?_, S.bind (b' := [(Str.ofString "missing", .ref m), (Str.ofString "actual", .ref l), (Str.ofString "expected", .ref l)]) (by walk_at "bind"), cs.eraseP (fun y => e y x), ms, rfl, ?_, fun y hy => hcs' (List.mem_of_mem_eraseP hy), rfl, rfl, ?_, ?_⟩
          · simp; omega
          · simp at hlen; omega
          · simp at hms; omega
          · rw [← hu, ← uldS_fuel _ cs.length _ _ hp]
        · have hany' : cs.any (fun y => e y x) = false := by simpa using hany
          refine l_removeN (fun y => e y x) S (by walk_at "mem") (heq _) hany' hh fun h' tk ex hx' => ?_
          exact ⟨_, _, _, h', tk, ex, rfl, rfl, S, hx', rfl, rfl, hany'⟩
      · rintro b' H' s' ev E' Q' S ⟨rfl, rfl, _⟩ hq
        refine nm_B S (by assumption) (by assumption) (by with_unfolding_all rfl) (by with_unfolding_all rfl) (by first | reg3_boot | boot_fact | boot_fast) ?_ (by with_unfolding_all decide) (by with_unfolding_all rfl) (by with_unfolding_all rfl) (by with_unfolding_all rfl) (by with_unfolding_all decide)
        exact hq
      · rintro b' H' s' ev S ⟨rfl, rfl, hno⟩
        rw [if_neg (by simp [hno])] at hu
        walk_at "go"
        rename St _ _ _ _ _ => S
        refine ⟨_, _, _, ?_, S.bind (b' := [(Str.ofString "missing", .ref m), (Str.ofString "actual", .ref l), (Str.ofString "expected", .ref l)]) (by walk_at "bind"), cs, ms ++ [x], rfl, ?_, hcs', rfl, rfl, ?_, hu⟩
        · simp
        · simp at hlen; omega
        · simp at hms ⊢; omega
end
end Mine
namespace Mine
def eI : Value → Value → Bool
  | .int a _, .int c _ => a == c
  | _, _ => false
theorem IntsAre.mem {vs : List Value} {ns : List Int} (h : IntsAre vs ns) : ∀ v ∈ vs, ∃ n t, v = .int n t := fun v hv => by
  obtain ⟨i, _, rfl⟩ := List.mem_iff_getElem.mp hv
  obtain ⟨n, t, e, _⟩ := h.at i _ (List.getElem?_eq_getElem _)
  exact ⟨n, t, e⟩
theorem IntsAre.countI {n : Int} {t : Tok} : ∀ {vs : List Value} {ns : List Int}, IntsAre vs ns → vs.countP (fun y => eI y (.int n t)) = ns.count n
  | _, _, .nil => rfl
  | _, _, .cons a u h => by rw [List.countP_cons, List.count_cons, IntsAre.countI h]; rfl
theorem eqI {A : Around} {s : Shared} {vs : List Value} {ns : List Int} {n : Int} {t : Tok} (h : IntsAre vs ns) : ∀ y ∈ vs, SeqAt.EqAt A s y (.int n t) (eI y (.int n t)) := fun y hy => by
  obtain ⟨m, u, rfl⟩ := IntsAre.mem h y hy
  exact SeqAt.EqAt.int_int _ _ _ _
theorem ints_take : ∀ {vs : List Value} {ns : List Int} (k : Nat), IntsAre vs ns → IntsAre (vs.take k) (ns.take k)
  | _, _, 0, _ => .nil
  | _, _, _ + 1, .nil => .nil
  | _, _, k + 1, .cons a u h => .cons a u (ints_take k h)
theorem ints_drop : ∀ {vs : List Value} {ns : List Int} (k : Nat), IntsAre vs ns → IntsAre (vs.drop k) (ns.drop k)
  | _, _, 0, h => h
  | _, _, _ + 1, .nil => .nil
  | _, _, k + 1, .cons a u h => ints_drop k h
theorem cnt_map (num : Value → Int) (n : Int) (l : List Value) : cnt num n l = (l.map num).count n := by
  rw [cnt, List.count, List.countP_map]; rfl
theorem bump_drop (ns : List Int) (k : Nat) (n : Int) (h : ns[k]? = some n) : bump (fun v => (ns.drop (k + 1)).count v) n = fun v => (ns.drop k).count v := by
  funext v
  obtain ⟨hk, rfl⟩ := List.getElem?_eq_some_iff.mp h
  rw [List.drop_eq_getElem_cons hk, List.count_cons]
  simp only [bump]
  by_cases e : v = ns[k]
  · subst e; simp
  · have : (ns[k] == v) = false := by simp [Ne.symm e]
    simp [e, this]
section
variable {w : World} {p : Program} {loose : List Str} {mg mb : Str → Option Value} {A : Around} {E : Value → Shared → Prop} {s s₁ : Shared} {L ln lr : Addr} {b : List (Str × Value)} {H : List Ent} {Q : Value → Shared → Prop}
theorem due_spec {vN rs : List Value} {ns : List Int} (num : Value → Int) (X : (hd10.heap_39 w.params).In s₁.heap) (TR : TopRead p loose mg mb s₁.heap) (S : St s₁ L b H s) (hroom : A.depth < recursionLimit)
    (hh : A.handled = none) (hN : (ln, Lst vN) ∈ H) (hR : (lr, Lst rs) ∈ H) (hI : IntsAre vN ns) (hnum : rs.map num = ns) (hl : rs.length ≤ 1000)
    (h : ∀ s' d, St s₁ L b ((d, Lst (dueR num (fun _ => 0) rs.reverse)) :: H) s' → Q (.ref d) s') :
    wpAny (model PySem.Challenge.rw_dn0232_10.row.prog w) A (call (.ref 28) [.ref ln, .ref lr]) Q E s := by
  have hlN : vN.length = rs.length := by rw [hI.length, ← hnum]; simp
  have hns : ns.length = rs.length := by rw [← hnum]; simp
  have hz : rs.length ≤ sizeLine := by rw [sizeLine_eq]; omega
  refine call_fn S X TR.nolimit (by rfl) (by rfl) hroom (by rfl) (BindsTo.of_eq (by rfl)) (by decide) (b' := [(Str.ofString "rows", .ref lr), (Str.ofString "numbers", .ref ln)]) (locs (by rfl)) (by rfl) ?_ (by rfl) (by rfl) (by rfl)
  clear S
  intro s' L' S'
  have hN' : (ln, Lst vN) ∈ (L, Frm b) :: H := List.mem_cons_of_mem _ hN
  have hR' : (lr, Lst rs) ∈ (L, Frm b) :: H := List.mem_cons_of_mem _ hR
  walk_at "one"
  rename St _ _ _ _ _ => S
  obtain ⟨d, ed, S2⟩ : ∃ d, Value.ref d = Value.ref _ ∧ St s₁ L' [(Str.ofString "due", .ref d), (Str.ofString "rows", .ref lr), (Str.ofString "numbers", .ref ln)] ((d, Lst []) :: (L, Frm b) :: H) _ := ⟨_, rfl, (S.bind (by walk_at "bind")).sub (by walk_at "sub")⟩
  clear S ed
  walk_at "one"
  rename St _ _ _ _ _ => S
  refine for_rangeD (fun i b' H' => ∃ ds, b' = [(Str.ofString "due", .ref d), (Str.ofString "rows", .ref lr), (Str.ofString "numbers", .ref ln)] ∧ H' = (d, Lst ds) :: (L, Frm b) :: H ∧ i ≤ rs.length ∧ ds.length ≤ i ∧
      ds ++ dueR num (fun v => (ns.drop (rs.length - i)).count v) ((rs.take (rs.length - i)).reverse) = dueR num (fun _ => 0) rs.reverse) S ⟨[], rfl, rfl, Nat.zero_le _, Nat.le_refl _, ?_⟩ (by omega) (by omega) (by omega) (by omega) (by assumption) (by with_unfolding_all rfl) (by with_unfolding_all rfl) (by with_unfolding_all rfl) ?_ ?_
  · have e : ns.drop rs.length = [] := by rw [← hns]; simp
    simp [e]
  · clear S
    rintro I P i t b' H' s' hi ⟨ds, rfl, rfl, hi', hds, hinv⟩ S
    have hk : (rs.length : Int) - 1 - (i : Nat) = ((rs.length - 1 - i : Nat) : Int) := by omega
    rw [hk] at S
    generalize hK : rs.length - 1 - i = k at S
    have hk1 : rs.length - i = k + 1 := by omega
    have hk2 : rs.length - (i + 1) = k := by omega
    have hkl : k < rs.length := by omega
    rw [hk1] at hinv
    have hxN : vN[((k : Nat) : Int).toNat]? = some vN[k] := by simp [hlN, hkl]
    have hxR : rs[((k : Nat) : Int).toNat]? = some rs[k] := by simp [hkl]
    obtain ⟨n, tn, en, hn⟩ := hI.at k _ (List.getElem?_eq_getElem (by omega))
    rw [en] at hxN
    have hc1 : IntsAre (cut vN none (some (k : Int))) (ns.take k) := by rw [cut_to _ (by omega)]; exact ints_take _ hI
    have hc2 : IntsAre (cut vN (some ((k : Int) + 1)) none) (ns.drop (k + 1)) := by
      rw [cut_from _ (by omega)]
      have := ints_drop (k + 1) hI
      simpa using this
    walk_at "one"
    rename St _ _ _ _ _ => S
    refine l_count (fun y => eI y (.int n tn)) S (by walk_at "mem") (eqI hc1) ?_
    clear S
    intro _ _ S
    rw [IntsAre.countI hc1]
    walk_at "in"
    walk_at "one"
    rename St _ _ _ _ _ => S
    refine l_count (fun y => eI y (.int n tn)) S (by walk_at "mem") (eqI hc2) ?_
    clear S
    intro _ _ S
    rw [IntsAre.countI hc2]
    walk_at "in"
    have hnk : num rs[k] = n := by
      have : (rs.map num)[k]? = some n := by rw [hnum]; exact hn
      simp [hkl] at this
      exact this
    have hrev : (rs.take (k + 1)).reverse = rs[k] :: (rs.take k).reverse := by
      rw [List.take_succ_eq_append_getElem hkl, List.reverse_append]; rfl
    have hcnt : cnt num n (rs.take k).reverse = (ns.take k).count n := by
      rw [cnt_map, List.map_reverse, List.count_reverse, List.map_take, hnum]
    rw [hrev, dueR, hnk, bump_drop ns k n hn, hcnt] at hinv
    walk_at "go"
    · rename ((_ : Nat) : Int) = _ => hc
      rename St _ _ _ _ _ => S
      rw [if_pos (by omega)] at hinv
      exact ⟨_, _, (S.bind (by walk_at "bind")).sub (by walk_at "sub"), ds ++ [rs[k]], rfl, rfl, by omega, by simp; omega, by rw [hk2, ← hinv]; simp⟩
    · rename ¬ (((_ : Nat) : Int) = _) => hc
      rename St _ _ _ _ _ => S
      rw [if_neg (by omega)] at hinv
      exact ⟨_, _, (S.bind (by walk_at "bind")).sub (by walk_at "sub"), ds, rfl, rfl, by omega, by omega, by rw [hk2, ← hinv]; simp⟩
  · clear S
    rintro b' H' s' ⟨ds, rfl, rfl, hi', hds, hinv⟩ S
    have e : ((rs.length : Int) - 1 - -1).toNat = rs.length := by omega
    rw [e] at hinv
    simp [dueR] at hinv
    rw [← hinv] at h
    walk_at "go"
    rename St _ _ _ _ _ => S
    exact h _ _ (St.back (S.perm (List.perm_middle (l₁ := [_])).symm))
end
end Mine
local macro_rules | `(tactic| walk_at "upd") => `(tactic| (first | exact Mine.Upd.head _ | exact Mine.Upd.appL _ (Mine.Kof_upd (by assumption)) | (apply Mine.Upd.tail; walk_at "upd")))
namespace Mine
theorem Kof_snoc_perm (X : List Ent) (ps : List (Addr × List Value)) (q : Addr × List Value) (R : List Ent) : (X ++ (Kof (ps ++ [q]) ++ R)).Perm ((q.1, Lst q.2) :: (X ++ (Kof ps ++ R))) := by
  have : X ++ (Kof (ps ++ [q]) ++ R) = (X ++ Kof ps) ++ (q.1, Lst q.2) :: R := by simp [Kof]
  rw [this]; refine List.perm_middle.trans ?_; simp
abbrev row1 (p : Addr × Int × Tok) : Addr × List Value := (p.1, [.int p.2.1 p.2.2])
def numOf (ps : List (Addr × Int × Tok)) : Value → Int
  | .ref a => ((ps.find? fun p => p.1 == a).map (·.2.1)).getD 0
  | _ => 0
theorem numOf_mem : ∀ {ps : List (Addr × Int × Tok)}, (ps.map (·.1)).Nodup → ∀ p ∈ ps, numOf ps (.ref p.1) = p.2.1
  | [], _, p, hp => by simp at hp
  | q :: ps, nd, p, hp => by
    simp only [List.map_cons, List.nodup_cons] at nd
    simp only [numOf, List.find?_cons]
    by_cases e : q.1 = p.1
    · rcases List.mem_cons.mp hp with rfl | hp
      · simp
      · exact absurd (List.mem_map.mpr ⟨p, hp, e.symm⟩) nd.1
    · rcases List.mem_cons.mp hp with h | h
      · exact absurd (by rw [h]) e
      · have := numOf_mem nd.2 p h
        simp only [numOf] at this
        have e' : (q.1 == p.1) = false := by simp [e]
        simp only [e']
        exact this
theorem rows_eq {A : Around} {s : Shared} {ps : List (Addr × Int × Tok)} (nd : (ps.map (·.1)).Nodup) (hu : A.units < cLine) (hp : ∀ p ∈ Kof (ps.map row1), ∃ o, s.heap.get? p.1 = some o ∧ p.2 o) :
    ∀ x ∈ ps.map (fun p => Value.ref p.1), ∀ y ∈ ps.map (fun p => Value.ref p.1), SeqAt.EqAt A s y x (same (numOf ps) y x) := by
  intro x hx y hy
  obtain ⟨p, hpm, rfl⟩ := List.mem_map.mp hx
  obtain ⟨q, hqm, rfl⟩ := List.mem_map.mp hy
  by_cases e : q.1 = p.1
  · rw [e]
    have : same (numOf ps) (.ref p.1) (.ref p.1) = true := by simp [same]
    rw [this]; exact SeqAt.EqAt.same _
  · have l1 : s.heap.IsList p.1 [Value.int p.2.1 p.2.2].toArray := Lst.isList (hp _ (Kof_mem (List.mem_map.mpr ⟨p, hpm, rfl⟩)))
    have l2 : s.heap.IsList q.1 [Value.int q.2.1 q.2.2].toArray := Lst.isList (hp _ (Kof_mem (List.mem_map.mpr ⟨q, hqm, rfl⟩)))
    have := SeqAt.EqAt.of_refs e (rc_lists (e := eI) l2 l1 hu (fun x hx y hy => by
      simp at hx hy; subst hx hy; exact SeqAt.EqAt.int_int _ _ _ _))
    have e2 : same (numOf ps) (.ref q.1) (.ref p.1) = lEq eI [Value.int q.2.1 q.2.2] [Value.int p.2.1 p.2.2] := by
      simp only [same, numOf_mem nd p hpm, numOf_mem nd q hqm, lEq, eI, Bool.and_true]
    rw [e2]; exact this
theorem eq_sameL {A : Around} {s : Shared} {a c : Addr} {vs : List Value} (ha : s.heap.IsList a vs.toArray) (hc : s.heap.IsList c vs.toArray) (hu : A.units < cLine) : SeqAt.EqAt A s (.ref a) (.ref c) true := by
  by_cases e : a = c
  · rw [e]; exact SeqAt.EqAt.same _
  · have := SeqAt.EqAt.of_refs e (SeqAt.RcAt.lists (e := fun _ => true) ha hc rfl hu fun j h1 h2 => SeqAt.EqAt.same _)
    rwa [List.all_eq_true.mpr (fun _ _ => rfl)] at this
theorem eq_oneT {A : Around} {s : Shared} {a c : Addr} {l : Str} {t u : Tok} (ha : s.heap.IsList a [Value.str l t].toArray) (hc : s.heap.IsList c [Value.str l u].toArray) (hu : A.units < cLine) : SeqAt.EqAt A s (.ref a) (.ref c) true := by
  by_cases e : a = c
  · rw [e]; exact SeqAt.EqAt.same _
  · have := SeqAt.EqAt.of_refs e (SeqAt.RcAt.lists (e := fun _ => true) ha hc rfl hu fun j h1 h2 => by
      have hj : j = 0 := by simp at h1; omega
      subst hj
      have := SeqAt.EqAt.str_str (A := A.in1) (s := s) l t l u
      rw [beq_self_eq_true] at this
      exact this)
    rwa [List.all_eq_true.mpr (fun _ _ => rfl)] at this
theorem tup_eq2 {prog : Program} {w : World} {A : Around} {E : Value → Shared → Prop} {s s₁ : Shared} {L a c : Addr} {b : List (Str × Value)} {H : List Ent} {Q : Value → Shared → Prop} {x1 x2 y1 y2 : Value} (S : St s₁ L b H s) (ha : (a, Tup [x1, x2]) ∈ H) (hc : (c, Tup [y1, y2]) ∈ H) (hu : A.units < cLine)
    (h1 : SeqAt.EqAt A.in1 s x1 y1 true) (h2 : SeqAt.EqAt A.in1 s x2 y2 true) (h : Q (.bool true) s) : wpAny (model prog w) A (compareOp .Eq (.ref a) (.ref c)) Q E s := by
  refine SeqAt.RcAt.tuples (e := fun _ => true) (Tup.isTup (S.get ha)) (Tup.isTup (S.get hc)) hu (fun j k1 k2 => ?_) prog w E Q (by rw [List.all_eq_true.mpr (fun _ _ => rfl)]; exact h)
  match j with
  | 0 => exact h1
  | 1 => exact h2
  | j + 2 => exact absurd k1 (by simp)
theorem law10_body {w : World} {p : Program} {loose : List Str} {mg mb : Str → Option Value} {A : Around} {s s₁ : Shared} {L l fa : Addr} {cd : Value} {vs : List Value} {ns : List Int} {Q : Flow → Shared → Prop}
    (X : (hd10.heap_39 w.params).In s₁.heap) (TR : TopRead p loose mg mb s₁.heap) (hL : s₁.heap.IsList l vs.toArray) (hI : IntsAre vs ns) (hlen : ns.length ≤ 63)
    (hh : A.handled = none) (hd : A.depth + 5 < recursionLimit) (hu : A.units + 64 < cLine) (hfr : A.frames = some [envOf (fdAt (hd10.heap_39 w.params) 33).name (fdAt (hd10.heap_39 w.params) 33).scope L fa cd]) (S : St s₁ L [(Str.ofString "script", .ref l)] [] s) (hQ : ∀ s' b H, St s₁ L b H s' → Q (.ret (.bool true)) s') :
    wpAny (model PySem.Challenge.rw_dn0232_10.row.prog w) A (execs (bodyAt (fdAt (hd10.heap_39 w.params) 33)) (envOf (fdAt (hd10.heap_39 w.params) 33).name (fdAt (hd10.heap_39 w.params) 33).scope L fa cd)) Q (fun _ _ => False) s := by
  have hvl : vs.length = ns.length := hI.length
  walk_at "go"
  rename St _ _ _ _ _ => S
  obtain ⟨ln, en, S2⟩ : ∃ d, Value.ref d = Value.ref _ ∧ St s₁ L [(Str.ofString "numbers", .ref d), (Str.ofString "script", .ref l)] [(d, Lst [])] _ := ⟨_, rfl, (S.bind (by walk_at "bind")).sub (by walk_at "sub")⟩
  clear S en
  refine for_list (vs := vs) (fun i b' H' => ∃ vN nums, b' = [(Str.ofString "numbers", .ref ln), (Str.ofString "script", .ref l)] ∧ H' = [(ln, Lst vN)] ∧ IntsAre vN nums ∧ vN.length ≤ 2 * i) S2 ⟨[], [], rfl, rfl, .nil, by simp⟩ (Or.inr hL) (fun _ _ _ _ => Or.inr hL) hh (by with_unfolding_all rfl) (by with_unfolding_all rfl) (by with_unfolding_all rfl) ?_ ?_
  · clear S2
    rintro I i v b' H' s' hv ⟨vN, nums, rfl, rfl, hIN, hvN⟩ S
    have hi : i < vs.length := (List.getElem?_eq_some_iff.mp hv).1
    obtain ⟨n, t, rfl, hn⟩ := hI.at i v hv
    walk_at "go"
    rename St _ _ _ _ _ => S
    simp only [flat_rep] at S
    refine l_extend S (by walk_at "mem") (by walk_at "upd") (by rw [sizeLine_eq, List.length_replicate]; omega) ?_
    clear S
    intro _ S
    walk_at "go"
    rename St _ _ _ _ _ => S
    exact ⟨_, _, (S.bind (by walk_at "bind")).sub (by walk_at "sub"), _, _, rfl, rfl, hIN.append (ints_rep _ _ _), by simp; omega⟩
  clear S2
  rintro b' H' s' ⟨vN, nums, rfl, rfl, hIN, hvN⟩ S
  have hlN : vN.length = nums.length := hIN.length
  walk_at "go"
  rename St _ _ _ _ _ => S
  refine comp_list (vs := vN) (fun i ys H => ∃ ps : List (Addr × Int × Tok), ys = ps.map (fun p => Value.ref p.1) ∧ H = Kof (ps.map row1) ++ [(ln, Lst vN)] ∧ ps.map (·.2.1) = nums.take i) S ⟨[], rfl, rfl, rfl⟩ (by rw [sizeLine_eq]; omega) (Or.inl (by walk_at "mem")) ?_ hh (by decide) (by rfl) (by rfl) ?_ ?_
  · rintro i ys H ⟨ps, _, rfl, _⟩
    exact Or.inl (by simp)
  · clear S
    rintro C D I i v ys H' s' hv ⟨ps, rfl, rfl, hps⟩ S
    obtain ⟨n, t, rfl, hn⟩ := hIN.at i v hv
    refine tests_nil (ifT ?_)
    walk_at "go"
    rename St _ _ _ _ _ => S
    refine ⟨_, _, S.perm (Kof_snoc_perm [_, _, _] (ps.map row1) (_, [.int n t]) [(ln, Lst vN)]), ps ++ [(_, n, t)], by first | (simp; done) | (simp; rfl), by first | (simp; done) | (simp; rfl), ?_⟩
    obtain ⟨hi, rfl⟩ := List.getElem?_eq_some_iff.mp hn
    rw [List.map_append, hps, List.take_succ_eq_append_getElem hi]; rfl
  clear S
  rintro C D ys H' s' ⟨ps, rfl, rfl, hps⟩ S
  refine comp_use S (by with_unfolding_all rfl) (by with_unfolding_all rfl) (by with_unfolding_all rfl) ?_
  clear S
  intro _ S
  have hpl : ps.length = vN.length := by
    have := congrArg List.length hps
    rw [List.length_map, hlN, List.take_length] at this
    omega
  have hysz : (ps.map (fun p => Value.ref p.1)).length ≤ sizeLine := by rw [sizeLine_eq, List.length_map]; omega
  walk_at "one"
  rename St _ _ _ _ _ => S
  rw [hlN, List.take_length] at hps
  obtain ⟨hnd, eh, S2⟩ : ∃ d, Value.ref d = Value.ref _ ∧ St s₁ L [(Str.ofString "handed", .ref d), (Str.ofString "rows", .ref D), (Str.ofString "numbers", .ref ln)] ((d, Lst (ps.map (fun p => Value.ref p.1))) :: (D, Lst (ps.map (fun p => Value.ref p.1))) :: (Kof (ps.map row1) ++ [(ln, Lst vN)])) _ := ⟨_, rfl, by rw [cut_all] at S; exact (S.bind (by walk_at "bind")).sub (by walk_at "sub")⟩
  clear S eh
  have nd : (ps.map (·.1)).Nodup := by
    have := S2.nd
    simp only [List.map_cons, List.nodup_cons, List.map_append, Kof, List.map_map] at this
    exact (List.nodup_append.mp this.2.2).1
  walk_at "go"
  rename St _ _ _ _ _ => S
  refine uldS_spec (same (numOf ps)) X TR S (by omega) hh hfr ?_ ?_ ?_ ?_
  · intro env hm
    simp at hm
    subst hm
    exact ⟨by show ScopeKind.function ≠ .module; decide, L, rfl, Or.inl rfl⟩
  · simp; omega
  · intro env s' hp
    refine rows_eq nd (by simp; omega) fun p hm => hp p (by simp [hm])
  clear S
  intro _ tl ms S
  rw [uldS_law] at S
  walk_at "in"
  walk_at "one"
  rename St _ _ _ _ _ => S
  refine for_range1 (fun i b' H' => ∃ qs : List (Addr × List Value), b' = [(Str.ofString "told", .ref tl), (Str.ofString "handed", .ref hnd), (Str.ofString "rows", .ref D), (Str.ofString "numbers", .ref ln)] ∧
      H' = (tl, Tup [.ref ms, .ref hnd]) :: (ms, Lst (dueR (numOf ps) (fun _ => 0) (ps.map (fun p => Value.ref p.1)).reverse)) :: (hnd, Lst []) :: (D, Lst (ps.map (fun p => Value.ref p.1))) :: (Kof qs ++ [(ln, Lst vN)]) ∧ qs.map (·.1) = ps.map (·.1) ∧ ∀ q ∈ qs, q.2.length ≤ 1 + i) (S.bind (by walk_at "bind")) ⟨ps.map row1, rfl, rfl, by rw [List.map_map]; rfl, by intro q hq; obtain ⟨p, _, rfl⟩ := List.mem_map.mp hq; simp⟩ (by decide) (by decide) (by omega) (by simp; omega) hh (by with_unfolding_all rfl) (by with_unfolding_all rfl) (by with_unfolding_all rfl) ?_ ?_
  · clear S
    rintro I P i t b' H' s' hi ⟨qs, rfl, rfl, hq1, hq2⟩ S
    have hip : i < ps.length := by simp at hi; omega
    have hql : qs.length = ps.length := by have := congrArg List.length hq1; simpa using this
    have hx : (ps.map (fun p => Value.ref p.1))[(0 + ((i : Nat) : Int)).toNat]? = some (.ref ps[i].1) := by simp [hip]
    have hqa : qs[i].1 = ps[i].1 := by
      have : (qs.map (·.1))[i]? = (ps.map (·.1))[i]? := by rw [hq1]
      simp [hip, hql] at this
      exact this
    generalize hv : qs[i].2 = qv
    have hqi : qs[i]? = some (ps[i].1, qv) := by rw [List.getElem?_eq_getElem (by omega), ← hqa, ← hv]
    have hmem : (ps[i].1, Lst qv) ∈ Kof qs ++ [(ln, Lst vN)] := List.mem_append_left _ (Kof_mem (List.mem_of_getElem? hqi))
    have hqz : qv.length ≤ sizeLine := by
      have := hq2 _ (List.mem_of_getElem? hqi)
      rw [sizeLine_eq]; simp at this; omega
    walk_at "go"
    rename St _ _ _ _ _ => S
    refine ⟨_, _, (S.bind (by walk_at "bind")).sub (by walk_at "sub"), qs.set i (ps[i].1, qv ++ [_]), rfl, rfl, ?_, ?_⟩
    · rw [List.map_set, hq1]
      have : ps[i].1 = (ps.map (·.1))[i]'(by simp [hip]) := by simp
      show (ps.map (·.1)).set i ps[i].1 = _
      rw [this, List.set_getElem_self]
    · intro q hq
      rcases List.mem_or_eq_of_mem_set hq with h | rfl
      · have := hq2 q h; omega
      · have := hq2 _ (List.mem_of_getElem? hqi)
        simp at this ⊢; omega
  clear S
  rintro b' H' s' ⟨qs, rfl, rfl, hq1, hq2⟩ S
  walk_at "go"
  rename St _ _ _ _ _ => S
  refine due_spec (vN := vN) (rs := ps.map (fun p => Value.ref p.1)) (ns := nums) (numOf ps) X TR S (by omega) hh (by simp) (by simp) hIN ?_ (by simp; omega) ?_
  · rw [← hps, List.map_map]
    exact List.map_congr_left fun p hp => numOf_mem nd p hp
  clear S
  intro _ d S
  walk_at "go"
  rename St _ _ _ _ _ => S
  refine tup_eq2 S (by walk_at "mem") (by walk_at "mem") (by omega) (eq_sameL (Lst.isList (S.get (by walk_at "mem"))) (Lst.isList (S.get (by walk_at "mem"))) (by simp only [Around.in1_units]; omega)) (eq_oneT (Lst.isList (S.get (by walk_at "mem"))) (Lst.isList (S.get (by walk_at "mem"))) (by simp only [Around.in1_units]; omega)) ?_
  walk_at "go"
  exact hQ _ _ _ S
end Mine
open Mine in
theorem PySem.Challenge.cw_dn0232_10_holds : PySem.Challenge.rw_dn0232_10.Holds := by
  refine Mine.hd10 ?_
  k_go0
  rename Fr _ _ _ _ => F0
  rename Top _ _ _ _ _ _ => T0
  rename Frag.In _ _ => KX
  rename Heap.IsList _ _ _ => hL
  rename IntsAre _ _ => hI
  rename ¬ (_ < _) => hlen
  rename Shared.gens _ = _ => hg
  refine wpAny_mono (law10_body KX (topRead_of T0) hL hI (by omega) (by rfl) (by simp only [depth_deeper, depth_caller]; decide) (by simp only [units_deeper, units_caller]; decide) (Around.frames_deeper rfl) (law_start0 _ F0 (lk1 (by rfl))) (fun s' b H S' => law_end S' hg (by intro _; rfl) (by with_unfolding_all exact postW_of (by rfl) (by exact w_eq_bool (w_res rfl) w_lit) (by rfl)))) (fun _ _ q => q) (fun _ _ q => q.elim)
