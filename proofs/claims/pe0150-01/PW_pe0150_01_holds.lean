import PyProof.Rows.All
import Wide.All
import OpenK.AllK
import Wide.FinOn
import PySem.Builtin.Re_Pattern.W2All
import Lean
import PySem.Challenge.RW_pe0150_01
section
open PySem PySem.W PyProof.Rows
set_option Elab.async false
namespace Mine
set_option maxRecDepth 100000
set_option maxHeartbeats 8000000
local macro_rules | `(tactic| k_head) => `(tactic| z_head)
open_top hd for PySem.Challenge.rw_pe0150_01
end Mine
end
section
open PySem PySem.W PySem.W.X PyProof.Rows
set_option maxRecDepth 100000
set_option Elab.async false
namespace Mine
abbrev pg : Program := PySem.Challenge.rw_pe0150_01.prog
/-- the fragment without the two code tables that the divisions grow -/
noncomputable def K2 (P : Params) : Frag := (hd.heap_154 P).filter fun p => !(p.1 == 47 || p.1 == 54)

/-! ## names -/
def lq : List Nat → List Nat → Bool
  | [], [] => true
  | a :: x, b :: y => match Nat.beq a b with | true => lq x y | false => false
  | _, _ => false
theorem lq_iff : ∀ {x y : List Nat}, lq x y = true ↔ x = y
  | [], [] => by simp [lq]
  | [], _ :: _ => by simp [lq]
  | _ :: _, [] => by simp [lq]
  | a :: x, b :: y => by
    unfold lq
    cases h : Nat.beq a b with
    | true => have := Nat.eq_of_beq_eq_true h; subst this; simp [lq_iff (x := x) (y := y)]
    | false => have := Nat.ne_of_beq_eq_false h; simp [this]
def sq (a b : Str) : Bool := lq a.cps.toList b.cps.toList
theorem sq_iff {a b : Str} : sq a b = true ↔ a = b := by
  unfold sq; rw [lq_iff]
  constructor
  · intro h; cases a; cases b; simp only [Str.mk.injEq]; exact Array.toList_inj.mp h
  · rintro rfl; rfl
def lkp (x : Str) : List (Str × Value) → Option Value
  | [] => none
  | p :: l => match sq x p.1 with | true => some p.2 | false => lkp x l
def Has (m : Str → Option Value) (l : List (Str × Value)) : Prop := ∀ x v, lkp x l = some v → m x = some v
theorem Has.n {m : Str → Option Value} : Has m [] := fun _ _ h => (nomatch h)
theorem Has.c {m : Str → Option Value} {l l' : List (Str × Value)} {x : Str} {v : Value} (H : Has m l) (e : lkp x l = some v) (r : Has m l') : Has m ((x, v) :: l') := by
  intro y u h
  unfold lkp at h
  cases q : sq y x with
  | true => rw [show sq y (x, v).1 = true from q] at h; rw [sq_iff.mp q]; cases h; exact H _ _ e
  | false => rw [show sq y (x, v).1 = false from q] at h; exact r y u h
theorem Has.put {m : Str → Option Value} {l : List (Str × Value)} (H : Has m l) (x : Str) (v : Value) : Has (fun y => if y = x then some v else m y) ((x, v) :: l) := by
  intro y u h
  unfold lkp at h
  cases q : sq y x with
  | true => rw [show sq y (x, v).1 = true from q] at h; cases h; rw [sq_iff.mp q]; simp
  | false =>
    rw [show sq y (x, v).1 = false from q] at h
    have : y ≠ x := fun e => by rw [sq_iff.mpr e] at q; cases q
    simp [this]; exact H y u h
theorem Has.of_lookup (l : List (Str × Value)) : Has (fun x => l.lookup x) l := by
  intro y u h
  induction l with
  | nil => cases h
  | cons p l ih =>
    unfold lkp at h
    cases q : sq y p.1 with
    | true => rw [q] at h; cases h; rw [sq_iff.mp q]; obtain ⟨a, b⟩ := p; show List.lookup a ((a, b) :: l) = some b; rw [List.lookup_cons]; simp
    | false =>
      rw [q] at h
      have hne : y ≠ p.1 := fun e => by rw [sq_iff.mpr e] at q; cases q
      have : (y == p.1) = false := beq_eq_false_iff_ne.mpr hne
      show List.lookup y (p :: l) = some u
      obtain ⟨a, b⟩ := p
      rw [List.lookup_cons, this]; exact ih h

/-! ## names in a written dict -/
def esOf (o : Obj) : Array DictEntry := match o.data with | .dict es _ => es | _ => #[]
def skB : List DictEntry → Bool
  | [] => true
  | e :: l => match e.key with | .str _ _ => skB l | _ => false
theorem skB_ok : ∀ {l : List DictEntry}, skB l = true → StrKeys ⟨l⟩
  | [], _ => fun e h => by simp at h
  | e :: l, h => fun e' he => by
    unfold skB at h
    split at h
    · rename_i n t hk
      rcases (by simpa using he : e' = e ∨ e' ∈ l) with rfl | he
      · exact ⟨n, t, hk⟩
      · exact skB_ok h e' (by simpa using he)
    · cases h
def lkD (x : Str) : List DictEntry → Option Value
  | [] => none
  | e :: l => match e.key with
    | .str n _ => (match sq x n with | true => some e.val | false => lkD x l)
    | _ => lkD x l
theorem lkD_eq (x : Str) : ∀ l : List DictEntry, skB l = true → nsFind ⟨l⟩ x = lkD x l
  | [], _ => rfl
  | e :: l, h => by
    unfold skB at h
    split at h
    · rename_i n t hk
      have ih := lkD_eq x l h
      unfold lkD
      rw [hk]
      dsimp only
      unfold nsFind findBy at ih ⊢
      rw [← Array.find?_toList] at ih ⊢
      dsimp only at ih ⊢
      rw [List.find?_cons, hk]
      cases q : sq x n with
      | true => have := sq_iff.mp q; subst this; simp [Value.isStr]
      | false =>
        have hn : ¬ n = x := fun e => by rw [sq_iff.mpr e.symm] at q; cases q
        have : (Value.str n t).isStr x = false := by simp [Value.isStr, hn]
        rw [this]
        exact ih
    · cases h

/-! ## what every step keeps -/
/-- all objects but the two code tables -/
abbrev Kp (h h' : Heap) : Prop := ∀ b o, b ≠ 47 → b ≠ 54 → h.get? b = some o → h'.get? b = some o
theorem Kp.refl (h : Heap) : Kp h h := fun _ _ _ _ e => e
theorem Kp.trans {h h' h'' : Heap} (a : Kp h h') (b : Kp h' h'') : Kp h h'' := fun x o n1 n2 e => b x o n1 n2 (a x o n1 n2 e)
theorem Kp.push (h : Heap) (o : Obj) : Kp h (h.push o) := fun _ _ _ _ e => Heap.get?_push_of_some _ e
theorem Kp.of {h h' : Heap} (k : ∀ b o, h.get? b = some o → h'.get? b = some o) : Kp h h' := fun b o _ _ e => k b o e

/-- a code table: empty, or it bears the code of the one nested def -/
def Tab (h : Heap) (P : Addr) (pos : Pos) (q : Str) : Prop :=
  ∃ ps, h.get? P = some (tabObj ps) ∧ TriplesOk ps.toList ∧ (codeAmong pos ps.toList = none ∨ ∃ c', codeAmong pos ps.toList = some (.ref c') ∧ h.CodeRec (.ref c') q ∧ 138 ≤ c')
theorem Tab.keeps {h h' : Heap} {P : Addr} {pos : Pos} {q : Str} (x : Tab h P pos q) (k : ∀ b o, h.get? b = some o → h'.get? b = some o) : Tab h' P pos q := by
  obtain ⟨ps, a, b, c⟩ := x
  refine ⟨ps, k _ _ a, b, c.imp id ?_⟩
  rintro ⟨c', e, r, r'⟩
  exact ⟨c', e, r.keeps k, r'⟩
theorem Tab.but {h h' : Heap} {P L : Addr} {pos : Pos} {q : Str} {oL : Obj} (x : Tab h P pos q) (hL : h.get? L = some oL) (hn : ∀ vs, oL.data ≠ .fields vs) (k : ∀ b o, b ≠ L → h.get? b = some o → h'.get? b = some o) : Tab h' P pos q := by
  obtain ⟨ps, a, b, c⟩ := x
  refine ⟨ps, k _ _ ?_ a, b, c.imp id ?_⟩
  · rintro rfl; rw [hL] at a; cases a; exact hn _ rfl
  rintro ⟨c', e, r, r'⟩
  exact ⟨c', e, r.keepsBut k hL hn, r'⟩
abbrev pos47 : Pos := ⟨33, 4, 42, 28⟩
abbrev pos54 : Pos := ⟨48, 4, 53, 55⟩
abbrev q47 : Str := "_int2digits.<locals>.inner"
abbrev q54 : Str := "_digits2int.<locals>.inner"

structure LP (w : World) (h : Heap) : Prop where
  k : (K2 w.params).In h
  t47 : Tab h 47 pos47 q47
  t54 : Tab h 54 pos54 q54
theorem LP.size {w : World} {h : Heap} (x : LP w h) : 138 ≤ h.objs.size := Heap.lt_size (x.k 137 _ rfl)
theorem LP.keeps {w : World} {h h' : Heap} (x : LP w h) (k : ∀ b o, h.get? b = some o → h'.get? b = some o) : LP w h' :=
  ⟨fun a o e => k a o (x.k a o e), x.t47.keeps k, x.t54.keeps k⟩
theorem K2_low (P : Params) : ((hd.heap_154 P).map (·.1)).all (fun a => Nat.blt a 138) = true := by with_unfolding_all rfl
theorem lookup_mem {a : Addr} {o : Obj} : ∀ {K : Frag}, K.lookup a = some o → (a, o) ∈ K
  | [], h => by cases h
  | (b, p) :: K, h => by
    rw [List.lookup_cons] at h
    split at h
    · rename_i e; cases h; rw [beq_iff_eq.mp e]; exact .head _
    · exact .tail _ (lookup_mem h)
theorem K2_lt {P : Params} {a : Addr} {o : Obj} (h : (K2 P).lookup a = some o) : a < 138 := by
  have := List.all_eq_true.mp (K2_low P) a (List.mem_map_of_mem (f := (·.1)) (List.mem_filter.mp (lookup_mem h)).1)
  exact Nat.le_of_ble_eq_true this
theorem LP.but {w : World} {h h' : Heap} {L : Addr} {oL : Obj} (x : LP w h) (hL : h.get? L = some oL) (hn : ∀ vs, oL.data ≠ .fields vs) (hl : 138 ≤ L) (k : ∀ b o, b ≠ L → h.get? b = some o → h'.get? b = some o) : LP w h' :=
  ⟨fun a o e => k a o (Nat.ne_of_lt (Nat.lt_of_lt_of_le (K2_lt e) hl)) (x.k a o e), x.t47.but hL hn k, x.t54.but hL hn k⟩
theorem LP.push {w : World} {h : Heap} (x : LP w h) (o : Obj) : LP w (h.push o) := x.keeps (fun _ _ e => Heap.get?_push_of_some _ e)
theorem LP.ne {w : World} {h : Heap} (x : LP w h) {b : Addr} {o : Obj} (e : h.get? b = some o) (hc : o.cls ≠ .none) : b ≠ 47 ∧ b ≠ 54 := by
  obtain ⟨p1, a1, _⟩ := x.t47
  obtain ⟨p2, a2, _⟩ := x.t54
  constructor
  · rintro rfl; rw [e] at a1; cases a1; exact hc rfl
  · rintro rfl; rw [e] at a2; cases a2; exact hc rfl
theorem LP.obj {w : World} {h h' : Heap} (x : LP w h) (k : Kp h h') {b : Addr} {o : Obj} (e : h.get? b = some o) (hc : o.cls ≠ .none) : h'.get? b = some o := k b o (x.ne e hc).1 (x.ne e hc).2 e
theorem LP.list {w : World} {h h' : Heap} (x : LP w h) (k : Kp h h') {l : Addr} {vs : Array Value} (e : h.IsList l vs) : h'.IsList l vs :=
  let ⟨o, ho, hc, r⟩ := e; ⟨o, x.obj k ho (by rw [hc]; exact fun z => nomatch z), hc, r⟩
theorem LP.glob {w : World} {h : Heap} (x : LP w h) : h.Ns mainGlobals (fun n => lkD n (esOf (hd.zo_42 w.params)).toList) :=
  ⟨_, _, _, x.k 3 _ rfl, rfl, skB_ok rfl, fun n => lkD_eq n _ rfl⟩
theorem LP.built {w : World} {h : Heap} (x : LP w h) : h.Ns builtinsNs (fun n => lkD n (esOf (hd.zo_39 w.params)).toList) :=
  ⟨_, _, _, x.k 0 _ rfl, rfl, skB_ok rfl, fun n => lkD_eq n _ rfl⟩
theorem LP.noLimit {w : World} {h : Heap} (x : LP w h) : h.NoLimit :=
  ⟨fun n => lkD n (esOf (hd.zo_41 w.params)).toList, ⟨_, _, _, x.k 2 _ rfl, rfl, skB_ok rfl, fun n => lkD_eq n _ rfl⟩, by with_unfolding_all rfl⟩
section
variable {w : World} {A : Around} {E : Value → Shared → Prop} {s : Shared} {env : Env}
theorem r_glob0 {x : Str} {v : Value} {pos : Pos} {Q : Value → Shared → Prop} (P : LP w s.heap) (e : lkD x (esOf (hd.zo_42 w.params)).toList = some v) (h : Q v s)
    (hk : env.scope.kind = .function := by rfl) (hl : env.kindOf x = some .globalImplicit := by rfl) (hg : env.globals = mainGlobals := by rfl) (hd : (x == ("__debug__" : Str)) = false := by decide) :
    wpAny (model pg w) A (eval (.Name x pos) env) Q E s := Calls.Name_function_global hk hl (Calls.loadGlobal_global (by rw [hg]; exact P.glob) e h) hd
theorem r_built0 {x : Str} {v : Value} {pos : Pos} {Q : Value → Shared → Prop} (P : LP w s.heap) (e1 : lkD x (esOf (hd.zo_42 w.params)).toList = none) (e : lkD x (esOf (hd.zo_39 w.params)).toList = some v) (h : Q v s)
    (hk : env.scope.kind = .function := by rfl) (hl : env.kindOf x = some .globalImplicit := by rfl) (hg : env.globals = mainGlobals := by rfl) (hb : env.builtins = builtinsNs := by rfl) (hd : (x == ("__debug__" : Str)) = false := by decide) :
    wpAny (model pg w) A (eval (.Name x pos) env) Q E s := Calls.Name_function_global hk hl (Calls.loadGlobal_builtin (by rw [hg]; exact P.glob) e1 (by rw [hb]; exact P.built) e h) hd
end

/-! ## an activation -/
theorem ne47 {b : Addr} (h : 138 ≤ b) : b ≠ 47 := Nat.ne_of_gt (Nat.lt_of_lt_of_le (by decide) h)
theorem ne54 {b : Addr} (h : 138 ≤ b) : b ≠ 54 := Nat.ne_of_gt (Nat.lt_of_lt_of_le (by decide) h)
structure In (w : World) (h₀ : Heap) (L : Addr) (l : List (Str × Value)) (own : List (Addr × Obj)) (h : Heap) : Prop where
  lp : LP w h
  ns : ∃ m, h.Ns L m ∧ Has m l
  keep : Kp h₀ h
  fresh : h₀.objs.size ≤ L
  low : 138 ≤ L
  own : ∀ p ∈ own, h.get? p.1 = some p.2 ∧ p.1 ≠ L ∧ p.1 ≠ 47 ∧ p.1 ≠ 54
namespace In
variable {w : World} {h₀ h h' : Heap} {L : Addr} {l l' : List (Str × Value)} {own own' : List (Addr × Obj)}
theorem lt (J : In w h₀ L l own h) : L < h.objs.size := let ⟨_, a, _⟩ := J.ns; a.lt
theorem grow (J : In w h₀ L l own h) (k : Kp h h') (P : LP w h') : In w h₀ L l own h' :=
  ⟨P, let ⟨m, ⟨o, es, ep, ho, hd, r⟩, b⟩ := J.ns; ⟨m, ⟨o, es, ep, k L o (ne47 J.low) (ne54 J.low) ho, hd, r⟩, b⟩, J.keep.trans k, J.fresh, J.low,
    fun p hp => ⟨k _ _ (J.own p hp).2.2.1 (J.own p hp).2.2.2 (J.own p hp).1, (J.own p hp).2⟩⟩
theorem has (J : In w h₀ L l own h) (q : ∀ m, Has m l → Has m l') : In w h₀ L l' own h := ⟨J.lp, let ⟨m, a, b⟩ := J.ns; ⟨m, a, q m b⟩, J.keep, J.fresh, J.low, J.own⟩
theorem sub (J : In w h₀ L l own h) (q : ∀ p ∈ own', p ∈ own) : In w h₀ L l own' h := ⟨J.lp, J.ns, J.keep, J.fresh, J.low, fun p hp => J.own p (q p hp)⟩
theorem keepAll (J : In w h₀ L l own h) (k : ∀ b o, h.get? b = some o → h'.get? b = some o) : In w h₀ L l own h' := J.grow (Kp.of k) (J.lp.keeps k)
theorem ext (J : In w h₀ L l own h) (k : Heap.ExtBut h.objs.size h h') : In w h₀ L l own h' := J.keepAll fun b o e => k b o (Nat.ne_of_lt (Heap.lt_size e)) e
theorem nil (J : In w h₀ L l own h) : In w h₀ L l [] h := J.sub fun _ h => (nomatch h)
theorem push (J : In w h₀ L l own h) {o : Obj} (hf : o.isFreed = false) : In w h₀ L l ((h.objs.size, o) :: own) (h.push o) :=
  ⟨J.lp.push o, let ⟨m, a, b⟩ := J.ns; ⟨m, a.push o, b⟩, J.keep.trans (Kp.push _ _), J.fresh, J.low, fun p hp => by
    rcases List.mem_cons.mp hp with rfl | hp
    · exact ⟨Heap.get?_push_size _ hf, Nat.ne_of_gt J.lt, ne47 J.lp.size, ne54 J.lp.size⟩
    · exact ⟨Heap.get?_push_of_some _ (J.own p hp).1, (J.own p hp).2⟩⟩
theorem pushed (J : In w h₀ L l own h) {o : Obj} : In w h₀ L l own (h.push o) := J.grow (Kp.push _ _) (J.lp.push o)
theorem list (J : In w h₀ L l own h) {a : Addr} {vs : Array Value} (P : LP w h₀) (e : h₀.IsList a vs) : h.IsList a vs := P.list J.keep e
theorem start {a : Addr} {binds : List (Str × Value)} (P : LP w h₀) (hns : h.Ns h₀.objs.size (fun x => binds.reverse.lookup x)) (hk : ∀ b o, h₀.get? b = some o → h.get? b = some o) : In w h₀ h₀.objs.size binds.reverse [] h :=
  let _ := a
  ⟨P.keeps hk, ⟨_, hns, Has.of_lookup _⟩, Kp.of hk, Nat.le_refl _, P.size, fun _ h => (nomatch h)⟩
end In

section
variable {w : World} {A : Around} {E : Value → Shared → Prop} {h₀ : Heap} {s : Shared} {L : Addr} {l : List (Str × Value)} {own : List (Addr × Obj)} {env : Env}
theorem r_ldn {x : Str} {v : Value} {Q : Value → Shared → Prop} (J : In w h₀ L l own s.heap) (e : lkp x l = some v) (h : Q v s)
    (hk : env.scope.kind = .function := by rfl) (hl : env.kindOf x = some .local := by rfl) (hL : env.locals = L := by rfl) : wpAny (model pg w) A (loadName env x) Q E s := by
  obtain ⟨m, a, b⟩ := J.ns
  subst hL
  exact wpAny_loadName_local hk hl a (b _ _ e) h
theorem r_name {x : Str} {v : Value} {pos : Pos} {Q : Value → Shared → Prop} (J : In w h₀ L l own s.heap) (e : lkp x l = some v) (h : Q v s)
    (hk : env.scope.kind = .function := by rfl) (hl : env.kindOf x = some .local := by rfl) (hL : env.locals = L := by rfl) (hd : (x == ("__debug__" : Str)) = false := by decide) :
    wpAny (model pg w) A (eval (.Name x pos) env) Q E s := wpAny_Name (r_ldn J e h hk hl hL) hd
theorem r_cell {x : Str} {v : Value} {pos : Pos} {c : Addr} {o : Obj} {Q : Value → Shared → Prop} (J : In w h₀ L l own s.heap) (hc : env.cells.lookup x = some c) (hm : (c, o) ∈ own) (hd : o.data = .cell (some v)) (h : Q v s)
    (hk : env.scope.kind = .function := by rfl) (hl : env.kindOf x = some .cell := by rfl) (hb : (x == ("__debug__" : Str)) = false := by decide) :
    wpAny (model pg w) A (eval (.Name x pos) env) Q E s := wpAny_Name (wpAny_loadName_cell hk hl hc ⟨o, (J.own _ hm).1, hd⟩ h) hb
theorem r_glob {x : Str} {v : Value} {pos : Pos} {Q : Value → Shared → Prop} (J : In w h₀ L l own s.heap) (e : lkD x (esOf (hd.zo_42 w.params)).toList = some v) (h : Q v s)
    (hk : env.scope.kind = .function := by rfl) (hl : env.kindOf x = some .globalImplicit := by rfl) (hg : env.globals = mainGlobals := by rfl) (hd : (x == ("__debug__" : Str)) = false := by decide) :
    wpAny (model pg w) A (eval (.Name x pos) env) Q E s := r_glob0 J.lp e h hk hl hg hd
theorem r_built {x : Str} {v : Value} {pos : Pos} {Q : Value → Shared → Prop} (J : In w h₀ L l own s.heap) (e1 : lkD x (esOf (hd.zo_42 w.params)).toList = none) (e : lkD x (esOf (hd.zo_39 w.params)).toList = some v) (h : Q v s)
    (hk : env.scope.kind = .function := by rfl) (hl : env.kindOf x = some .globalImplicit := by rfl) (hg : env.globals = mainGlobals := by rfl) (hb : env.builtins = builtinsNs := by rfl) (hd : (x == ("__debug__" : Str)) = false := by decide) :
    wpAny (model pg w) A (eval (.Name x pos) env) Q E s := r_built0 J.lp e1 e h hk hl hg hb hd
theorem r_store {x : Str} {v : Value} {Q : Unit → Shared → Prop} (J : In w h₀ L l own s.heap)
    (h : ∀ h', In w h₀ L ((x, v) :: l) own h' → Q () { s with heap := h', toks := s.toks + 1 })
    (hl : env.kindOf x = some .local := by rfl) (hL : env.locals = L := by rfl) (hp : (env.scope.kind == .class || (env.scope.kind == .module && env.locals != env.globals)) = false := by rfl) :
    wpAny (model pg w) A (storeName env x v) Q E s := by
  obtain ⟨m, a, b⟩ := J.ns
  subst hL
  refine wpAny_storeName_local hl a (fun h' hn hs => h h' ⟨?_, ⟨_, hn, b.put x v⟩, fun b' o n1 n2 e => ?_, J.fresh, J.low, fun p hp' => ⟨(hs.2 _ (J.own p hp').2.1).trans (J.own p hp').1, (J.own p hp').2⟩⟩) hp
  · obtain ⟨o, es, ep, ho, hd, _⟩ := a
    exact J.lp.but ho (fun vs => by rw [hd]; exact fun z => nomatch z) J.low (fun b o hb e => (hs.2 b hb).trans e)
  · exact (hs.2 b' (Nat.ne_of_lt (Nat.lt_of_lt_of_le (Heap.lt_size e) J.fresh))).trans (J.keep b' o n1 n2 e)
end

/-- room for n more frames, no exception at hand -/
structure Rm (A : Around) (n : Nat) : Prop where
  hd : A.handled = none
  dp : A.depth + n < recursionLimit
  un : A.units + 4 * n < cLine
theorem Rm.deeper {A : Around} {n : Nat} (h : Rm A (n + 1)) (env : Env) : Rm (A.deeper env) n :=
  ⟨h.hd, by have := h.dp; rw [depth_deeper]; omega, by have := h.un; rw [units_deeper]; omega⟩
theorem Rm.le {A : Around} {n m : Nat} (h : Rm A n) (l : m ≤ n) : Rm A m := ⟨h.hd, by have := h.dp; omega, by have := h.un; omega⟩
theorem Rm.room {A : Around} {n : Nat} (h : Rm A n) : A.depth < recursionLimit := by have := h.dp; omega
theorem ld_any {M : Model} {A : Around} {α : Type} {Q : α → Shared → Prop} {E : Value → Shared → Prop} {s : Shared} {a : Addr} {q : Option Value} {k : Obj → Sem α} {o : Obj} (ho : s.heap.get? a = some o) (h : wpAny M A (k o) Q E s) :
    wpAny M A (.load a q k) Q E s := wpAny_bind (m := loadPart a q) (f := k) (wpAny_loadPart ho h)
theorem pu_any {M : Model} {A : Around} {α : Type} {Q : α → Shared → Prop} {E : Value → Shared → Prop} {s : Shared} {a : α} (h : Q a s) : wpAny M A (.pure a) Q E s := wpAny_pure h
end Mine
end
section
namespace Mine
open PySem
abbrev n_a : Str := ⟨⟨[97]⟩⟩
abbrev n_x : Str := ⟨⟨[120]⟩⟩
abbrev n_lo : Str := ⟨⟨[108, 111]⟩⟩
abbrev n_hi : Str := ⟨⟨[104, 105]⟩⟩
abbrev n_key : Str := ⟨⟨[107, 101, 121]⟩⟩
abbrev n_mid : Str := ⟨⟨[109, 105, 100]⟩⟩
abbrev n_place : Str := ⟨⟨[112, 108, 97, 99, 101]⟩⟩
abbrev n_heads : Str := ⟨⟨[104, 101, 97, 100, 115]⟩⟩
abbrev n_mids : Str := ⟨⟨[109, 105, 100, 115]⟩⟩
abbrev n_letters : Str := ⟨⟨[108, 101, 116, 116, 101, 114, 115]⟩⟩
abbrev n_end : Str := ⟨⟨[101, 110, 100]⟩⟩
abbrev n_sums : Str := ⟨⟨[115, 117, 109, 115]⟩⟩
abbrev n_room : Str := ⟨⟨[114, 111, 111, 109]⟩⟩
abbrev n_rest : Str := ⟨⟨[114, 101, 115, 116]⟩⟩
abbrev n_text : Str := ⟨⟨[116, 101, 120, 116]⟩⟩
abbrev n_cost : Str := ⟨⟨[99, 111, 115, 116]⟩⟩
abbrev n_ends : Str := ⟨⟨[101, 110, 100, 115]⟩⟩
abbrev n_dots : Str := ⟨⟨[100, 111, 116, 115]⟩⟩
abbrev n_kind : Str := ⟨⟨[107, 105, 110, 100]⟩⟩
abbrev n_which : Str := ⟨⟨[119, 104, 105, 99, 104]⟩⟩
abbrev n_wire : Str := ⟨⟨[119, 105, 114, 101]⟩⟩
abbrev n_front : Str := ⟨⟨[102, 114, 111, 110, 116]⟩⟩
abbrev n_middle : Str := ⟨⟨[109, 105, 100, 100, 108, 101]⟩⟩
abbrev n_at : Str := ⟨⟨[97, 116]⟩⟩
abbrev n_left : Str := ⟨⟨[108, 101, 102, 116]⟩⟩
abbrev n_script : Str := ⟨⟨[115, 99, 114, 105, 112, 116]⟩⟩
abbrev n_places : Str := ⟨⟨[112, 108, 97, 99, 101, 115]⟩⟩
abbrev n_heard : Str := ⟨⟨[104, 101, 97, 114, 100]⟩⟩
abbrev n_row : Str := ⟨⟨[114, 111, 119]⟩⟩
abbrev n_one : Str := ⟨⟨[111, 110, 101]⟩⟩
abbrev n_n : Str := ⟨⟨[110]⟩⟩
abbrev n_r : Str := ⟨⟨[114]⟩⟩
abbrev n_q : Str := ⟨⟨[113]⟩⟩
abbrev n_a_digits : Str := ⟨⟨[97, 95, 100, 105, 103, 105, 116, 115]⟩⟩
abbrev n_q_digits : Str := ⟨⟨[113, 95, 100, 105, 103, 105, 116, 115]⟩⟩
abbrev n_a_digit : Str := ⟨⟨[97, 95, 100, 105, 103, 105, 116]⟩⟩
abbrev n_q_digit : Str := ⟨⟨[113, 95, 100, 105, 103, 105, 116]⟩⟩
abbrev n_b : Str := ⟨⟨[98]⟩⟩
abbrev n_size : Str := ⟨⟨[115, 105, 122, 101]⟩⟩
abbrev n_base : Str := ⟨⟨[98, 97, 115, 101]⟩⟩
abbrev n_under : Str := ⟨⟨[117, 110, 100, 101, 114]⟩⟩
abbrev n_whole : Str := ⟨⟨[119, 104, 111, 108, 101]⟩⟩
abbrev n_over : Str := ⟨⟨[111, 118, 101, 114]⟩⟩
abbrev n_before : Str := ⟨⟨[98, 101, 102, 111, 114, 101]⟩⟩
abbrev n_earlier : Str := ⟨⟨[101, 97, 114, 108, 105, 101, 114]⟩⟩
abbrev n_data : Str := ⟨⟨[100, 97, 116, 97]⟩⟩
abbrev n_CRLF : Str := ⟨⟨[67, 82, 76, 70]⟩⟩
abbrev n_len : Str := ⟨⟨[108, 101, 110]⟩⟩
abbrev n_sum : Str := ⟨⟨[115, 117, 109]⟩⟩
abbrev n_sorted : Str := ⟨⟨[115, 111, 114, 116, 101, 100]⟩⟩
abbrev n_bisect_right : Str := ⟨⟨[98, 105, 115, 101, 99, 116, 95, 114, 105, 103, 104, 116]⟩⟩
abbrev n_int_divmod : Str := ⟨⟨[105, 110, 116, 95, 100, 105, 118, 109, 111, 100]⟩⟩
abbrev n_law_text : Str := ⟨⟨[95, 108, 97, 119, 95, 116, 101, 120, 116]⟩⟩
abbrev n_law_place : Str := ⟨⟨[95, 108, 97, 119, 95, 112, 108, 97, 99, 101]⟩⟩
abbrev n_quotedata : Str := ⟨⟨[113, 117, 111, 116, 101, 100, 97, 116, 97]⟩⟩
abbrev n_law_tables : Str := ⟨⟨[95, 108, 97, 119, 95, 116, 97, 98, 108, 101, 115]⟩⟩
abbrev n_law_digits : Str := ⟨⟨[95, 108, 97, 119, 95, 100, 105, 103, 105, 116, 115]⟩⟩
abbrev n_law_heads : Str := ⟨⟨[95, 108, 97, 119, 95, 104, 101, 97, 100, 115]⟩⟩
end Mine
end
section
open PySem PySem.W PySem.W.X PyProof.Rows
set_option maxRecDepth 100000
set_option Elab.async false
namespace Mine
set_option maxHeartbeats 1000000
theorem ints_get {vs : List Value} {xs : List Int} (h : IntsAre vs xs) : ∀ {i : Nat}, i < xs.length → ∃ t, vs[i]? = some (.int (xs.getD i 0) t) := by
  induction h with
  | nil => intro i hi; simp at hi
  | cons n t _ ih =>
    intro i hi
    cases i with
    | zero => exact ⟨t, by simp⟩
    | succ i => obtain ⟨t', e⟩ := ih (i := i) (by simpa using hi); exact ⟨t', by simpa using e⟩
def Sorted (xs : List Int) : Prop := ∀ i j, i ≤ j → j < xs.length → xs.getD i 0 ≤ xs.getD j 0
structure Bis (xs : List Int) (x : Int) (lo hi : Int) : Prop where
  lo0 : 0 ≤ lo
  le : lo ≤ hi
  top : hi ≤ xs.length
  below : ∀ i : Nat, (i : Int) < lo → xs.getD i 0 ≤ x
  above : ∀ i : Nat, hi ≤ (i : Int) → i < xs.length → x < xs.getD i 0
theorem bisect_spec {w : World} {A : Around} {E : Value → Shared → Prop} {s : Shared} (P : LP w s.heap) {nA : Nat} (hA : Rm A nA) {l : Addr} {vs : List Value} {xs : List Int} {x : Int} {t : Tok}
    (hl : s.heap.IsList l vs.toArray) (hi : IntsAre vs xs) (hlen : xs.length < 1000000) (hs : Sorted xs) {Q : Value → Shared → Prop}
    (h : ∀ r u h' tk, Kp s.heap h' → LP w h' → Bis xs x r r → Q (.int r u) ⟨h', s.gens, s.drawn, tk, s.os⟩) :
    wpAny (model pg w) A (call (.ref 82) [.ref l, .int x t]) Q E s := by
  have hvl : vs.length = xs.length := IntsAre.length hi
  refine wpAny_call ?_
  refine codeAny_call_def (binds := [(n_a, .ref l), (n_x, .int x t), (n_lo, .int 0 366), (n_hi, .none), (n_key, .none)]) hA.room (P.k 82 _ rfl) rfl P.noLimit ⟨81, _, _, _, rfl, P.k 81 _ rfl, rfl, rfl⟩ rfl (fun M A E Q hq => ?_) (by decide) (locs rfl) (fun h₀ hns hk => ?_)
  · refine ld_any (a := 74) (P.k 74 _ rfl) ?_
    refine ld_any (a := 75) (P.k 75 _ rfl) ?_
    exact pu_any hq
  have J : In w s.heap s.heap.objs.size [(n_key, .none), (n_hi, .none), (n_lo, .int 0 366), (n_x, .int x t), (n_a, .ref l)] [] h₀ := In.start (a := 0) P hns hk
  clear hns hk
  refine wpAny_execs_cons (wpAny_If (wpAny_isTrue_Compare1 (r_name J rfl (wpAny_Constant_int (lt_int (wpAny_truthy_bool ?_))))))
  rw [if_neg (by decide)]
  refine wpAny_execs_nil ?_
  refine wpAny_execs_cons (wpAny_If (wpAny_isTrue_Compare1 (r_name J rfl (Constant_none (wpAny_is_self rfl (wpAny_truthy_bool ?_))))))
  rw [if_pos rfl]
  refine wpAny_execs_cons (wpAny_Assign_Name (wpAny_Call_NameR (r_built J rfl rfl (callWith_builtin1 (Calls.spliced_cons (r_name J rfl (Calls.spliced_nil ?_)))))))
  have hl' : h₀.IsList l vs.toArray := J.list P hl
  refine len_list (s := ⟨h₀, _, _, _, _⟩) hl' (by rw [List.size_toArray, hvl]; omega) ?_
  refine r_store J ?_
  intro h1 J
  refine wpAny_execs_nil ?_
  refine wpAny_execs_cons (wpAny_If (wpAny_isTrue_Compare1 (r_name J rfl (Constant_none (wpAny_is_self rfl (wpAny_truthy_bool ?_))))))
  rw [if_pos rfl]
  refine wpAny_execs_cons (wpAny_While ?_)
  have hsz : vs.toArray.size = xs.length := by rw [List.size_toArray, hvl]
  rw [hsz] at J
  have J0 := J.has (l' := [(n_lo, .int 0 _), (n_hi, .int xs.length _), (n_key, .none), (n_x, .int x t), (n_a, .ref l)]) fun m H => H.c rfl (H.c rfl (H.c rfl (H.c rfl (H.c rfl .n))))
  refine codeAny_whileLoop (fun n s' => ∃ h' tk lo hi u1 u2, s' = ⟨h', s.gens, s.drawn, tk, s.os⟩ ∧ n = (hi - lo).toNat ∧ Bis xs x lo hi ∧ In w s.heap s.heap.objs.size [(n_lo, .int lo u1), (n_hi, .int hi u2), (n_key, .none), (n_x, .int x t), (n_a, .ref l)] [] h') ?_ _ ⟨h1, _, 0, xs.length, _, _, rfl, rfl, ⟨by omega, by omega, by omega, fun i h => by omega, fun i h h' => by omega⟩, J0⟩
  · rintro n _ ⟨h', tk, lo, hi', u1, u2, rfl, rfl, B, J⟩
    refine wpAny_isTrue_Compare1 (r_name J rfl (r_name J rfl (lt_int (wpAny_truthy_bool ?_))))
    refine split_dec (fun hlt => ?_) (fun hge => ?_)
    · refine wpAny_execs_cons (wpAny_Assign_Name (wpAny_BinOp (wpAny_BinOp (r_name J rfl (r_name J rfl (add_int (wpAny_Constant_int (floordiv_int (by decide) ?_ ))))))))
      refine r_store J ?_
      intro h2 J
      have hm : Int.fdiv (lo + hi') 2 = (lo + hi') / 2 := by rw [Int.fdiv_eq_ediv_of_nonneg]; decide
      have b1 := B.lo0; have b2 := B.le; have b3 := B.top
      generalize hmid : Int.fdiv (lo + hi') 2 = mid at *
      have m1 : lo ≤ mid := by omega
      have m2 : mid < hi' := by omega
      have hl2 : h2.IsList l vs.toArray := J.list P hl
      have hmn : mid.toNat < xs.length := by omega
      obtain ⟨tm, em⟩ := ints_get hi hmn
      refine wpAny_execs_cons (wpAny_If (wpAny_isTrue_Compare1 (r_name J rfl (Subscript_ (r_name J rfl (r_name J rfl (item_list hl2 (by omega) (by omega) (by simpa using em) (lt_int (wpAny_truthy_bool ?_)))))))))
      refine split_dec (fun hx => ?_) (fun hx => ?_)
      · refine wpAny_execs_cons (wpAny_Assign_Name (r_name J rfl (r_store J ?_)))
        intro h3 J
        refine wpAny_execs_nil (wpAny_execs_nil ⟨_, ?_, h3, _, lo, mid, _, _, rfl, rfl, ⟨b1, m1, by omega, B.below, fun i hi1 hi2 => ?_⟩, J.has fun m H => H.c rfl (H.c rfl (H.c rfl (H.c rfl (H.c rfl .n))))⟩)
        · omega
        · exact Int.lt_of_lt_of_le hx (hs mid.toNat i (by omega) hi2)
      · refine wpAny_execs_cons (wpAny_Assign_Name (wpAny_BinOp (r_name J rfl (wpAny_Constant_int (add_int (r_store J ?_))))))
        intro h3 J
        refine wpAny_execs_nil (wpAny_execs_nil ⟨_, ?_, h3, _, mid + 1, hi', _, _, rfl, rfl, ⟨by omega, by omega, by omega, fun i hi1 => ?_, B.above⟩, J.has fun m H => H.c rfl (H.c rfl (H.c rfl (H.c rfl (H.c rfl .n))))⟩)
        · omega
        · exact Int.le_trans (hs i mid.toNat (by omega) hmn) (Int.not_lt.mp hx)
    · refine wpAny_execs_nil (wpAny_execs_nil (wpAny_execs_cons (wpAny_Return_some (r_name J rfl ?_))))
      have e : hi' = lo := by have := B.le; omega
      subst e
      exact h _ _ _ _ J.keep J.lp B
end Mine
#print axioms Mine.bisect_spec
end
section
open PySem PySem.W PySem.W.X PyProof.Rows
set_option maxRecDepth 100000
set_option Elab.async false
namespace Mine
theorem In.after {w : World} {h₀ h h' : Heap} {L : Addr} {l l' : List (Str × Value)} {own : List (Addr × Obj)} {m' : Str → Option Value} (J : In w h₀ L l own h)
    (k : ∀ b o, b ≠ L → h.get? b = some o → h'.get? b = some o) (hn : h'.Ns L m') (H : Has m' l') : In w h₀ L l' own h' := by
  refine ⟨?_, ⟨m', hn, H⟩, fun b o n1 n2 e => k b o (Nat.ne_of_lt (Nat.lt_of_lt_of_le (Heap.lt_size e) J.fresh)) (J.keep b o n1 n2 e), J.fresh, J.low, fun p hp => ⟨k _ _ (J.own p hp).2.1 (J.own p hp).1, (J.own p hp).2⟩⟩
  obtain ⟨m, ⟨o, es, ep, ho, hd, _⟩, _⟩ := J.ns
  exact J.lp.but ho (fun vs => by rw [hd]; exact fun z => nomatch z) J.low k
theorem In.more {w : World} {h₀ h : Heap} {L : Addr} {l : List (Str × Value)} {own : List (Addr × Obj)} {a : Addr} {o : Obj} (J : In w h₀ L l own h) (e : h.get? a = some o) (hL : a ≠ L) (hl : a ≠ 47 ∧ a ≠ 54) : In w h₀ L l ((a, o) :: own) h :=
  ⟨J.lp, J.ns, J.keep, J.fresh, J.low, fun p hp => by
    rcases List.mem_cons.mp hp with rfl | hp
    · exact ⟨e, hL, hl⟩
    · exact J.own p hp⟩
theorem LP.fresh {w : World} {h : Heap} (P : LP w h) {D : Addr} (e : h.get? D = none) : D ≠ 47 ∧ D ≠ 54 := by
  obtain ⟨_, a, _⟩ := P.t47
  obtain ⟨_, b, _⟩ := P.t54
  exact ⟨fun q => by subst q; simp [e] at a, fun q => by subst q; simp [e] at b⟩
/-- an activation seen for reading alone -/
theorem In.read {w : World} {h : Heap} {L : Addr} {l : List (Str × Value)} {own : List (Addr × Obj)} {m : Str → Option Value} (P : LP w h) (hn : h.Ns L m) (H : Has m l) (hl : 138 ≤ L) (ho : ∀ p ∈ own, h.get? p.1 = some p.2 ∧ p.1 ≠ L ∧ p.1 ≠ 47 ∧ p.1 ≠ 54) : In w {} L l own h :=
  ⟨P, ⟨m, hn, H⟩, fun b o _ _ e => by simp [Heap.get?] at e, Nat.zero_le _, hl, ho⟩
section
variable {w : World} {A : Around} {E : Value → Shared → Prop} {s : Shared}
theorem r_sum {l : Addr} {vs : List Value} {xs : List Int} {Q : Value → Shared → Prop} (hh : A.handled = none) (hl : s.heap.IsList l vs.toArray) (hi : IntsAre vs xs)
    (h : ∀ h' tk t', (∀ b o, s.heap.get? b = some o → h'.get? b = some o) → Q (.int xs.sum t') { s with heap := h', toks := tk }) : wpAny (model pg w) A (call (.builtin "sum") [.ref l]) Q E s := by
  obtain ⟨ys, hx⟩ := hi.allInts.items
  have hl' : s.heap.IsList l (intItems ys) := hx ▸ hl
  refine sum_intListG hh hl' fun h' tk t' hk => ?_
  have e1 : xs = ys.toList.map (·.1) := by
    rw [← nums_intItems, ← hx]
    exact (show numsOf vs.toArray.toList = xs from hi.numsOf).symm
  have e2 : preSum (numAt ys) ys.size = xs.sum := by
    rw [preSum_eq, List.take_of_length_le (by simp), e1]
  rw [e2]
  exact h h' tk t' hk
/-- a range from nought, iterated -/
theorem r_range1 {n : Int} {t : Tok} {K : Value → Shared → Prop} (hn0 : 0 ≤ n) (hn1 : n < 2 ^ 62)
    (h : ∀ h' tk, (∀ b o, s.heap.get? b = some o → h'.get? b = some o) → IsRangeIter h' (s.heap.objs.size + 1) 0 n 1 →
      K (.ref (s.heap.objs.size + 1)) { s with heap := h', toks := tk }) :
    wpAny (model pg w) A (call (.type "range") [.int n t]) (fun xv s₁ => wpAny (model pg w) A (pyIter xv) K E s₁) E s := by
  refine call_range_1 ?_
  refine wpAny_pyIter_range (IsRange.new ..) (small_one (by decide) (by decide) (by omega) hn1) ?_
  have hsz : Builtin.Range.rangeSize 0 n 1 = n := by rw [rangeSize_one]; split <;> omega
  rw [hsz]
  have hz : (s.heap.push { cls := .type "range", data := .fields #[.int 0 s.toks, .int n t, .int 1 (s.toks + 1)] }).objs.size = s.heap.objs.size + 1 := Heap.size_push ..
  have := h ((s.heap.push { cls := .type "range", data := .fields #[.int 0 s.toks, .int n t, .int 1 (s.toks + 1)] }).push { cls := .type "range_iterator", data := .fields #[rawInt 0, rawInt n, rawInt 1] }) (s.toks + 1 + 1)
    (fun b o e => Heap.get?_push_of_some _ (Heap.get?_push_of_some _ e)) (by rw [← hz]; exact Heap.get?_push_size _ rfl)
  rw [← hz] at this
  exact this
end
end Mine
namespace Mine
section
variable {w : World} {A : Around} {E : Value → Shared → Prop} {s : Shared}
/-- a slice of a list up to a place: the slice object lies at the heap's end -/
theorem r_upto {value slice : Expr} {l : Addr} {vs : List Value} {xs : List Int} {n : Int} {u : Tok} {Q : Value → Shared → Prop} (hl : s.heap.IsList l vs.toArray) (hi : IntsAre vs xs) (h0 : 0 ≤ n) (h1 : n ≤ xs.length) (hsz : xs.length ≤ 1000)
    (h : ∀ a h' ws, (∀ b o, s.heap.get? b = some o → h'.get? b = some o) → h'.IsList a ws.toArray → IntsAre ws (xs.take n.toNat) → Q (.ref a) { s with heap := h' })
    (hs : subscripted slice false (.ref l) (.ref s.heap.objs.size) = operate [.ref s.heap.objs.size, .ref l] (getItem (.ref l) (.ref s.heap.objs.size)) := by with_unfolding_all rfl)
    (ht : ∀ r, letTemporaryGo value (.ref l) r = pure () := by intro _; with_unfolding_all rfl) :
    wpAny (model pg w) A (subscriptTail value slice (.ref l) (.ref s.heap.objs.size)) Q E { s with heap := s.heap.push { cls := .type "slice", data := .fields #[.none, .int n u, .none] } } := by
  refine subscriptTail_ops (Heap.IsList.typeIs (s := { s with heap := s.heap.push { cls := .type "slice", data := .fields #[.none, .int n u, .none] } }) (hl.push _)) list_getitem_lookup
    (wpAny_getItem_list_slice (hl.push _) (Heap.IsSliceOf.new ..) .none (.int _ _) .none (by simp) ?_ (by rw [List.size_toArray, IntsAre.length hi, sizeLine_eq]; omega)) hs ht
  refine h _ _ (slicePick vs.toArray none (some n) none).toList (fun b o e => Heap.get?_push_of_some _ (Heap.get?_push_of_some _ e)) ?_ (slice_ints_upto hi h0 h1)
  exact ⟨_, Heap.get?_push_size _ rfl, rfl, _, rfl⟩
end
end Mine
namespace Mine
theorem walks_lt {prog : Program} {w : World} {A : Around} {I : Addr} {fp wr : List Addr} {n : Nat} {P : Nat → Value → Prop} {St : Nat → Heap → Prop} (W : Walks prog w A I fp wr n P St) : Walks prog w A I fp wr n (fun i v => i < n ∧ P i v) St where
  sub := W.sub
  frame := W.frame
  item := fun i s Q E hi st hQ => W.item i s Q E hi st fun v h' tk p => hQ v h' tk ⟨hi, p⟩
  done := W.done
  self := W.self
end Mine
namespace Mine
section
variable {w : World} {A : Around} {E : Value → Shared → Prop} {h₀ : Heap} {s : Shared} {L : Addr} {l : List (Str × Value)} {own : List (Addr × Obj)}
theorem r_list {vs : List Value} {Q : Value → Shared → Prop} (J : In w h₀ L l own s.heap) (hsz : vs.length ≤ sizeLine)
    (h : ∀ h', In w h₀ L l ((s.heap.objs.size, { cls := .type "list", data := .seq vs.toArray }) :: own) h' → h' = s.heap.push { cls := .type "list", data := .seq vs.toArray } → Q (.ref s.heap.objs.size) { s with heap := h' }) :
    wpAny (model pg w) A (newList vs) Q E s := wpAny_newList (h _ (J.push rfl) rfl) hsz
theorem r_tuple {vs : List Value} {Q : Value → Shared → Prop} (J : In w h₀ L l own s.heap) (hsz : vs.length ≤ sizeLine)
    (h : ∀ h', In w h₀ L l ((s.heap.objs.size, { cls := .type "tuple", data := .seq vs.toArray }) :: own) h' → h' = s.heap.push { cls := .type "tuple", data := .seq vs.toArray } → Q (.ref s.heap.objs.size) { s with heap := h' }) :
    wpAny (model pg w) A (newTuple vs) Q E s := wpAny_newTuple (h _ (J.push rfl) rfl) hsz
end
end Mine
namespace Mine
/-! ## the rules with the state laid flat -/
section
variable {w : World} {A : Around} {E : Value → Shared → Prop} {h₀ hp : Heap} {g : Array GenState} {d : Drawn} {tk : Nat} {os : OsState} {L : Addr} {l : List (Str × Value)} {own : List (Addr × Obj)} {env : Env} {Q : Value → Shared → Prop} {a b : Int} {t u : Tok}
theorem f_int {i : Int} {k : Nat} {pos : Pos} (h : Q (.int i tk) ⟨hp, g, d, tk + 1, os⟩) : wpAny (model pg w) A (eval (.Constant (.int i) k pos) env) Q E ⟨hp, g, d, tk, os⟩ := wpAny_Constant_int h
theorem f_strc {x : Str} {k : Nat} {pos : Pos} (h : Q (.str x tk) ⟨hp, g, d, tk + 1, os⟩) : wpAny (model pg w) A (eval (.Constant (.str x) k pos) env) Q E ⟨hp, g, d, tk, os⟩ := Calls.Constant_str h
theorem f_add (h : Q (.int (a + b) tk) ⟨hp, g, d, tk + 1, os⟩) : wpAny (model pg w) A (binaryOp .Add (.int a t) (.int b u)) Q E ⟨hp, g, d, tk, os⟩ := PyProof.Rows.add_int h
theorem f_sub (h : Q (.int (a - b) tk) ⟨hp, g, d, tk + 1, os⟩) : wpAny (model pg w) A (binaryOp .Sub (.int a t) (.int b u)) Q E ⟨hp, g, d, tk, os⟩ := PyProof.Rows.sub_int h
theorem f_mul (hm : IntMulOk a b) (h : Q (.int (a * b) tk) ⟨hp, g, d, tk + 1, os⟩) : wpAny (model pg w) A (binaryOp .Mult (.int a t) (.int b u)) Q E ⟨hp, g, d, tk, os⟩ := PyProof.Rows.mul_int h hm
theorem f_fdiv (hb : b ≠ 0) (hl : Builtin.divisionGoesByPylong a b = false) (h : Q (.int (a.fdiv b) tk) ⟨hp, g, d, tk + 1, os⟩) : wpAny (model pg w) A (binaryOp .FloorDiv (.int a t) (.int b u)) Q E ⟨hp, g, d, tk, os⟩ := PyProof.Rows.floordiv_int hb h (.inl hl)
theorem f_mod (hb : b ≠ 0) (h : Q (.int (a.fmod b) tk) ⟨hp, g, d, tk + 1, os⟩) : wpAny (model pg w) A (binaryOp .Mod (.int a t) (.int b u)) Q E ⟨hp, g, d, tk, os⟩ := PyProof.Rows.mod_int hb h
theorem f_iadd (h : Q (.int (a + b) tk) ⟨hp, g, d, tk + 1, os⟩) : wpAny (model pg w) A (inplaceOp .Add (.int a t) (.int b u)) Q E ⟨hp, g, d, tk, os⟩ := PyProof.Rows.iadd_int h
theorem f_isub (h : Q (.int (a - b) tk) ⟨hp, g, d, tk + 1, os⟩) : wpAny (model pg w) A (inplaceOp .Sub (.int a t) (.int b u)) Q E ⟨hp, g, d, tk, os⟩ := PyProof.Rows.isub_int h
theorem f_len {l : Addr} {vs : List Value} {n : Nat} (hl : hp.IsList l vs.toArray) (hn : vs.length = n) (hs : n < 1000000) (h : ∀ tk', Q (.int n (tk + 1)) ⟨hp, g, d, tk', os⟩) : wpAny (model pg w) A (call (.builtin "len") [.ref l]) Q E ⟨hp, g, d, tk, os⟩ := by
  refine len_list (s := ⟨hp, g, d, tk, os⟩) hl (by rw [List.size_toArray, hn]; omega) ?_
  rw [List.size_toArray, hn]
  exact h _
theorem f_lens {x : Str} (hs : x.cps.size < 1000000) (h : ∀ tk', Q (.int x.cps.size (tk + 1)) ⟨hp, g, d, tk', os⟩) : wpAny (model pg w) A (call (.builtin "len") [.str x t]) Q E ⟨hp, g, d, tk, os⟩ :=
  PyProof.Rows.len_str (by show ¬ (x.cps.size : Int) ≥ _; omega) (h _)
/-- an item of a list of ints -/
theorem f_item {value slice : Expr} {a : Addr} {vs : List Value} {xs : List Int} {n : Nat} {k : Int} {u : Tok} (hl : hp.IsList a vs.toArray) (hi : IntsAre vs xs) (hk : k = n) (hn : n < xs.length) (hz : xs.length < 1000000)
    (h : ∀ t, Q (.int (xs.getD n 0) t) ⟨hp, g, d, tk, os⟩)
    (hs : subscripted slice false (.ref a) (.int k u) = operate [.ref a, .int k u] (getItem (.ref a) (.int k u)) := by with_unfolding_all rfl) (hg : ∀ r, letTemporaryGo value (.ref a) r = pure () := by intro _; with_unfolding_all rfl) :
    wpAny (model pg w) A (subscriptTail value slice (.ref a) (.int k u)) Q E ⟨hp, g, d, tk, os⟩ := by
  obtain ⟨te, ee⟩ := ints_get hi hn
  subst hk
  exact item_list (s := ⟨hp, g, d, tk, os⟩) hl (by omega) (by omega) (x := .int (xs.getD n 0) te) (by simpa using ee) (h te) hs hg
theorem seqIndex_at {i : Int} {n : Nat} (h0 : 0 ≤ i) (h1 : i < n) : seqIndex? i n = some i.toNat := by
  unfold seqIndex?
  have e : (if i < 0 then i + (n : Int) else i) = i := if_neg (by omega)
  simp only [e]
  rw [if_pos (by simp; omega)]
/-- a sign of a text -/
theorem f_sign {value slice : Expr} {x : Str} {n : Nat} {k : Int} {u : Tok} (hk : k = n) (hn : n < x.cps.size) (hz : x.cps.size < 1000000)
    (h : Q (.str ⟨#[x.cps.toList.getD n 0]⟩ tk) ⟨hp, g, d, tk + 1, os⟩)
    (hs : subscripted slice false (.str x t) (.int k u) = operate [.str x t, .int k u] (getItem (.str x t) (.int k u)) := by with_unfolding_all rfl) :
    wpAny (model pg w) A (subscriptTail value slice (.str x t) (.int k u)) Q E ⟨hp, g, d, tk, os⟩ := by
  subst hk
  refine tail_any (typeIs_str _ _ _) slot_str_getitem.lookup (getItem_str (c := x.cps.toList.getD n 0) ?_ ?_ h) hs
  · simp; omega
  · rw [seqIndex_at (n := x.length) (by omega) (show ((n : Nat) : Int) < (x.cps.size : Int) by omega)]
    simp only [Option.bind_some, Int.toNat_natCast]
    rw [← Array.getElem?_toList, List.getD_eq_getElem?_getD, List.getElem?_eq_getElem (by rw [Array.length_toList]; omega)]
    rfl
theorem f_iadds {x y : Str} (hsz : x.cps.size + y.cps.size ≤ 1000000) (h : ∀ t' tk', Q (.str (x ++ y) t') ⟨hp, g, d, tk', os⟩) : wpAny (model pg w) A (inplaceOp .Add (.str x t) (.str y u)) Q E ⟨hp, g, d, tk, os⟩ :=
  PyProof.Rows.iadd_str h (by show x.cps.size + y.cps.size ≤ _; rw [sizeLine_eq]; omega)
theorem f_store {x : Str} {v : Value} {Q : Unit → Shared → Prop} (J : In w h₀ L l own hp) (h : ∀ h', In w h₀ L ((x, v) :: l) own h' → Q () ⟨h', g, d, tk + 1, os⟩)
    (hl : env.kindOf x = some .local := by rfl) (hL : env.locals = L := by rfl) (hp' : (env.scope.kind == .class || (env.scope.kind == .module && env.locals != env.globals)) = false := by rfl) :
    wpAny (model pg w) A (storeName env x v) Q E ⟨hp, g, d, tk, os⟩ := r_store (s := ⟨hp, g, d, tk, os⟩) J h hl hL hp'
theorem f_list {vs : List Value} (J : In w h₀ L l own hp) (hsz : vs.length ≤ 1000000) (h : ∀ h' a, In w h₀ L l ((a, { cls := .type "list", data := .seq vs.toArray }) :: own) h' → Q (.ref a) ⟨h', g, d, tk, os⟩) :
    wpAny (model pg w) A (newList vs) Q E ⟨hp, g, d, tk, os⟩ := wpAny_newList (h _ _ (J.push rfl)) (by rw [sizeLine_eq]; omega)
theorem f_tuple {vs : List Value} (J : In w h₀ L l own hp) (hsz : vs.length ≤ 1000000) (h : ∀ h' a, In w h₀ L l ((a, { cls := .type "tuple", data := .seq vs.toArray }) :: own) h' → Q (.ref a) ⟨h', g, d, tk, os⟩) :
    wpAny (model pg w) A (newTuple vs) Q E ⟨hp, g, d, tk, os⟩ := wpAny_newTuple (h _ _ (J.push rfl)) (by rw [sizeLine_eq]; omega)
theorem f_sum {a : Addr} {vs : List Value} {xs : List Int} (hh : A.handled = none) (hl : hp.IsList a vs.toArray) (hi : IntsAre vs xs)
    (h : ∀ h' tk' t', (∀ b o, hp.get? b = some o → h'.get? b = some o) → Q (.int xs.sum t') ⟨h', g, d, tk', os⟩) : wpAny (model pg w) A (call (.builtin "sum") [.ref a]) Q E ⟨hp, g, d, tk, os⟩ := r_sum hh hl hi h
end
noncomputable def fdOf (o : Obj) : FuncData := match o.data with | .func fd => fd | _ => default
noncomputable def bdOf (o : Obj) : List Stmt := match (fdOf o).body with | .stmts b => b | _ => []
/-- a call of a def of the text by its name -/
theorem f_callee {w : World} {A : Around} {E : Value → Shared → Prop} {s : Shared} {env : Env} {Q : Value → Shared → Prop} {pos : Pos} {f : Addr} {o : Obj} {fd : FuncData} {e : Expr} {rest : List Expr} (hdat : o.data = .func fd)
    (h : wpAny (model pg w) A (spliced (backTo pos (starEach (e :: rest) env))) (fun vs s₁ => s₁.heap.get? f = some o ∧ wpAny (model pg w) A (call (.ref f) vs) Q E s₁) E s)
    (he : starEach (e :: rest) env = (false, eval e env) :: starEach rest env := by rfl) : wpAny (model pg w) A (callWith pos (.ref f) [] (backTo pos (starEach (e :: rest) env)) []) Q E s := PyProof.Rows.callWith_def hdat h he
/-- the place of a while in a body -/
noncomputable def whT : List Stmt → Expr
  | [] => default
  | .While t _ _ _ :: _ => t
  | _ :: r => whT r
noncomputable def whB : List Stmt → List Stmt
  | [] => []
  | .While _ b _ _ :: _ => b
  | _ :: r => whB r
end Mine
end
section
namespace Mine
/-- a sign of a text: an end, a dot, a letter -/
inductive Tk where
  | e
  | d
  | l (i : Nat)
/-- how many texts go on: the two tables and their rule -/
structure Good (H M : List Int) (k : Nat) : Prop where
  lh : H.length = 8
  lm : M.length = 8
  k2 : k ≤ 2
  h0 : H.getD 0 0 = 1
  m0 : M.getD 0 0 = 1
  hrec : ∀ n, n < 7 → H.getD (n + 1) 0 = (if 0 < n then H.getD (n - 1) 0 else 0) + (if 1 ≤ n then M.getD (n - 1) 0 else 0) + k * M.getD n 0
  mrec : ∀ n, n < 7 → M.getD (n + 1) 0 = (if 0 < n then H.getD (n - 1) 0 else 0) + M.getD n 0 + k * M.getD n 0
  hnn : ∀ n, n ≤ 7 → 0 ≤ H.getD n 0
  mpos : ∀ n, n ≤ 7 → 1 ≤ M.getD n 0
  msm : ∀ n, n ≤ 7 → M.getD n 0 < 100000
/-- how many go on from here (true: at a row's beginning) -/
def cnt (H M : List Int) (b : Bool) (n : Nat) : Int := if b then H.getD n 0 else M.getD n 0
def cst (b : Bool) : Nat := if b then 2 else 1
def eds (H : List Int) (n : Nat) : Int := if 1 < n then H.getD (n - 2) 0 else 0
def dts (M : List Int) (b : Bool) (n : Nat) : Int := if cst b ≤ n then M.getD (n - cst b) 0 else 0
/-- the signs of the text at a place -/
def toks (H M : List Int) : Nat → Bool → Nat → Int → List Tk
  | 0, _, _, _ => []
  | f + 1, b, n, r =>
    if n = 0 then []
    else if r < eds H n then .e :: toks H M f true (n - 2) r
    else if r < eds H n + dts M b n then .d :: toks H M f false (n - cst b) (r - eds H n)
    else .l ((r - eds H n - dts M b n) / M.getD (n - 1) 0).toNat :: toks H M f false (n - 1) ((r - eds H n - dts M b n) % M.getD (n - 1) 0)
theorem cnt_succ {H M : List Int} {k : Nat} (G : Good H M k) (b : Bool) {n : Nat} (h1 : 0 < n) (h7 : n ≤ 7) : cnt H M b n = eds H n + dts M b n + k * M.getD (n - 1) 0 := by
  obtain ⟨n, rfl⟩ : ∃ m, n = m + 1 := ⟨n - 1, by omega⟩
  have e1 := G.hrec n (by omega)
  have e2 := G.mrec n (by omega)
  cases b with
  | true =>
    simp only [cnt, eds, dts, cst, if_true]
    rw [e1]
    have : n + 1 - 2 = n - 1 := by omega
    rw [this]
    simp only [Nat.add_sub_cancel]
    by_cases h : 0 < n
    · rw [if_pos h, if_pos (by omega), if_pos (by omega : 1 < n + 1), if_pos (by omega : 2 ≤ n + 1)]
    · rw [if_neg h, if_neg (by omega), if_neg (by omega : ¬ 1 < n + 1), if_neg (by omega : ¬ 2 ≤ n + 1)]
  | false =>
    simp only [cnt, eds, dts, cst, Bool.false_eq_true, if_false]
    rw [e2]
    have : n + 1 - 2 = n - 1 := by omega
    rw [this]
    simp only [Nat.add_sub_cancel]
    by_cases h : 0 < n
    · rw [if_pos h, if_pos (by omega : 1 < n + 1), if_pos (by omega : 1 ≤ n + 1)]
    · rw [if_neg h, if_neg (by omega : ¬ 1 < n + 1), if_pos (by omega : 1 ≤ n + 1)]
theorem eds_nn {H M : List Int} {k : Nat} (G : Good H M k) {n : Nat} (h7 : n ≤ 7) : 0 ≤ eds H n := by
  unfold eds; split
  · exact G.hnn _ (by omega)
  · omega
theorem dts_nn {H M : List Int} {k : Nat} (G : Good H M k) (b : Bool) {n : Nat} (h7 : n ≤ 7) : 0 ≤ dts M b n := by
  unfold dts; split
  · have := G.mpos (n - cst b) (by omega); omega
  · omega
/-- an end: a row begins, two signs are sent -/
theorem step_e {H M : List Int} {k : Nat} (G : Good H M k) {n : Nat} {r : Int} (h0 : 0 ≤ r) (h : r < eds H n) : 2 ≤ n ∧ r < cnt H M true (n - 2) := by
  unfold eds at h
  split at h
  · exact ⟨by omega, by simpa [cnt] using h⟩
  · omega
theorem step_d {H M : List Int} {k : Nat} (G : Good H M k) {b : Bool} {n : Nat} {r : Int} (h1 : ¬ r < eds H n) (h : r < eds H n + dts M b n) : cst b ≤ n ∧ 0 ≤ r - eds H n ∧ r - eds H n < cnt H M false (n - cst b) := by
  unfold dts at h
  split at h
  · exact ⟨by assumption, by omega, by simp only [cnt, Bool.false_eq_true, if_false]; omega⟩
  · omega
theorem step_l {H M : List Int} {k : Nat} (G : Good H M k) {b : Bool} {n : Nat} {r : Int} (hn : 0 < n) (h7 : n ≤ 7) (hc : r < cnt H M b n) (h : ¬ r < eds H n + dts M b n) :
    0 ≤ r - eds H n - dts M b n ∧ 0 ≤ (r - eds H n - dts M b n) / M.getD (n - 1) 0 ∧ (r - eds H n - dts M b n) / M.getD (n - 1) 0 < k ∧ 0 ≤ (r - eds H n - dts M b n) % M.getD (n - 1) 0 ∧ (r - eds H n - dts M b n) % M.getD (n - 1) 0 < cnt H M false (n - 1) := by
  rw [cnt_succ G b hn h7] at hc
  have hm := G.mpos (n - 1) (by omega)
  generalize hx : r - eds H n - dts M b n = x
  have x0 : 0 ≤ x := by omega
  refine ⟨x0, Int.ediv_nonneg x0 (by omega), ?_, Int.emod_nonneg _ (by omega), ?_⟩
  · exact Int.ediv_lt_of_lt_mul (by omega) (by omega)
  · simp only [cnt, Bool.false_eq_true, if_false]
    exact Int.emod_lt_of_pos _ (by omega)
end Mine
namespace Mine
theorem toks_fuel (H M : List Int) : ∀ (n f f' : Nat) (b : Bool) (r : Int), n ≤ f → n ≤ f' → toks H M f b n r = toks H M f' b n r := by
  intro n
  induction n using Nat.strongRecOn with
  | ind n ih =>
    intro f f' b r h h'
    cases f with
    | zero =>
      cases f' with
      | zero => rfl
      | succ f' => obtain rfl : n = 0 := by omega
                   simp [toks]
    | succ f =>
      cases f' with
      | zero => obtain rfl : n = 0 := by omega
                simp [toks]
      | succ f' =>
        unfold toks
        by_cases h0 : n = 0
        · simp [h0]
        · rw [if_neg h0, if_neg h0]
          have c1 : 1 ≤ cst b := by unfold cst; split <;> omega
          split
          · rw [ih (n - 2) (by omega) f f' true r (by omega) (by omega)]
          · split
            · rw [ih (n - cst b) (by omega) f f' false _ (by omega) (by omega)]
            · rw [ih (n - 1) (by omega) f f' false _ (by omega) (by omega)]
/-- the texts that are sent in fewer signs -/
def pre (H : List Int) (n : Nat) : Int := (H.take n).sum
theorem take_sum_succ (H : List Int) : ∀ n, n < H.length → (H.take (n + 1)).sum = (H.take n).sum + H.getD n 0 := by
  induction H with
  | nil => intro n h; simp at h
  | cons a H ih =>
    intro n h
    cases n with
    | zero => simp
    | succ n => have := ih n (by simpa using h); simp only [List.take_succ_cons, List.sum_cons, List.getD_cons_succ] at *; omega
theorem pre_succ {H M : List Int} {k : Nat} (G : Good H M k) {n : Nat} (h : n ≤ 7) : pre H (n + 1) = pre H n + H.getD n 0 := take_sum_succ H n (by rw [G.lh]; omega)
theorem pre_mono {H M : List Int} {k : Nat} (G : Good H M k) {n : Nat} : ∀ {m : Nat}, n ≤ m → m ≤ 8 → pre H n ≤ pre H m
  | 0, h, _ => by obtain rfl : n = 0 := by omega
                  exact Int.le_refl _
  | m + 1, h, h8 => by
    by_cases e : n = m + 1
    · subst e; exact Int.le_refl _
    · have := pre_mono G (n := n) (m := m) (by omega) (by omega)
      rw [pre_succ G (by omega)]
      have := G.hnn m (by omega)
      omega
end Mine
namespace Mine
theorem toks_z (H M : List Int) (b : Bool) (r : Int) : toks H M 8 b 0 r = [] := by simp [toks]
theorem toks_e {H M : List Int} {b : Bool} {n : Nat} {r : Int} (hn : 0 < n) (h7 : n ≤ 7) (h : r < eds H n) : toks H M 8 b n r = .e :: toks H M 8 true (n - 2) r := by
  rw [toks, if_neg (by omega), if_pos h, toks_fuel H M (n - 2) 7 8 true r (by omega) (by omega)]
theorem toks_d {H M : List Int} {b : Bool} {n : Nat} {r : Int} (hn : 0 < n) (h7 : n ≤ 7) (h : ¬ r < eds H n) (h' : r < eds H n + dts M b n) : toks H M 8 b n r = .d :: toks H M 8 false (n - cst b) (r - eds H n) := by
  have c1 : 1 ≤ cst b := by unfold cst; split <;> omega
  rw [toks, if_neg (by omega), if_neg h, if_pos h', toks_fuel H M (n - cst b) 7 8 false _ (by omega) (by omega)]
theorem toks_l {H M : List Int} {b : Bool} {n : Nat} {r : Int} (hn : 0 < n) (h7 : n ≤ 7) (h : ¬ r < eds H n) (h' : ¬ r < eds H n + dts M b n) :
    toks H M 8 b n r = .l ((r - eds H n - dts M b n) / M.getD (n - 1) 0).toNat :: toks H M 8 false (n - 1) ((r - eds H n - dts M b n) % M.getD (n - 1) 0) := by
  rw [toks, if_neg (by omega), if_neg h, if_neg h', toks_fuel H M (n - 1) 7 8 false _ (by omega) (by omega)]
end Mine
end
section
open PySem PySem.W PySem.W.X PyProof.Rows
set_option maxRecDepth 100000
set_option Elab.async false
namespace Mine
theorem HB.loc {kf : Str → Option NameKind} {n : Str} {v : Value} {r L : List (Str × Value)} {m : Str → Option Value} (h : kf n = some .local) (k : Has (bindL kf r (fun y => if y = n then some v else m y)) L) : Has (bindL kf ((n, v) :: r) m) L := by
  unfold bindL; rw [if_pos h]; exact k
theorem HB.cel {kf : Str → Option NameKind} {n : Str} {v : Value} {r L : List (Str × Value)} {m : Str → Option Value} (h : kf n = some .cell) (k : Has (bindL kf r m) L) : Has (bindL kf ((n, v) :: r) m) L := by
  unfold bindL; rw [if_neg (by rw [h]; decide)]; exact k
/-- the code points of a text of signs -/
def txt (en le : Str) : List Tk → List Nat
  | [] => []
  | .e :: r => en.cps.toList ++ txt en le r
  | .d :: r => 46 :: txt en le r
  | .l i :: r => le.cps.toList.getD i 0 :: txt en le r
def DivSpec (w : World) : Prop := ∀ (A : Around) (E : Value → Shared → Prop) (s : Shared) (a b : Int) (t u : Tok) (Q : Value → Shared → Prop), LP w s.heap → Rm A 30 → 0 ≤ a → a < 2 ^ 200 → 0 < b → b < 2 ^ 100 →
  (∀ p u1 u2 h' tk, Kp s.heap h' → LP w h' → IsTup h' p #[.int (a / b) u1, .int (a % b) u2] → Q (.ref p) ⟨h', s.gens, s.drawn, tk, s.os⟩) → wpAny (model pg w) A (call (.ref 73) [.int a t, .int b u]) Q E s
def sumsOf (H : List Int) (n k : Nat) : List Int := (List.range' k n).map fun i => pre H i
theorem paired_sums {H : List Int} : ∀ {vs ys : List Value} {k : Nat}, (∀ j v, vs[j]? = some v → ∃ t : Tok, v = Value.int ((k + j : Nat) : Int) t) →
    Paired (fun (v y : Value) => ∃ (n : Nat) (t u : Tok), v = .int n t ∧ y = .int (pre H n) u) vs ys → IntsAre ys (sumsOf H vs.length k)
  | [], _, _, _, .nil => .nil
  | v :: vs, _, k, hP, .cons hF hr => by
    obtain ⟨n, t, u, rfl, rfl⟩ := hF
    obtain ⟨t', e⟩ := hP 0 _ rfl
    injection e with e _
    have : n = k := by omega
    subst this
    exact .cons _ _ (paired_sums (k := n + 1) (fun j v h => by have := hP (j + 1) v (by simpa using h); rwa [show n + (j + 1) = n + 1 + j by omega] at this) hr)
theorem sumsOf_get (H : List Int) (n : Nat) {i : Nat} (h : i < n) : (sumsOf H n 0).getD i 0 = pre H i := by
  unfold sumsOf
  simp [h]
theorem tx_len (x y : Str) : (x ++ y).cps.size = x.cps.size + y.cps.size := Str.length_append x y
theorem tx_app (x y : Str) : (x ++ y).cps.toList = x.cps.toList ++ y.cps.toList := by rw [Str.cps_append, Array.toList_append]
noncomputable abbrev envT (w : World) (L : Addr) : Env := callEnvC (fdOf (hd.zo_142 w.params)) L 125
noncomputable abbrev bT (w : World) : List Stmt := whB (bdOf (hd.zo_142 w.params))
abbrev TL (w : World) (h₀ : Heap) (L : Addr) (oc : Obj) (ml : Addr) (le en : Str) (t2 t3 : Tok) (z c rest : Int) (text : Str) (u1 u2 u3 u4 : Tok) (h : Heap) : Prop :=
  In w h₀ L [(n_room, .int z u1), (n_cost, .int c u2), (n_rest, .int rest u3), (n_text, .str text u4), (n_end, .str en t3), (n_letters, .str le t2), (n_mids, .ref ml)] [(L + 1, oc)] h
set_option maxHeartbeats 2000000
/-- the while of _law_text -/
theorem text_loop {w : World} (hdiv : DivSpec w) {A : Around} (hA : Rm A 31) {h₀ : Heap} (P : LP w h₀) {L hl ml : Addr} {oc : Obj} (hdc : oc.data = .cell (some (.ref hl))) {hv mv : List Value} {H M : List Int} {le en : Str} {t2 t3 : Tok}
    (hhl : h₀.IsList hl hv.toArray) (hhi : IntsAre hv H) (hml : h₀.IsList ml mv.toArray) (hmi : IntsAre mv M) {k : Nat} (G : Good H M k) (hen : en.cps.size ≤ 2) (hle : le.cps.size = k)
    {R : Result → Shared → Prop} {fin : List Nat} {g : Array GenState} {d : Drawn} {os : OsState}
    (hend : ∀ h' tk z c rest text u1 u2 u3 u4, text.cps.toList = fin → TL w h₀ L oc ml le en t2 t3 z c rest text u1 u2 u3 u4 h' → R (.ok .next) ⟨h', g, d, tk, os⟩)
    {h : Heap} {tk n : Nat} {b : Bool} {rest : Int} {text : Str} {u1 u2 u3 u4 : Tok} (hn7 : n ≤ 7) (rs0 : 0 ≤ rest) (rs1 : rest < cnt H M b n) (htx : text.cps.toList ++ txt en le (toks H M 8 b n rest) = fin) (htz : text.cps.size + 2 * n ≤ 14)
    (J : TL w h₀ L oc ml le en t2 t3 n (cst b) rest text u1 u2 u3 u4 h) :
    codeAny (model pg w) A (.whileLoop (whT (bdOf (hd.zo_142 w.params))) (bT w) [] (envT w L)) R ⟨h, g, d, tk, os⟩ := by
  refine codeAny_whileLoop (fun n s' => ∃ h' tk b rest text z c u1 u2 u3 u4, s' = ⟨h', g, d, tk, os⟩ ∧ n ≤ 7 ∧ z = (n : Int) ∧ c = (cst b : Int) ∧ 0 ≤ rest ∧ rest < cnt H M b n ∧ text.cps.toList ++ txt en le (toks H M 8 b n rest) = fin ∧ text.cps.size + 2 * n ≤ 14 ∧
      TL w h₀ L oc ml le en t2 t3 z c rest text u1 u2 u3 u4 h') ?_ n ⟨h, tk, b, rest, text, _, _, u1, u2, u3, u4, rfl, hn7, rfl, rfl, rs0, rs1, htx, htz, J⟩
  clear J htx htz rs1 rs0 hn7 u1 u2 u3 u4 text rest b tk h n
  rintro n _ ⟨h, tk, b, rest, text, z, c, u1, u2, u3, u4, rfl, hn7, hz, hc, rs0, rs1, htx, htz, J⟩
  refine wpAny_isTrue_Compare1 (r_name J rfl (f_int (gt_int (wpAny_truthy_bool ?_))))
  refine split_dec (fun hpos => ?_) (fun hneg => ?_)
  rotate_left
  · have hn0 : n = 0 := by omega
    subst hn0
    refine wpAny_execs_nil ?_
    rw [toks_z, txt, List.append_nil] at htx
    exact hend _ _ _ _ _ _ _ _ _ _ htx J
  have hn0 : 0 < n := by omega
  refine wpAny_execs_cons (wpAny_Assign_Name (wpAny_mono (Q := fun v s₁ => ∃ u tk', v = .int (eds H n) u ∧ s₁ = ⟨h, g, d, tk', os⟩) (IfExp_ (wpAny_isTrue_Compare1 (r_name J rfl (f_int (gt_int (wpAny_truthy_bool ?_)))))) ?_ (fun _ _ e => e)))
  · refine split_dec (fun h1 => ?_) (fun h1 => ?_)
    · refine Subscript_ (r_cell J rfl (.head _) hdc (wpAny_BinOp (r_name J rfl (f_int (f_sub (f_item (n := n - 2) (J.list P hhl) hhi (by omega) (by rw [G.lh]; omega) (by rw [G.lh]; decide) ?_))))))
      exact fun t => ⟨t, _, by rw [eds, if_pos (by omega)], rfl⟩
    · exact f_int ⟨_, _, by rw [eds, if_neg (by omega)], rfl⟩
  rintro _ _ ⟨ue, tke, rfl, rfl⟩
  refine f_store J ?_
  intro h8 J
  refine wpAny_execs_cons (wpAny_Assign_Name (wpAny_mono (Q := fun v s₁ => ∃ u tk', v = .int (dts M b n) u ∧ s₁ = ⟨h8, g, d, tk', os⟩) (IfExp_ (wpAny_isTrue_Compare1 (r_name J rfl (r_name J rfl (ge_int (wpAny_truthy_bool ?_)))))) ?_ (fun _ _ e => e)))
  · have c1 : 1 ≤ cst b := by unfold cst; split <;> omega
    refine split_dec (fun h1 => ?_) (fun h1 => ?_)
    · refine Subscript_ (r_name J rfl (wpAny_BinOp (r_name J rfl (r_name J rfl (f_sub (f_item (n := n - cst b) (J.list P hml) hmi (by omega) (by rw [G.lm]; omega) (by rw [G.lm]; decide) ?_))))))
      exact fun t => ⟨t, _, by rw [dts, if_pos (by omega)], rfl⟩
    · exact f_int ⟨_, _, by rw [dts, if_neg (by omega)], rfl⟩
  rintro _ _ ⟨ud, tkd, rfl, rfl⟩
  refine f_store J ?_
  intro h9 J
  refine wpAny_execs_cons (wpAny_Assign_Name (wpAny_Call_NameR (r_glob J rfl (f_callee (o := hd.zo_105 w.params) (fd := fdOf (hd.zo_105 w.params)) rfl (Calls.spliced_cons (List_ (Calls.spliced_cons (r_name J rfl (Calls.spliced_cons (wpAny_BinOp (r_name J rfl (r_name J rfl (f_add (Calls.spliced_nil (f_list J (show (2 : Nat) ≤ 1000000 by decide) ?_)))))))))))))))
  intro h9a al J
  refine Calls.spliced_cons (r_name J rfl (Calls.spliced_nil ⟨J.lp.k 82 _ rfl, ?_⟩))
  have en0 := eds_nn G hn7
  have dn0 := dts_nn G b hn7
  refine bisect_spec J.lp hA (l := al) ⟨_, (J.own _ (.head _)).1, rfl, _, rfl⟩ (xs := [eds H n, eds H n + dts M b n]) (.cons _ _ (.cons _ _ .nil)) (by simp) ?_ ?_
  · intro i j hij hj
    have : j < 2 := by simpa using hj
    rcases (by omega : (i = 0 ∧ j = 0) ∨ (i = 0 ∧ j = 1) ∨ (i = 1 ∧ j = 1)) with ⟨rfl, rfl⟩ | ⟨rfl, rfl⟩ | ⟨rfl, rfl⟩ <;> simp <;> omega
  intro r ur h10 tk10 k10 P10 B
  have J := (J.grow k10 P10).sub (own' := [(L + 1, oc)]) (fun p hp => .tail _ hp)
  refine f_store J ?_
  intro h11 J
  have hrr : r = 0 ∨ r = 1 ∨ r = 2 := by have := B.lo0; have := B.top; simp at this; omega
  rcases hrr with rfl | rfl | rfl
  · -- an end
    have hlt : rest < eds H n := by simpa using B.above 0 (by omega) (by simp)
    obtain ⟨e2, ec⟩ := step_e G rs0 hlt
    refine wpAny_execs_cons (wpAny_If (wpAny_isTrue_Compare1 (r_name J rfl (f_int (eq_int (wpAny_truthy_bool ?_))))))
    rw [if_pos (by decide)]
    refine wpAny_execs_cons (wpAny_AugAssign_Name (r_ldn J rfl (r_name J rfl (f_iadds (by omega) fun t' tk' => f_store J ?_))))
    intro h12 J
    refine wpAny_execs_cons (wpAny_AugAssign_Name (r_ldn J rfl (f_int (f_isub (f_store J ?_)))))
    intro h13 J
    refine wpAny_execs_cons (wpAny_Assign_Name (f_int (f_store J ?_)))
    intro h14 J
    refine wpAny_execs_nil (wpAny_execs_nil ⟨n - 2, by omega, h14, _, true, rest, text ++ en, _, _, _, _, _, _, rfl, by omega, ?_, rfl, rs0, ec, ?_, ?_, J.has fun m H => H.c rfl (H.c rfl (H.c rfl (H.c rfl (H.c rfl (H.c rfl (H.c rfl .n))))))⟩)
    · omega
    · rw [← htx, toks_e hn0 hn7 hlt, txt, tx_app, List.append_assoc]
    · rw [tx_len]; omega
  · -- a dot
    have hge : ¬ rest < eds H n := by have := B.below 0 (by omega); simp at this; omega
    have hlt : rest < eds H n + dts M b n := by simpa using B.above 1 (by omega) (by simp)
    obtain ⟨e1, e2, ec⟩ := step_d G hge hlt
    have c1 : 1 ≤ cst b := by unfold cst; split <;> omega
    refine wpAny_execs_cons (wpAny_If (wpAny_isTrue_Compare1 (r_name J rfl (f_int (eq_int (wpAny_truthy_bool ?_))))))
    rw [if_neg (by decide)]
    refine wpAny_execs_cons (wpAny_If (wpAny_isTrue_Compare1 (r_name J rfl (f_int (eq_int (wpAny_truthy_bool ?_))))))
    rw [if_pos (by decide)]
    refine wpAny_execs_cons (wpAny_AugAssign_Name (r_ldn J rfl (f_strc (f_iadds (by show text.cps.size + 1 ≤ _; omega) fun t' tk' => f_store J ?_))))
    intro h12 J
    refine wpAny_execs_cons (wpAny_AugAssign_Name (r_ldn J rfl (r_name J rfl (f_isub (f_store J ?_)))))
    intro h13 J
    refine wpAny_execs_cons (wpAny_AugAssign_Name (r_ldn J rfl (r_name J rfl (f_isub (f_store J ?_)))))
    intro h14 J
    refine wpAny_execs_cons (wpAny_Assign_Name (f_int (f_store J ?_)))
    intro h15 J
    refine wpAny_execs_nil (wpAny_execs_nil (wpAny_execs_nil ⟨n - cst b, by omega, h15, _, false, rest - eds H n, text ++ ⟨#[46]⟩, _, _, _, _, _, _, rfl, by omega, ?_, rfl, e2, ec, ?_, ?_, J.has fun m H => H.c rfl (H.c rfl (H.c rfl (H.c rfl (H.c rfl (H.c rfl (H.c rfl .n))))))⟩))
    · omega
    · rw [← htx, toks_d hn0 hn7 hge hlt, txt, tx_app, List.append_assoc]; rfl
    · rw [tx_len]; show text.cps.size + 1 + _ ≤ _; omega
  · -- a letter
    have hge2 : ¬ rest < eds H n + dts M b n := by have := B.below 1 (by omega); simp at this; omega
    have hge : ¬ rest < eds H n := by omega
    obtain ⟨x0, q0, qk, m0, mc⟩ := step_l G hn0 hn7 rs1 hge2
    have hmp := G.mpos (n - 1) (by omega)
    have hms := G.msm (n - 1) (by omega)
    have hk2 := G.k2
    refine wpAny_execs_cons (wpAny_If (wpAny_isTrue_Compare1 (r_name J rfl (f_int (eq_int (wpAny_truthy_bool ?_))))))
    rw [if_neg (by decide)]
    refine wpAny_execs_cons (wpAny_If (wpAny_isTrue_Compare1 (r_name J rfl (f_int (eq_int (wpAny_truthy_bool ?_))))))
    rw [if_neg (by decide)]
    refine wpAny_execs_cons (Assign_Tuple (wpAny_Call_NameR (r_glob J rfl (f_callee (o := hd.zo_96 w.params) (fd := fdOf (hd.zo_96 w.params)) rfl (Calls.spliced_cons (wpAny_BinOp (wpAny_BinOp (r_name J rfl (r_name J rfl (f_sub (r_name J rfl (f_sub ?_))))))))))))
    refine Calls.spliced_cons (Subscript_ (r_name J rfl (wpAny_BinOp (r_name J rfl (f_int (f_sub (f_item (n := n - 1) (J.list P hml) hmi (by omega) (by rw [G.lm]; omega) (by rw [G.lm]; decide) ?_)))))))
    intro te
    refine Calls.spliced_nil ⟨J.lp.k 73 _ rfl, ?_⟩
    refine hdiv _ _ _ _ _ _ _ _ J.lp (hA.le (by decide)) x0 ?_ (by omega) (by omega) ?_
    · have : (rest - eds H n - dts M b n) < k * M.getD (n - 1) 0 := by rw [cnt_succ G b hn0 hn7] at rs1; omega
      have h2 : (k : Int) * M.getD (n - 1) 0 ≤ 2 * 100000 := Int.mul_le_mul (by omega) (by omega) (by omega) (by decide)
      exact Int.lt_of_lt_of_le this (Int.le_trans h2 (by decide))
    intro p v1 v2 h12 tk12 k12 P12 hT
    have J := J.grow k12 P12
    refine assign_Tuple_tuple hA.hd hT rfl rfl ?_
    intro h13 hx13
    have J := J.ext hx13
    clear hx13 hT k12 P12 k10 P10 B
    have htk := toks_l (H := H) (M := M) (b := b) (r := rest) hn0 hn7 hge hge2
    generalize (rest - eds H n - dts M b n) / M.getD (n - 1) 0 = qq at *
    generalize (rest - eds H n - dts M b n) % M.getD (n - 1) 0 = rr at *
    refine assignInOrder_cons (assign_Name (f_store J ?_))
    intro h14 J
    refine assignInOrder_cons (assign_Name (f_store J ?_))
    intro h15 J
    refine assignInOrder_nil ?_
    refine wpAny_execs_cons (wpAny_AugAssign_Name (r_ldn J rfl (Subscript_ (r_name J rfl (r_name J rfl (f_sign (n := qq.toNat) (by omega) (by omega) (by omega) (f_iadds (by show text.cps.size + 1 ≤ _; omega) fun t' tk' => f_store J ?_)))))))
    intro h16 J
    refine wpAny_execs_cons (wpAny_AugAssign_Name (r_ldn J rfl (f_int (f_isub (f_store J ?_)))))
    intro h17 J
    refine wpAny_execs_cons (wpAny_Assign_Name (f_int (f_store J ?_)))
    intro h18 J
    refine wpAny_execs_nil (wpAny_execs_nil (wpAny_execs_nil ⟨n - 1, by omega, h18, _, false, rr, text ++ ⟨#[le.cps.toList.getD qq.toNat 0]⟩, _, _, _, _, _, _, rfl, by omega, ?_, rfl, m0, mc, ?_, ?_, J.has fun m H => H.c rfl (H.c rfl (H.c rfl (H.c rfl (H.c rfl (H.c rfl (H.c rfl .n))))))⟩))
    · omega
    · rw [← htx, htk, txt, tx_app, List.append_assoc]; rfl
    · rw [tx_len]; show text.cps.size + 1 + _ ≤ _; omega
end Mine
end
section
open PySem PySem.W PySem.W.X PyProof.Rows
set_option maxRecDepth 100000
set_option Elab.async false
namespace Mine
set_option maxHeartbeats 2000000
theorem text_spec {w : World} (hdiv : DivSpec w) {A : Around} {E : Value → Shared → Prop} {s : Shared} (P : LP w s.heap) (hA : Rm A 32) {hl ml : Addr} {hv mv : List Value} {H M : List Int} {place : Int} {le en : Str} {t t2 t3 : Tok}
    (hhl : s.heap.IsList hl hv.toArray) (hhi : IntsAre hv H) (hml : s.heap.IsList ml mv.toArray) (hmi : IntsAre mv M) {k : Nat} (G : Good H M k) (hen : en.cps.size ≤ 2) (hle : le.cps.size = k)
    (hp0 : 0 ≤ place) (hp1 : place < pre H 8) {Q : Value → Shared → Prop}
    (h : ∀ (room : Nat) h' tk u, room ≤ 7 → pre H room ≤ place → place < pre H (room + 1) → Kp s.heap h' → LP w h' → Q (.str ⟨(txt en le (toks H M 8 true room (place - pre H room))).toArray⟩ u) ⟨h', s.gens, s.drawn, tk, s.os⟩) :
    wpAny (model pg w) A (call (.ref 125) [.int place t, .ref hl, .ref ml, .str le t2, .str en t3]) Q E s := by
  refine wpAny_call ?_
  refine codeAny_call_cells (fd := fdOf (hd.zo_142 w.params)) (body := bdOf (hd.zo_142 w.params)) (binds := [(n_place, .int place t), (n_heads, .ref hl), (n_mids, .ref ml), (n_letters, .str le t2), (n_end, .str en t3)]) hA.room (P.k 125 _ rfl) rfl P.noLimit ⟨124, _, _, _, rfl, P.k 124 _ rfl, rfl, rfl⟩ rfl rfl rfl
    (List.forall_mem_cons.mpr ⟨.inl rfl, List.forall_mem_cons.mpr ⟨.inr ⟨rfl, rfl⟩, List.forall_mem_cons.mpr ⟨.inl rfl, List.forall_mem_cons.mpr ⟨.inl rfl, List.forall_mem_cons.mpr ⟨.inl rfl, fun _ h => nomatch h⟩⟩⟩⟩⟩) (fun s₁ X => ?_)
  obtain ⟨h₁, tk, e, _⟩ := X.toInCall.done
  subst e
  obtain ⟨oc, hoc, hdc⟩ := X.cell n_heads (s.heap.objs.size + 1) rfl
  have J : In w s.heap s.heap.objs.size [(n_end, .str en t3), (n_letters, .str le t2), (n_mids, .ref ml), (n_place, .int place t)] [(s.heap.objs.size + 1, oc)] h₁ :=
    ⟨P.keeps X.toInCall.keep, ⟨_, X.toInCall.ns, HB.loc rfl (HB.cel rfl (HB.loc rfl (HB.loc rfl (HB.loc rfl (((((Has.n).put _ _).put _ _).put _ _).put _ _)))))⟩, Kp.of X.toInCall.keep, Nat.le_refl _, P.size, fun p hp => by
      rw [List.mem_singleton.mp hp]; exact ⟨hoc, Nat.ne_of_gt (Nat.lt_succ_self _), ne47 (Nat.le_succ_of_le P.size), ne54 (Nat.le_succ_of_le P.size)⟩⟩
  clear X
  have hhl1 : h₁.IsList hl hv.toArray := J.list P hhl
  have hHl : hv.length = 8 := (IntsAre.length hhi).trans G.lh
  have hMl : mv.length = 8 := (IntsAre.length hmi).trans G.lm
  have hAd := (hA.deeper (n := 31) (callEnvC (fdOf (hd.zo_142 w.params)) s.heap.objs.size 125))
  refine wpAny_execs_cons ?_
  refine wpAny_Assign_ListComp_free (fun _ => true) (fun (v y : Value) => ∃ (n : Nat) (t u : Tok), v = .int n t ∧ y = .int (pre H n) u) rfl rfl (by decide) rfl (by decide) rfl rfl rfl ?_
  refine wpAny_Call_NameR (r_built J rfl rfl (PyProof.Rows.callWith_type1 (Calls.spliced_cons (wpAny_BinOp ?_))))
  refine wpAny_Call_NameR (r_built J rfl rfl (PyProof.Rows.callWith_builtin1 (Calls.spliced_cons (r_cell J rfl (.head _) hdc (Calls.spliced_nil ?_)))))
  refine len_list (s := ⟨h₁, _, _, _, _⟩) hhl1 (by rw [List.size_toArray, hHl]; decide) ?_
  refine wpAny_Constant_int (add_int (Calls.spliced_nil ?_))
  rw [show ((hv.toArray.size : Int) + 1) = 9 by rw [List.size_toArray, hHl]; rfl]
  refine r_range1 (s := ⟨h₁, _, _, _, _⟩) (by decide) (by decide) ?_
  intro h2 tk2 k2 hI
  obtain ⟨m, hn, Hm⟩ := J.ns
  have hIne : ∀ b o, h₁.get? b = some o → b ∉ [h₁.objs.size + 1] := fun b o e hm => by
    have := List.mem_singleton.mp hm
    exact absurd (Heap.lt_size e) (by rw [this]; exact Nat.not_lt.mpr (Nat.le_succ _))
  refine ⟨h₁.objs.size + 1, [h₁.objs.size + 1], [h₁.objs.size + 1], 9, _, _, m, rfl, walks_lt (Walks.range hAd.hd _ 0 1 9), by decide, ?_, ?_, ?_, hn.keeps k2, ?_, ?_⟩
  · exact hI
  · intro b hb; rw [List.mem_singleton.mp hb]; exact Heap.lt_size hI
  · intro hm; have := List.mem_singleton.mp hm; exact absurd this (Nat.ne_of_lt (Nat.lt_succ_of_lt J.lt))
  · -- one sum
    refine ⟨fun C i v s₃ m₃ E' hC hP hn₃ hm₃ hk htk => ?_, fun C i v s₃ m₃ E' hC hP _ hn₃ hm₃ hk htk => ?_⟩
    · exact pu_any ⟨rfl, s₃.heap, s₃.toks, rfl, fun _ _ e => e⟩
    · obtain ⟨hi8, tn, rfl⟩ := hP
      have k3 : ∀ b o, h₁.get? b = some o → s₃.heap.get? b = some o := fun b o e => hk b o (hIne b o e) (k2 b o e)
      have hCl : 138 ≤ C := Nat.le_trans (J.lp.keeps k2).size hC
      have J₃ : In w {} C [(n_n, .int (0 + i * 1) tn)] [(s.heap.objs.size + 1, oc)] s₃.heap := In.read (J.lp.keeps k3) hn₃ (fun x u hx => by
        unfold lkp at hx
        split at hx
        · rename_i q; rw [sq_iff.mp q]; cases hx; exact hm₃
        · cases hx) hCl (fun p hp => by
        rw [List.mem_singleton.mp hp]
        have e := J.own _ (.head _)
        refine ⟨k3 _ _ e.1, ?_, e.2.2⟩
        exact Nat.ne_of_lt (Nat.lt_of_lt_of_le (Heap.lt_size (k2 _ _ e.1)) hC))
      refine wpAny_Call_NameR (r_built J₃ rfl rfl (PyProof.Rows.callWith_builtin1 (Calls.spliced_cons (Subscript_ (r_cell J₃ rfl (.head _) hdc (wpAny_Slice (evalPart_none_step (evalPart_some_step (r_name J₃ rfl (evalPart_none_step ?_))))))))))
      obtain ⟨oh, hoh, hch, nh, hdh⟩ := hhl1
      refine r_upto (s := s₃) ⟨oh, k3 _ _ hoh, hch, nh, hdh⟩ hhi (by omega) (by rw [G.lh]; omega) (by rw [G.lh]; decide) ?_
      intro a h4 ws k4 hl4 hi4
      refine Calls.spliced_nil (r_sum hAd.hd hl4 hi4 ?_)
      intro h5 tk5 t5 k5
      refine ⟨⟨i, tn, t5, by simp, ?_⟩, h5, tk5, rfl, fun b o e => k5 b o (k4 b o e)⟩
      simp [pre]
  · intro D h' tk3 ys vs hD hlD _ hlen hP hF hns hk
    have hF' : Paired (fun (v y : Value) => ∃ (n : Nat) (t u : Tok), v = .int n t ∧ y = .int (pre H n) u) vs ys.toList := by rw [List.filter_eq_self.mpr (fun _ _ => rfl)] at hF; exact hF
    have hS := paired_sums (k := 0) (fun j v e => by obtain ⟨_, t, e⟩ := hP j v e; exact ⟨t, by rw [e]; congr 1; omega⟩) hF'
    rw [hlen] at hS
    have hDL : D ≠ s.heap.objs.size := by
      rintro rfl
      obtain ⟨o, _, _, ho, _⟩ := hn.keeps k2
      rw [hD] at ho; cases ho
    have hDT := (J.lp.keeps k2).fresh hD
    have J := J.after (l' := (n_sums, .ref D) :: [(n_end, .str en t3), (n_letters, .str le t2), (n_mids, .ref ml), (n_place, .int place t)]) (fun b o hb e => hk b o hb (hIne b o e) (k2 b o e)) hns (Hm.put _ _)
    obtain ⟨oD, hoD, hcD, nD, hdD⟩ := hlD
    have J := J.more (a := D) hoD hDL hDT
    clear hD hns hk hF hF' hP hI Hm hn hIne k2
    refine wpAny_execs_cons (wpAny_Assign_Name (wpAny_BinOp (wpAny_Call_NameR (r_glob J rfl (PyProof.Rows.callWith_def (o := hd.zo_105 w.params) (fd := fdOf (hd.zo_105 w.params)) rfl (Calls.spliced_cons (r_name J rfl (Calls.spliced_cons (r_name J rfl (Calls.spliced_nil ⟨J.lp.k 82 _ rfl, ?_⟩))))))))))
    have hSl : (sumsOf H 9 0).length = 9 := by simp [sumsOf]
    refine bisect_spec J.lp hAd ⟨oD, hoD, hcD, nD, hdD⟩ (vs := ys.toList) (xs := sumsOf H 9 0) hS (by rw [hSl]; decide) ?_ ?_
    · intro i j hij hj
      rw [hSl] at hj
      rw [sumsOf_get H 9 (by omega), sumsOf_get H 9 (by omega)]
      exact pre_mono G hij (by omega)
    intro r ur h3 tk4 k3 P3 B
    have J := J.grow k3 P3
    have r1 : 1 ≤ r := by
      apply Int.not_lt.mp; intro hlt
      have := B.above 0 (by omega) (by rw [hSl]; decide)
      rw [sumsOf_get H 9 (by decide)] at this
      have e0 : pre H 0 = 0 := by simp [pre]
      omega
    have r8 : r ≤ 8 := by
      apply Int.not_lt.mp; intro hlt
      have := B.below 8 (by omega)
      rw [sumsOf_get H 9 (by decide)] at this
      omega
    obtain ⟨room, rfl⟩ : ∃ n : Nat, r = n + 1 := ⟨(r - 1).toNat, by omega⟩
    have hroom : room ≤ 7 := by omega
    have lo : pre H room ≤ place := by have := B.below room (by omega); rwa [sumsOf_get H 9 (by omega)] at this
    have up : place < pre H (room + 1) := by have := B.above (room + 1) (by omega) (by rw [hSl]; omega); rwa [sumsOf_get H 9 (by omega)] at this
    refine wpAny_Constant_int (sub_int (r_store J ?_))
    rw [show ((room : Int) + 1 - 1) = room by omega]
    intro h4 J
    have hl4 : h4.IsList D ys := ⟨oD, (J.own _ (.head _)).1, hcD, nD, hdD⟩
    obtain ⟨ts, es⟩ := ints_get hS (i := room) (by rw [hSl]; omega)
    rw [sumsOf_get H 9 (by omega)] at es
    refine wpAny_execs_cons (wpAny_Assign_Name (wpAny_BinOp (r_name J rfl (Subscript_ (r_name J rfl (r_name J rfl (item_list (s := ⟨h4, _, _, _, _⟩) hl4 (by omega) (by omega) (x := .int (pre H room) ts) ?_ (sub_int (r_store J ?_)))))))))
    · rw [← Array.getElem?_toList]; simpa using es
    intro h5 J
    refine wpAny_execs_cons (wpAny_Assign_Name (Calls.Constant_str (r_store J ?_)))
    intro h6 J
    refine wpAny_execs_cons (wpAny_Assign_Name (wpAny_Constant_int (r_store J ?_)))
    intro h7 J
    have J0 := (J.sub (own' := [(s.heap.objs.size + 1, oc)]) (fun p hp => .tail _ hp)).has (l' := [(n_room, .int room _), (n_cost, .int 2 _), (n_rest, .int (place - pre H room) _), (n_text, .str ⟨#[]⟩ _), (n_end, .str en t3), (n_letters, .str le t2), (n_mids, .ref ml)])
      fun m H => H.c rfl (H.c rfl (H.c rfl (H.c rfl (H.c rfl (H.c rfl (H.c rfl .n))))))
    refine wpAny_execs_cons (wpAny_While (text_loop hdiv hAd P hdc hhl hhi hml hmi G hen hle (fin := txt en le (toks H M 8 true room (place - pre H room))) (hend := ?_) (n := room) (b := true) (rest := place - pre H room) (text := ⟨#[]⟩) hroom (by omega) ?_ rfl ?_ J0))
    · intro h' tk z c rest text u1 u2 u3 u4 htx J
      refine wpAny_execs_cons (wpAny_Return_some (r_name J rfl ?_))
      have ht : text = ⟨(txt en le (toks H M 8 true room (place - pre H room))).toArray⟩ := by rw [← htx]
      rw [ht]
      exact h room _ _ _ hroom lo up J.keep J.lp
    · have := pre_succ G hroom
      simp only [cnt, if_true]
      omega
    · simp; omega
end Mine
end
section
open PySem PySem.Sre
set_option maxRecDepth 100000
set_option Elab.async false
namespace Mine
abbrev code1 : Array Nat := #[14, 4, 0, 1, 1, 6, 1, 16, 46, 1]
abbrev code2 : Array Nat := #[14, 9, 4, 1, 2, 16, 10, 16, 13, 0, 7, 7, 16, 13, 16, 10, 15, 18, 5, 16, 10, 15, 13, 11, 16, 13, 5, 5, 0, 16, 10, 1, 15, 2, 0, 1]
/-- the machine ends within n steps, and P holds of it then -/
def Ends (n : Nat) (m : M) (P : M → Prop) : Prop := ∃ k, k ≤ n ∧ (M.runFor k m).outcome.isSome = true ∧ P (M.runFor k m)
theorem Ends.step {n : Nat} {m : M} {P : M → Prop} (h0 : m.outcome = none) (h : Ends n m.step P) : Ends (n + 1) m P := by
  obtain ⟨k, a, b, c⟩ := h
  refine ⟨k + 1, by omega, ?_⟩
  unfold M.runFor
  rw [h0]
  exact ⟨b, c⟩
theorem Ends.done {n : Nat} {m : M} {P : M → Prop} (h0 : m.outcome.isSome = true) (h : P m) : Ends n m P := ⟨0, Nat.zero_le _, h0, h⟩
theorem Ends.le {n n' : Nat} {m : M} {P : M → Prop} (h : Ends n m P) (l : n ≤ n') : Ends n' m P := let ⟨k, a, b⟩ := h; ⟨k, Nat.le_trans a l, b⟩
/-- the machine of the dots -/
abbrev m1 (X : Array Nat) (lim s pc pos hn : Nat) (om : Bool) (fr : List Sre.Frame) (wt : Nat) (an : Option Bool) (sn : Seen) : M :=
  { code := code1, text := X, lim := lim, start := s, lastStart := lim, pc := pc, pos := pos, handed := hn, outermost := om, marks := #[], frames := fr, weight := wt, answer := an, seen := sn }
abbrev fr1 (s : Nat) (om : Bool) : Sre.Frame := { wait := .nextStart, pc := 5, pos := s, outermost := om }
theorem ends_one {n : Nat} {m m' : M} {P : M → Prop} (e : m.step = m') (h : Ends n m' P) (h0 : m.outcome = none := by rfl) : Ends (n + 1) m P := Ends.step h0 (e ▸ h)
theorem at1 {X : Array Nat} {lim s hn n : Nat} {om : Bool} {sn : Seen} {P : M → Prop} (hy : (s == 0 || X.getD (s - 1) 0 == 10) = true) (h : ∀ sn, Ends n (m1 X lim s 7 s hn om [fr1 s om] 1 none sn) P) :
    Ends (n + 1) (m1 X lim s 5 s hn om [fr1 s om] 1 none sn) P := by
  refine ends_one (m' := if (s == 0 || X.getD (s - 1) 0 == 10) then _ else _) rfl ?_
  rw [if_pos hy]; exact h _
theorem at1n {X : Array Nat} {lim s hn n : Nat} {om : Bool} {sn : Seen} {P : M → Prop} (hy : (s == 0 || X.getD (s - 1) 0 == 10) = false) (h : ∀ sn, Ends n (m1 X lim s 5 s hn om [fr1 s om] 1 (some false) sn) P) :
    Ends (n + 1) (m1 X lim s 5 s hn om [fr1 s om] 1 none sn) P := by
  refine ends_one (m' := if (s == 0 || X.getD (s - 1) 0 == 10) then _ else _) rfl ?_
  rw [if_neg (by rw [hy]; decide)]; exact h _
theorem dot1 {X : Array Nat} {lim s hn n : Nat} {om : Bool} {sn : Seen} {P : M → Prop} (hl : s < lim) (hy : (X.getD s 0 == 46) = true) (h : ∀ sn, Ends n (m1 X lim s 9 (s + 1) hn om [fr1 s om] 1 none sn) P) :
    Ends (n + 1) (m1 X lim s 7 s hn om [fr1 s om] 1 none sn) P := by
  refine ends_one (m' := if s ≥ lim then _ else match (Except.ok (X.getD s 0 == 46, _) : Except String (Bool × Seen)) with | .error why => _ | .ok (false, seen) => _ | .ok (true, seen) => _) rfl ?_
  rw [if_neg (by omega), hy]; exact h _
theorem dot1n {X : Array Nat} {lim s hn n : Nat} {om : Bool} {sn : Seen} {P : M → Prop} (hy : s < lim → (X.getD s 0 == 46) = false) (h : ∀ sn, Ends n (m1 X lim s 7 s hn om [fr1 s om] 1 (some false) sn) P) :
    Ends (n + 1) (m1 X lim s 7 s hn om [fr1 s om] 1 none sn) P := by
  refine ends_one (m' := if s ≥ lim then _ else match (Except.ok (X.getD s 0 == 46, _) : Except String (Bool × Seen)) with | .error why => _ | .ok (false, seen) => _ | .ok (true, seen) => _) rfl ?_
  by_cases hl : s ≥ lim
  · rw [if_pos hl]; exact h _
  · rw [if_neg hl, hy (by omega)]; exact h _
/-- a match at s -/
theorem hit1 {X : Array Nat} {lim s hn : Nat} {om : Bool} {sn : Seen} {P : M → Prop} (hl : s < lim) (hy : (s == 0 || X.getD (s - 1) 0 == 10) = true) (hd : (X.getD s 0 == 46) = true)
    (h : ∀ m : M, m.outcome = some .matched → m.start = s → m.handed = s + 1 → P m) : Ends 5 (m1 X lim s 5 s hn om [fr1 s om] 1 none sn) P := by
  refine at1 hy fun sn => dot1 hl hd fun sn => ?_
  refine ends_one (m' := m1 X lim s 9 (s + 1) (s + 1) om [fr1 s om] 1 (some true) _) (by cases om <;> rfl) ?_
  refine ends_one (m' := m1 X lim s 5 s (s + 1) om [] 0 (some true) _) rfl ?_
  refine ends_one rfl ?_
  exact Ends.done rfl (h _ rfl rfl rfl)
/-- no match at s: on to the next -/
theorem miss1 {X : Array Nat} {lim s hn n : Nat} {om : Bool} {sn : Seen} {P : M → Prop} (hy : ¬ ((s == 0 || X.getD (s - 1) 0 == 10) = true ∧ s < lim ∧ (X.getD s 0 == 46) = true))
    (h : ∀ pc sn, Ends n (m1 X lim s pc s hn om [fr1 s om] 1 (some false) sn) P) : Ends (n + 2) (m1 X lim s 5 s hn om [fr1 s om] 1 none sn) P := by
  cases h1 : (s == 0 || X.getD (s - 1) 0 == 10) with
  | false => exact (at1n h1 fun sn => h _ _).le (by omega)
  | true => exact at1 h1 fun sn => dot1n (fun hl => by cases h2 : (X.getD s 0 == 46) with | false => rfl | true => exact absurd ⟨h1, hl, h2⟩ hy) fun sn => h _ _
theorem next1 {X : Array Nat} {lim s hn n pc : Nat} {om : Bool} {sn : Seen} {P : M → Prop} (hl : s < lim) (h : ∀ sn, Ends n (m1 X lim (s + 1) 5 (s + 1) (s + 1) false [fr1 (s + 1) false] 1 none sn) P) :
    Ends (n + 1) (m1 X lim s pc s hn om [fr1 s om] 1 (some false) sn) P := by
  refine ends_one (m' := if s < lim then _ else _) rfl ?_
  rw [if_pos hl]; exact h _
theorem last1 {X : Array Nat} {lim s hn n pc : Nat} {om : Bool} {sn : Seen} {P : M → Prop} (hl : ¬ s < lim) (h : ∀ m : M, m.outcome = some .failed → P m) :
    Ends (n + 2) (m1 X lim s pc s hn om [fr1 s om] 1 (some false) sn) P := by
  refine ends_one (m' := if s < lim then _ else _) rfl ?_
  rw [if_neg hl]
  refine ends_one rfl ?_
  exact Ends.done rfl (h _ rfl)
def Hit1 (X : Array Nat) (s : Nat) : Prop := (s == 0 || X.getD (s - 1) 0 == 10) = true ∧ (X.getD s 0 == 46) = true
theorem seek1 {X : Array Nat} {lim p : Nat} {P : M → Prop} (hp : p < lim) (hh : Hit1 X p) (h : ∀ m : M, m.outcome = some .matched → m.start = p → m.handed = p + 1 → P m) :
    ∀ {j s hn : Nat} {om : Bool} {sn : Seen}, s + j = p → (∀ i, s ≤ i → i < p → ¬ Hit1 X i) → Ends (3 * j + 5) (m1 X lim s 5 s hn om [fr1 s om] 1 none sn) P
  | 0, s, hn, om, sn, e, _ => by
    obtain rfl : s = p := by omega
    exact hit1 hp hh.1 hh.2 h
  | j + 1, s, hn, om, sn, e, hno => by
    refine (miss1 (n := 3 * j + 5 + 1) (fun x => hno s (by omega) (by omega) ⟨x.1, x.2.2⟩) fun pc sn => next1 (by omega) fun sn => seek1 hp hh h (j := j) (by omega) fun i h1 h2 => hno i (by omega) h2).le (by omega)
theorem none1 {X : Array Nat} {lim : Nat} {P : M → Prop} (h : ∀ m : M, m.outcome = some .failed → P m) :
    ∀ {j s hn : Nat} {om : Bool} {sn : Seen}, s + j = lim → (∀ i, s ≤ i → i < lim → ¬ Hit1 X i) → Ends (3 * j + 5) (m1 X lim s 5 s hn om [fr1 s om] 1 none sn) P
  | 0, s, hn, om, sn, e, _ => (miss1 (fun x => by omega) fun pc sn => last1 (n := 0) (by omega) h).le (by omega)
  | j + 1, s, hn, om, sn, e, hno => by
    refine (miss1 (n := 3 * j + 5 + 1) (fun x => hno s (by omega) (by omega) ⟨x.1, x.2.2⟩) fun pc sn => next1 (by omega) fun sn => none1 h (j := j) (by omega) fun i h1 h2 => hno i (by omega) h2).le (by omega)
theorem search1 {X : Array Nat} {lim s : Nat} (hs : s < lim) : ∃ sn, forSearch code1 X 0 s lim false = m1 X lim s 5 s s true [fr1 s true] 1 none sn := by
  refine ⟨({} : Seen).add 14, ?_⟩
  have : forSearch code1 X 0 s lim false = (if (decide (s > lim) || decide (lim - s < 1)) then _ else _) := rfl
  rw [this, if_neg (by simp; omega)]
  rfl
theorem search1z {X : Array Nat} {lim s : Nat} (hs : ¬ s < lim) {P : M → Prop} (h : ∀ m : M, m.outcome = some .failed → P m) : Ends 1 (forSearch code1 X 0 s lim false) P := by
  have : forSearch code1 X 0 s lim false = (if (decide (s > lim) || decide (lim - s < 1)) then _ else _) := rfl
  rw [this, if_pos (by simp; omega)]
  refine ends_one rfl ?_
  exact Ends.done rfl (h _ rfl)
/-- the machine of the ends -/
abbrev m2 (X : Array Nat) (lim s ls pc pos hn : Nat) (om : Bool) (fr : List Sre.Frame) (wt : Nat) (an : Option Bool) (sn : Seen) : M :=
  { code := code2, text := X, lim := lim, start := s, lastStart := ls, pc := pc, pos := pos, handed := hn, outermost := om, marks := #[], frames := fr, weight := wt, answer := an, seen := sn }
abbrev fr2 (s : Nat) : Sre.Frame := { wait := .nextStart, pc := 10, pos := s, outermost := true }
abbrev br2 (s pc : Nat) : Sre.Frame := { wait := .nextBranch, pc := pc, pos := s, outermost := true }
abbrev no2 (pos : Nat) : Sre.Frame := { wait := .lookNot, pc := 26, pos := pos, outermost := true }
theorem lit2 {X : Array Nat} {lim s ls pc c pos hn n wt : Nat} {om : Bool} {fr : List Sre.Frame} {sn : Seen} {P : M → Prop} 
    (he : ∃ sn', M.step (m2 X lim s ls pc pos hn om fr wt none sn) = if pos ≥ lim then M.say (m2 X lim s ls pc pos hn om fr wt none sn') false else match (Except.ok (X.getD pos 0 == c, sn') : Except String (Bool × Seen)) with
      | .error why => M.stick (m2 X lim s ls pc pos hn om fr wt none sn') why | .ok (false, seen) => M.say (m2 X lim s ls pc pos hn om fr wt none seen) false | .ok (true, seen) => m2 X lim s ls (pc + 2) (pos + 1) hn om fr wt none seen)
    (hl : pos < lim) (hy : X.getD pos 0 = c) (h : ∀ sn, Ends n (m2 X lim s ls (pc + 2) (pos + 1) hn om fr wt none sn) P) :
    Ends (n + 1) (m2 X lim s ls pc pos hn om fr wt none sn) P := by
  obtain ⟨sn', he⟩ := he
  refine ends_one he ?_
  rw [if_neg (by omega), beq_iff_eq.mpr hy]; exact h _
theorem lit2n {X : Array Nat} {lim s ls pc c pos hn n wt : Nat} {om : Bool} {fr : List Sre.Frame} {sn : Seen} {P : M → Prop} 
    (he : ∃ sn', M.step (m2 X lim s ls pc pos hn om fr wt none sn) = if pos ≥ lim then M.say (m2 X lim s ls pc pos hn om fr wt none sn') false else match (Except.ok (X.getD pos 0 == c, sn') : Except String (Bool × Seen)) with
      | .error why => M.stick (m2 X lim s ls pc pos hn om fr wt none sn') why | .ok (false, seen) => M.say (m2 X lim s ls pc pos hn om fr wt none seen) false | .ok (true, seen) => m2 X lim s ls (pc + 2) (pos + 1) hn om fr wt none seen)
    (hy : pos < lim → X.getD pos 0 ≠ c) (h : ∀ sn, Ends n (m2 X lim s ls pc pos hn om fr wt (some false) sn) P) :
    Ends (n + 1) (m2 X lim s ls pc pos hn om fr wt none sn) P := by
  obtain ⟨sn', he⟩ := he
  refine ends_one he ?_
  by_cases hl : pos ≥ lim
  · rw [if_pos hl]; exact h _
  · rw [if_neg hl, beq_eq_false_iff_ne.mpr (hy (by omega))]; exact h _
/-- from the jump at the end of an alternative -/
theorem tail2 {X : Array Nat} {lim s ls pos hn a : Nat} {sn : Seen} {P : M → Prop} 
    (h : ∀ m : M, m.outcome = some .matched → m.start = s → m.handed = pos → P m) : Ends 4 (m2 X lim s ls 35 pos hn true [br2 s a, fr2 s] 2 none sn) P := by
  refine ends_one (m' := m2 X lim s ls 35 pos pos true [br2 s a, fr2 s] 2 (some true) _) rfl ?_
  refine ends_one (m' := m2 X lim s ls a s pos true [fr2 s] 1 (some true) _) rfl ?_
  refine ends_one (m' := m2 X lim s ls 10 s pos true [] 0 (some true) _) rfl ?_
  refine ends_one rfl ?_
  exact Ends.done rfl (h _ rfl rfl rfl)
theorem hit2 {X : Array Nat} {lim s ls hn e : Nat} {sn : Seen} {P : M → Prop} (hl : s < lim)
    (hc : (X.getD s 0 = 10 ∧ e = s + 1) ∨ (X.getD s 0 = 13 ∧ s + 1 < lim ∧ X.getD (s + 1) 0 = 10 ∧ e = s + 2) ∨ (X.getD s 0 = 13 ∧ (s + 1 < lim → X.getD (s + 1) 0 ≠ 10) ∧ e = s + 1))
    (h : ∀ m : M, m.outcome = some .matched → m.start = s → m.handed = e → P m) : Ends 20 (m2 X lim s ls 10 s hn true [fr2 s] 1 none sn) P := by
  refine ends_one (n := 19) (m' := m2 X lim s ls 12 s s true [br2 s 11, fr2 s] 2 none _) rfl ?_
  rcases hc with ⟨c, rfl⟩ | ⟨c, c1, c2, rfl⟩ | ⟨c, c2, rfl⟩
  · refine lit2n (n := 18) (c := 13) ⟨_, rfl⟩ (fun _ => by omega) fun sn => ?_
    refine ends_one (n := 17) (m' := m2 X lim s ls 19 s s true [br2 s 18, fr2 s] 2 none _) rfl ?_
    refine lit2 (n := 16) (c := 10) ⟨_, rfl⟩ hl c fun sn => ?_
    refine ends_one (n := 15) (m' := m2 X lim s ls 35 (s + 1) s true [br2 s 18, fr2 s] 2 none _) rfl ?_
    exact (tail2 h).le (by omega)
  · refine lit2 (n := 18) (c := 13) ⟨_, rfl⟩ hl c fun sn => ?_
    refine lit2 (n := 17) (c := 10) ⟨_, rfl⟩ c1 c2 fun sn => ?_
    refine ends_one (n := 16) (m' := m2 X lim s ls 35 (s + 2) s true [br2 s 11, fr2 s] 2 none _) rfl ?_
    exact (tail2 h).le (by omega)
  · refine lit2 (n := 18) (c := 13) ⟨_, rfl⟩ hl c fun sn => ?_
    refine lit2n (n := 17) (c := 10) ⟨_, rfl⟩ c2 fun sn => ?_
    refine ends_one (n := 16) (m' := m2 X lim s ls 19 s s true [br2 s 18, fr2 s] 2 none _) rfl ?_
    refine lit2n (n := 15) (c := 10) ⟨_, rfl⟩ (fun _ => by omega) fun sn => ?_
    refine ends_one (n := 14) (m' := m2 X lim s ls 24 s s true [br2 s 23, fr2 s] 2 none _) rfl ?_
    refine lit2 (n := 13) (c := 13) ⟨_, rfl⟩ hl c fun sn => ?_
    refine ends_one (n := 12) (m' := m2 X lim s ls 29 (s + 1) (s + 1) false [no2 (s + 1), br2 s 23, fr2 s] 3 none _) rfl ?_
    refine lit2n (n := 11) (c := 10) ⟨_, rfl⟩ c2 fun sn => ?_
    refine ends_one (n := 10) (m' := m2 X lim s ls 32 (s + 1) (s + 1) true [br2 s 23, fr2 s] 2 none _) rfl ?_
    refine ends_one (n := 9) (m' := m2 X lim s ls 35 (s + 1) (s + 1) true [br2 s 23, fr2 s] 2 none _) rfl ?_
    exact (tail2 h).le (by omega)
theorem adm_y {X : Array Nat} {lim : Nat} {m : M} (hm : m.code = code2) (hX : m.text = X) (hlm : m.lim = lim) {p : Nat} (hp : p < lim) (hh : X.getD p 0 = 10 ∨ X.getD p 0 = 13) :
    ∀ {j s f : Nat} {sn : Seen}, s + j = p → j < f → (∀ i, s ≤ i → i < p → X.getD i 0 ≠ 10 ∧ X.getD i 0 ≠ 13) → ∃ sn', M.admitted m f s sn = .ok (some p, sn')
  | 0, s, f + 1, sn, e, _, _ => by
    obtain rfl : s = p := by omega
    unfold M.admitted
    rw [if_neg (by omega), hm, hX]
    rcases hh with c | c <;> rw [c] <;> exact ⟨_, rfl⟩
  | j + 1, s, f + 1, sn, e, hf, hno => by
    obtain ⟨n1, n2⟩ := hno s (by omega) (by omega)
    unfold M.admitted
    rw [if_neg (by omega), hm, hX]
    have : ∃ sn'', inSet code2 (X.getD s 0) code2.size 5 true sn = .ok (false, sn'') := by
      refine ⟨((sn.add 16).add 16).add 0, ?_⟩
      show (if (X.getD s 0 == 10) then _ else if (X.getD s 0 == 13) then _ else _) = _
      rw [if_neg (by simpa using n1), if_neg (by simpa using n2)]
      rfl
    obtain ⟨sn'', e2⟩ := this
    rw [e2]
    exact adm_y hm hX hlm hp hh (j := j) (by omega) (by omega) fun i h1 h2 => hno i (by omega) h2
theorem adm_n {X : Array Nat} {lim : Nat} {m : M} (hm : m.code = code2) (hX : m.text = X) (hlm : m.lim = lim) :
    ∀ {f s : Nat} {sn : Seen}, (∀ i, s ≤ i → i < lim → X.getD i 0 ≠ 10 ∧ X.getD i 0 ≠ 13) → ∃ sn', M.admitted m f s sn = .ok (none, sn')
  | 0, s, sn, hno => ⟨_, rfl⟩
  | f + 1, s, sn, hno => by
    unfold M.admitted
    by_cases hl : s ≥ lim
    · rw [if_pos (by omega)]; exact ⟨_, rfl⟩
    · obtain ⟨n1, n2⟩ := hno s (by omega) (by omega)
      rw [if_neg (by omega), hm, hX]
      have : ∃ sn'', inSet code2 (X.getD s 0) code2.size 5 true sn = .ok (false, sn'') := by
        refine ⟨((sn.add 16).add 16).add 0, ?_⟩
        show (if (X.getD s 0 == 10) then _ else if (X.getD s 0 == 13) then _ else _) = _
        rw [if_neg (by simpa using n1), if_neg (by simpa using n2)]
        rfl
      obtain ⟨sn'', e2⟩ := this
      rw [e2]
      exact adm_n hm hX hlm fun i h1 h2 => hno i (by omega) h2
abbrev m0 (X : Array Nat) (lim s : Nat) : M := m2 X lim s lim 10 s s true [] 0 none (({} : Seen).add 14)
theorem search2e {X : Array Nat} {lim s : Nat} (hs : s < lim) : forSearch code2 X 0 s lim false = match M.admitted (m0 X lim s) (lim + 1 - s) s (({} : Seen).add 14) with
    | .ok (some s, seen) => M.attemptAt { m0 X lim s with mustAdvance := false, seen } s true
    | .ok (none, seen) => M.say { m0 X lim s with seen } false
    | .error why => M.stick (m0 X lim s) why := by
  have : forSearch code2 X 0 s lim false = (if (decide (s > lim) || decide (lim - s < 1)) then _ else _) := rfl
  rw [this, if_neg (by simp; omega)]
  rfl
def End2 (X : Array Nat) (i : Nat) : Prop := X.getD i 0 = 10 ∨ X.getD i 0 = 13
theorem seek2 {X : Array Nat} {lim s p e : Nat} {P : M → Prop} (hs : s ≤ p) (hp : p < lim) (hno : ∀ i, s ≤ i → i < p → ¬ End2 X i)
    (hc : (X.getD p 0 = 10 ∧ e = p + 1) ∨ (X.getD p 0 = 13 ∧ p + 1 < lim ∧ X.getD (p + 1) 0 = 10 ∧ e = p + 2) ∨ (X.getD p 0 = 13 ∧ (p + 1 < lim → X.getD (p + 1) 0 ≠ 10) ∧ e = p + 1))
    (h : ∀ m : M, m.outcome = some .matched → m.start = p → m.handed = e → P m) : Ends 20 (forSearch code2 X 0 s lim false) P := by
  rw [search2e (by omega)]
  obtain ⟨sn', ea⟩ := adm_y (m := m0 X lim s) rfl rfl rfl hp (by rcases hc with c | c | c <;> simp [c.1]) (j := p - s) (s := s) (f := lim + 1 - s) (sn := ({} : Seen).add 14) (by omega) (by omega)
    (fun i h1 h2 => by have := hno i h1 h2; unfold End2 at this; exact ⟨fun a => this (.inl a), fun a => this (.inr a)⟩)
  rw [ea]
  exact hit2 (X := X) (lim := lim) (s := p) (ls := lim) (hn := p) (sn := sn') hp hc h
theorem none2 {X : Array Nat} {lim s : Nat} {P : M → Prop} (hno : ∀ i, s ≤ i → i < lim → ¬ End2 X i)
    (h : ∀ m : M, m.outcome = some .failed → P m) : Ends 20 (forSearch code2 X 0 s lim false) P := by
  by_cases hs : s < lim
  · rw [search2e hs]
    obtain ⟨sn', ea⟩ := adm_n (m := m0 X lim s) rfl rfl rfl (s := s) (f := lim + 1 - s) (sn := ({} : Seen).add 14)
      (fun i h1 h2 => by have := hno i h1 h2; unfold End2 at this; exact ⟨fun a => this (.inl a), fun a => this (.inr a)⟩)
    rw [ea]
    refine ends_one rfl ?_
    exact Ends.done rfl (h _ rfl)
  · have : forSearch code2 X 0 s lim false = (if (decide (s > lim) || decide (lim - s < 1)) then _ else _) := rfl
    rw [this, if_pos (by simp; omega)]
    refine ends_one rfl ?_
    exact Ends.done rfl (h _ rfl)
theorem seekA {X : Array Nat} {lim s p : Nat} {P : M → Prop} (hs : s ≤ p) (hp : p < lim) (hL : lim ≤ 100) (hno : ∀ i, s ≤ i → i < p → ¬ Hit1 X i) (hh : Hit1 X p)
    (h : ∀ m : M, m.outcome = some .matched → m.start = p → m.handed = p + 1 → P m) : Ends 1000 (forSearch code1 X 0 s lim false) P := by
  obtain ⟨sn, e⟩ := search1 (X := X) (lim := lim) (s := s) (by omega)
  rw [e]
  exact (seek1 hp hh h (j := p - s) (by omega) hno).le (by omega)
theorem noneA {X : Array Nat} {lim s : Nat} {P : M → Prop} (hL : lim ≤ 100) (hno : ∀ i, s ≤ i → i < lim → ¬ Hit1 X i) (h : ∀ m : M, m.outcome = some .failed → P m) : Ends 1000 (forSearch code1 X 0 s lim false) P := by
  by_cases hs : s < lim
  · obtain ⟨sn, e⟩ := search1 (X := X) (lim := lim) (s := s) hs
    rw [e]
    exact (none1 h (j := lim - s) (by omega) hno).le (by omega)
  · exact (search1z hs h).le (by omega)
end Mine
end
section
open PySem PySem.Sre
set_option maxRecDepth 100000
set_option Elab.async false
namespace Mine
/-- what a substitution makes of the text from a place on -/
inductive Subs (code X : Array Nat) (y : List Nat) : Nat → List Nat → Prop
  | none {i : Nat} : i ≤ X.size → Ends 1000 (forSearch code X 0 i X.size false) (fun m => m.outcome = some .failed) → Subs code X y i (X.toList.drop i)
  | some {i p e : Nat} {out : List Nat} : i ≤ p → p < e → e ≤ X.size → Ends 1000 (forSearch code X 0 i X.size false) (fun m => m.outcome = some .matched ∧ m.start = p ∧ m.handed = e) → Subs code X y e out →
      Subs code X y i ((X.toList.drop i).take (p - i) ++ (y ++ out))
def LeOk (le : Str) : Prop := ∀ i, le.cps.toList.getD i 0 ≠ 10 ∧ le.cps.toList.getD i 0 ≠ 13 ∧ le.cps.toList.getD i 0 ≠ 46
def EnOk (en : Str) : Prop := en.cps.toList = [10] ∨ en.cps.toList = [13] ∨ en.cps.toList = [13, 10]
abbrev crlf : Str := ⟨#[13, 10]⟩
theorem drop_head {X : Array Nat} {j c : Nat} {r : List Nat} (h : X.toList.drop j = c :: r) : j < X.size ∧ X.getD j 0 = c ∧ X.toList.drop (j + 1) = r := by
  have hj : j < X.toList.length := by
    apply Nat.not_le.mp; intro hle
    rw [List.drop_eq_nil_of_le hle] at h; cases h
  rw [List.drop_eq_getElem_cons hj] at h
  injection h with h1 h2
  rw [Array.length_toList] at hj
  refine ⟨hj, ?_, h2⟩
  rw [← h1]; simp [Array.getD, hj]
theorem take_next {X : Array Nat} {i j c : Nat} {r : List Nat} (hij : i ≤ j) (h : X.toList.drop j = c :: r) : (X.toList.drop i).take (j + 1 - i) = (X.toList.drop i).take (j - i) ++ [c] := by
  rw [show j + 1 - i = (j - i) + 1 by omega, List.take_add_one]
  congr 1
  rw [List.getElem?_drop, show i + (j - i) = j by omega]
  have : X.toList[j]? = some c := by
    have := congrArg (·[0]?) h
    simpa using this
  rw [this]; rfl
theorem take_self {X : Array Nat} {i : Nat} : (X.toList.drop i).take (i - i) = [] := by simp
theorem take_all {X : Array Nat} {i j : Nat} (h : X.toList.drop j = []) : (X.toList.drop i).take (j - i) = X.toList.drop i := by
  rw [List.drop_eq_nil_iff] at h
  exact List.take_of_length_le (by rw [List.length_drop]; omega)
theorem sub2 {en le : Str} (he : EnOk en) (hl : LeOk le) {X : Array Nat} : ∀ (r : List Tk) (i j : Nat), i ≤ j → j ≤ X.size → X.toList.drop j = txt en le r → (∀ q, i ≤ q → q < j → ¬ End2 X q) →
    Subs code2 X [13, 10] i ((X.toList.drop i).take (j - i) ++ txt crlf le r)
  | [], i, j, hij, hj, hd, hno => by
    rw [txt] at hd
    rw [txt, List.append_nil, take_all hd]
    have hz := List.drop_eq_nil_iff.mp hd
    rw [Array.length_toList] at hz
    exact .none (by omega) ((none2 (fun q h1 h2 => hno q h1 (by omega)) fun m h => h).le (by omega))
  | .d :: r, i, j, hij, hj, hd, hno => by
    rw [txt] at hd
    obtain ⟨a, b, c⟩ := drop_head hd
    have := sub2 he hl r i (j + 1) (by omega) (by omega) c (fun q h1 h2 => by
      by_cases e : q = j
      · subst e; unfold End2; rw [b]; omega
      · exact hno q h1 (by omega))
    rw [take_next hij hd, List.append_assoc] at this
    exact this
  | .l k :: r, i, j, hij, hj, hd, hno => by
    rw [txt] at hd
    obtain ⟨a, b, c⟩ := drop_head hd
    have := sub2 he hl r i (j + 1) (by omega) (by omega) c (fun q h1 h2 => by
      by_cases e : q = j
      · subst e; unfold End2; rw [b]; have := hl k; omega
      · exact hno q h1 (by omega))
    rw [take_next hij hd, List.append_assoc] at this
    exact this
  | .e :: r, i, j, hij, hj, hd, hno => by
    rw [txt] at hd
    have key : ∀ e, j < e → e ≤ X.size → X.toList.drop e = txt en le r → ((X.getD j 0 = 10 ∧ e = j + 1) ∨ (X.getD j 0 = 13 ∧ j + 1 < X.size ∧ X.getD (j + 1) 0 = 10 ∧ e = j + 2) ∨ (X.getD j 0 = 13 ∧ (j + 1 < X.size → X.getD (j + 1) 0 ≠ 10) ∧ e = j + 1)) →
        Subs code2 X [13, 10] i ((X.toList.drop i).take (j - i) ++ txt crlf le (.e :: r)) := by
      intro e h1 h2 h3 hc
      have := sub2 he hl r e e (Nat.le_refl _) h2 h3 (fun q _ _ => by omega)
      rw [take_self, List.nil_append] at this
      exact .some hij h1 h2 ((seek2 hij (by omega) hno hc fun m a b c => ⟨a, b, c⟩).le (by omega)) this
    rcases he with e1 | e1 | e1 <;> rw [e1] at hd
    · obtain ⟨a, b, c⟩ := drop_head hd
      exact key (j + 1) (by omega) (by omega) c (.inl ⟨b, rfl⟩)
    · obtain ⟨a, b, c⟩ := drop_head hd
      refine key (j + 1) (by omega) (by omega) c (.inr (.inr ⟨b, fun h1 => ?_, rfl⟩))
      change X.toList.drop (j + 1) = txt en le r at c
      match r, c with
      | [], c => rw [txt, List.drop_eq_nil_iff, Array.length_toList] at c; omega
      | .e :: r, c => rw [txt, e1] at c; obtain ⟨_, b, _⟩ := drop_head c; omega
      | .d :: r, c => rw [txt] at c; obtain ⟨_, b, _⟩ := drop_head c; omega
      | .l k :: r, c => rw [txt] at c; obtain ⟨_, b, _⟩ := drop_head c; have := hl k; omega
    · obtain ⟨a, b, c⟩ := drop_head hd
      obtain ⟨a2, b2, c2⟩ := drop_head (r := txt en le r) c
      exact key (j + 2) (by omega) (by omega) c2 (.inr (.inl ⟨b, a2, b2, rfl⟩))
/-- what is sent: ends as CR LF, a dot at a row's beginning twice -/
def wr (le : Str) : Bool → List Tk → List Nat
  | _, [] => []
  | _, .e :: r => 13 :: 10 :: wr le true r
  | true, .d :: r => 46 :: 46 :: wr le false r
  | false, .d :: r => 46 :: wr le false r
  | _, .l i :: r => le.cps.toList.getD i 0 :: wr le false r
def Bg (X : Array Nat) (j : Nat) : Bool := j == 0 || X.getD (j - 1) 0 == 10
theorem bg_succ {X : Array Nat} {j c : Nat} (h : X.getD j 0 = c) : Bg X (j + 1) = (c == 10) := by
  unfold Bg; simp [h]
theorem sub1 {le : Str} (hl : LeOk le) {X : Array Nat} (hX : X.size ≤ 100) : ∀ (r : List Tk) (i j : Nat), i ≤ j → j ≤ X.size → X.toList.drop j = txt crlf le r → (∀ q, i ≤ q → q < j → ¬ Hit1 X q) →
    Subs code1 X [46, 46] i ((X.toList.drop i).take (j - i) ++ wr le (Bg X j) r)
  | [], i, j, hij, hj, hd, hno => by
    rw [txt] at hd
    have : wr le (Bg X j) [] = [] := by cases Bg X j <;> rfl
    rw [this, List.append_nil, take_all hd]
    have hz := List.drop_eq_nil_iff.mp hd
    rw [Array.length_toList] at hz
    exact .none (by omega) (noneA hX (fun q h1 h2 => hno q h1 (by omega)) fun m h => h)
  | .d :: r, i, j, hij, hj, hd, hno => by
    rw [txt] at hd
    obtain ⟨a, b, c⟩ := drop_head hd
    cases hb : Bg X j with
    | true =>
      have := sub1 hl hX r (j + 1) (j + 1) (Nat.le_refl _) (by omega) c (fun q _ _ => by omega)
      rw [take_self, List.nil_append, bg_succ b] at this
      exact .some hij (by omega) (by omega) (seekA hij (by omega) hX hno ⟨hb, by rw [b]; rfl⟩ fun m a b c => ⟨a, b, c⟩) this
    | false =>
      have := sub1 hl hX r i (j + 1) (by omega) (by omega) c (fun q h1 h2 => by
        by_cases e : q = j
        · subst e; intro hh; have h1 : Bg X q = true := hh.1; rw [hb] at h1; cases h1
        · exact hno q h1 (by omega))
      rw [take_next hij hd, List.append_assoc, bg_succ b] at this
      exact this
  | .l k :: r, i, j, hij, hj, hd, hno => by
    rw [txt] at hd
    obtain ⟨a, b, c⟩ := drop_head hd
    have hk := hl k
    have := sub1 hl hX r i (j + 1) (by omega) (by omega) c (fun q h1 h2 => by
      by_cases e : q = j
      · subst e; intro hh; have h1 := beq_iff_eq.mp hh.2; omega
      · exact hno q h1 (by omega))
    rw [take_next hij hd, List.append_assoc, bg_succ b, beq_eq_false_iff_ne.mpr hk.1] at this
    cases Bg X j <;> exact this
  | .e :: r, i, j, hij, hj, hd, hno => by
    rw [txt] at hd
    obtain ⟨a, b, c⟩ := drop_head hd
    obtain ⟨a2, b2, c2⟩ := drop_head (r := txt crlf le r) c
    have := sub1 hl hX r i (j + 2) (by omega) (by omega) c2 (fun q h1 h2 => by
      by_cases e : q = j
      · subst e; intro hh; have h1 := beq_iff_eq.mp hh.2; omega
      · by_cases e : q = j + 1
        · subst e; intro hh; have h1 := beq_iff_eq.mp hh.2; omega
        · exact hno q h1 (by omega))
    rw [show j + 2 - i = (j + 1) + 1 - i by omega, take_next (by omega) c, take_next hij hd, List.append_assoc, List.append_assoc, bg_succ b2] at this
    cases Bg X j <;> exact this
end Mine
end
section
open PySem PySem.W PySem.W.X PyProof.Rows PySem.Builtin PySem.Builtin.Re
set_option maxRecDepth 100000
set_option Elab.async false
namespace Mine
/-! ## the facts of re.Pattern.sub -/
theorem owner_re : Manifest.owners.lookup (String.ofList ['n', 'r', 'e', 't', 't', 'a', 'P', '.', 'e', 'r'].reverse) = some Manifest.sig_re_Pattern := by kernel_rfl
theorem slot_re_sub : Slot "re.Pattern" ⟨#[115, 117, 98]⟩ "re.Pattern.sub" :=
  .of (owner := "re.Pattern") (n := "sub") (by rw [typeLookup_type, builtinLookup_eq_fast]; kernel_rfl) (by decide +kernel) (by decide +kernel) (by decide +kernel)
    (by first | exact .inl (by decide +kernel) | exact .inr (by decide +kernel)) (by rw [isSubtype_type]; kernel_rfl)
theorem type_re_sub : typeOf (.builtin "re.Pattern.sub") = pure (.type "method_descriptor") := by show builtinType _ = _; rw [builtinType_eq_fast]; kernel_rfl
theorem entry_re_sub : entryFor table "re.Pattern.sub" = some Builtin.«re.Pattern.sub» := entryFor_of_tree (by kernel_rfl)
theorem entry_re_loop : entryFor table "re.Pattern.sub.loop" = some Builtin.«re.Pattern.sub.loop» := entryFor_of_tree (by kernel_rfl)
theorem args_re_sub (a b c : Value) : argsOk "re.Pattern.sub" ⟨[a, b, c], []⟩ := by
  unfold argsOk; rw [signature?_of (id := "re.Pattern.sub") (n := ['b', 'u', 's']) (o := ['n', 'r', 'e', 't', 't', 'a', 'P', '.', 'e', 'r']) (by kernel_rfl) owner_re]; kernel_rfl
theorem attrs_re : PlainAttrs "re.Pattern" := ⟨⟨"object.__getattribute__", by rw [typeLookup_type, builtinLookup_eq_fast]; kernel_rfl, by decide +kernel⟩, by rw [typeLookup_type, builtinLookup_eq_fast]; kernel_rfl⟩
theorem str_nocall : typeLookup (.type "str") "__call__" = pure none := by rw [typeLookup_type, builtinLookup_eq_fast]; kernel_rfl
theorem plain_re_loop : plainId "re.Pattern.sub.loop" = true := by decide +kernel
section
variable {w : World} {A : Around} {E : Value → Shared → Prop} {s : Shared}
theorem quiet_for {l : List Nat} {f : Nat → PUnit → Sem (ForInStep PUnit)} (hf : ∀ i (Q : ForInStep PUnit → Shared → Prop), Q (.yield ⟨⟩) s → wpAny (model pg w) A (f i ⟨⟩) Q E s) {Q : PUnit → Shared → Prop} (h : Q ⟨⟩ s) : wpAny (model pg w) A (forIn l PUnit.unit f) Q E s := by
  induction l with
  | nil => exact wpAny_pure h
  | cons a l ih => rw [List.forIn_cons]; exact wpAny_bind (hf a _ ih)
theorem drive {P : Sre.M → Prop} {Q : Sre.M → Shared → Prop} : ∀ {turns k : Nat} {m : Sre.M}, k ≤ 4 * turns → (Sre.M.runFor k m).outcome.isSome = true → P (Sre.M.runFor k m) → (∀ m, m.outcome.isSome = true → P m → Q m s) → 0 < turns → wpAny (model pg w) A (reDrive turns m) Q E s := by
  have stay : ∀ k (m : Sre.M), m.outcome.isSome = true → Sre.M.runFor k m = m := by
    intro k m h
    cases k with
    | zero => rfl
    | succ k => unfold Sre.M.runFor; rw [if_pos h]
  have split : ∀ a b (m : Sre.M), Sre.M.runFor (a + b) m = Sre.M.runFor b (Sre.M.runFor a m) := by
    intro a
    induction a with
    | zero => intro b m; rw [Nat.zero_add]; rfl
    | succ a ih =>
      intro b m
      rw [show a + 1 + b = (a + b) + 1 by omega]
      show (if m.outcome.isSome then m else Sre.M.runFor (a + b) m.step) = Sre.M.runFor b (if m.outcome.isSome then m else Sre.M.runFor a m.step)
      by_cases h : m.outcome.isSome = true
      · rw [if_pos h, if_pos h, stay b m h]
      · rw [if_neg h, if_neg h]; exact ih b m.step
  intro turns
  induction turns with
  | zero => intro k m _ _ _ _ h; omega
  | succ n ih =>
    intro k m hk hs hp hq _
    unfold reDrive
    dsimp only
    by_cases hd : (Sre.M.runFor reTurnSteps m).outcome.isSome = true
    · rw [if_pos hd]
      refine wpAny_pure (hq _ hd ?_)
      have : Sre.M.runFor reTurnSteps m = Sre.M.runFor k m := by
        rcases Nat.le_total k 4 with h | h
        · have e := split k (4 - k) m
          rw [show k + (4 - k) = 4 by omega, stay _ _ hs] at e
          exact e
        · have e := split 4 (k - 4) m
          rw [show 4 + (k - 4) = k by omega] at e
          rw [e]; exact (stay _ _ hd).symm
      rw [this]; exact hp
    · rw [if_neg hd]
      have hk4 : 4 ≤ k := by
        apply Nat.not_lt.mp; intro h
        have e := split k (4 - k) m
        rw [show k + (4 - k) = 4 by omega, stay _ _ hs] at e
        exact hd (by show (Sre.M.runFor 4 m).outcome.isSome = true; rw [e]; exact hs)
      have e := split 4 (k - 4) m
      rw [show 4 + (k - 4) = k by omega] at e
      rw [e] at hs hp
      refine wpAny_bind (wpAny_rule ?_)
      have hn : 0 < n := by
        apply Nat.pos_of_ne_zero; rintro rfl
        have : k - 4 = 0 := by omega
        rw [this] at hs
        exact hd hs
      exact ih (k := k - 4) (by omega) hs hp hq hn
/-- a search that finds -/
theorem run_some {m : Sre.M} {p e : Nat} {Q : Option Sre.M → Shared → Prop} (h : Ends 1000 m (fun m => m.outcome = some .matched ∧ m.start = p ∧ m.handed = e)) (hq : ∀ m : Sre.M, m.start = p → m.handed = e → Q (some m) s) :
    wpAny (model pg w) A (reRunToEnd m) Q E s := by
  obtain ⟨k, hk, h1, h2⟩ := h
  unfold reRunToEnd
  refine wpAny_bind (drive (P := fun m => m.outcome = some .matched ∧ m.start = p ∧ m.handed = e) (k := k) (by omega) h1 h2 (fun m _ hm => ?_) (by decide))
  refine wpAny_bind (quiet_for (fun i Q hQ => ?_) ?_)
  · by_cases hi : m.seen.has i = true
    · rw [if_pos hi]; exact wpAny_bind (wpAny_rule (wpAny_pure hQ))
    · rw [if_neg hi]; exact wpAny_pure hQ
  · rw [hm.1]; exact wpAny_pure (hq m hm.2.1 hm.2.2)
theorem run_none {m : Sre.M} {Q : Option Sre.M → Shared → Prop} (h : Ends 1000 m (fun m => m.outcome = some .failed)) (hq : Q none s) :
    wpAny (model pg w) A (reRunToEnd m) Q E s := by
  obtain ⟨k, hk, h1, h2⟩ := h
  unfold reRunToEnd
  refine wpAny_bind (drive (P := fun m => m.outcome = some .failed) (k := k) (by omega) h1 h2 (fun m _ hm => ?_) (by decide))
  refine wpAny_bind (quiet_for (fun i Q hQ => ?_) ?_)
  · by_cases hi : m.seen.has i = true
    · rw [if_pos hi]; exact wpAny_bind (wpAny_rule (wpAny_pure hQ))
    · rw [if_neg hi]; exact wpAny_pure hQ
  · rw [hm]; exact wpAny_pure hq
end
end Mine
end
section
open PySem PySem.W PySem.W.X PyProof.Rows PySem.Builtin PySem.Builtin.Re
set_option maxRecDepth 100000
set_option Elab.async false
namespace Mine
/-- a compiled pattern of strings without groups -/
structure IsPat (h : Heap) (pa : Addr) (code : Array Nat) : Prop where
  ex : ∃ o fs ca oc cs n, h.get? pa = some o ∧ o.data = .fields fs ∧ fs.getD 2 .none = .int 0 0 ∧ fs.getD 5 .none = .ref ca ∧ fs.getD 6 .none = .int 0 0 ∧ h.get? ca = some oc ∧ oc.data = .seq cs n ∧ (cs.map reRawOf).map (·.toNat) = code
theorem IsPat.keeps {h h' : Heap} {pa : Addr} {code : Array Nat} (p : IsPat h pa code) (k : ∀ b o, h.get? b = some o → h'.get? b = some o) : IsPat h' pa code := by
  obtain ⟨o, fs, ca, oc, cs, n, a, b, c, d, e, f, g⟩ := p.ex
  exact ⟨o, fs, ca, oc, cs, n, k _ _ a, b, c, d, e, k _ _ f, g⟩
section
variable {w : World} {A : Around} {E : Value → Shared → Prop} {s : Shared}
theorem r_target {pa : Addr} {code : Array Nat} {x : Str} {t : Tok} {Q : ReTarget → Shared → Prop} (hp : IsPat s.heap pa code)
    (h : Q { pattern := .ref pa, string := .str x t, code := code, text := x.cps, kind := 0, groups := 0, pos := 0, lim := x.cps.size } s) : wpAny (model pg w) A (reWholeTarget (.ref pa) (.str x t)) Q E s := by
  obtain ⟨o, fs, ca, oc, cs, n, a, b, c, d, e, f, g, hc⟩ := hp.ex
  unfold reWholeTarget
  refine wpAny_bind (wpAny_fieldsOf a b ?_)
  refine wpAny_bind (wpAny_bind (wpAny_pure (wpAny_pure ?_)))
  dsimp only
  rw [e]
  refine wpAny_bind (wpAny_pure ?_)
  rw [d]
  refine wpAny_bind (wpAny_bind (wpAny_seqItems f g (wpAny_pure (wpAny_pure ?_))))
  rw [c]
  dsimp only [Option.getD]
  rw [hc]
  exact h
def flat (ys : List Str) : List Nat := ys.flatMap (·.cps.toList)
theorem flat_app (a b : List Str) : flat (a ++ b) = flat a ++ flat b := List.flatMap_append
theorem join_flat : ∀ ys : List Str, (Str.join ⟨#[]⟩ ys).cps.toList = flat ys
  | [] => rfl
  | [x] => by simp [Str.join, flat]
  | x :: y :: r => by
    have := join_flat (y :: r)
    rw [Str.join, tx_app, tx_app, this]
    · simp [flat]
    · simp
theorem join_flat' (ys : List Str) : Txt.join ⟨#[]⟩ ys = ⟨(flat ys).toArray⟩ := by
  have : Txt.join ⟨#[]⟩ ys = Str.join ⟨#[]⟩ ys := PySem.StrLaws.glued_eq_join _ _
  rw [this, ← join_flat]
theorem sum_len : ∀ ys : List Str, (ys.map (·.length)).sum = (flat ys).length
  | [] => rfl
  | x :: r => by rw [List.map_cons, List.sum_cons, sum_len r]; unfold flat; rw [List.flatMap_cons, List.length_append, Array.length_toList]; rfl
/-- the pieces so far -/
structure PL (h₀ : Heap) (l : Addr) (k : Nat) (c : List Nat) (h : Heap) : Prop where
  keep : ∀ b o, h₀.get? b = some o → h.get? b = some o
  ex : ∃ (vs : Array Value) (n : Nat) (ys : List Str), h.get? l = some { cls := .type "list", data := .seq vs n } ∧ StrsAre vs.toList ys ∧ flat ys = c ∧ vs.size ≤ k
theorem PL.push {h₀ h : Heap} {g : Array GenState} {d : Drawn} {tk : Nat} {os : OsState} {l : Addr} {k : Nat} {c : List Nat} (J : PL h₀ l k c h) (hl0 : h₀.objs.size ≤ l) (hk : k ≤ 10000) {y : Str} {u : Tok} {Q : Unit → Shared → Prop}
    (hq : ∀ h', PL h₀ l (k + 1) (c ++ y.cps.toList) h' → Q () ⟨h', g, d, tk, os⟩) : wpAny (model pg w) A (updateSeq l (·.push (.str y u))) Q E ⟨h, g, d, tk, os⟩ := by
  obtain ⟨vs, n, ys, a, b, e, f⟩ := J.ex
  refine wpAny_updateSeq (s := ⟨h, g, d, tk, os⟩) a rfl (hq _ ⟨fun b o e => ?_, vs.push (.str y u), _, ys ++ [y], Heap.get?_update_self _ a rfl, ?_, ?_, by simp; omega⟩) (by rw [sizeLine_eq]; omega) (by rw [sizeLine_eq]; simp; omega)
  · have hb : l ≠ b := by rintro rfl; exact Nat.not_lt.mpr hl0 (Heap.lt_size e)
    exact (Heap.get?_update_other _ _ hb).trans (J.keep b o e)
  · rw [Array.toList_push]; exact b.append' (.cons _ _ .nil)
  · rw [flat_app, e]; simp [flat]
theorem piece {h₀ h : Heap} {g : Array GenState} {d : Drawn} {tk : Nat} {os : OsState} {l : Addr} {k : Nat} {c : List Nat} (J : PL h₀ l k c h) (hl0 : h₀.objs.size ≤ l) (hk : k ≤ 10000) {α : Type} {X : Array Nat} (hX : X.size ≤ 100) {i p : Nat} {m : Sem α} {Q : α → Shared → Prop}
    (hq : ∀ h' tk', PL h₀ l (k + 1) (c ++ (X.toList.drop i).take (p - i)) h' → wpAny (model pg w) A m Q E ⟨h', g, d, tk', os⟩) :
    wpAny (model pg w) A (if i < p then do let a ← reSlice X 0 i p; updateSeq l (·.push a); m else m) Q E ⟨h, g, d, tk, os⟩ := by
  by_cases hip : i < p
  · rw [if_pos hip]
    refine wpAny_bind (wpAny_mkStr (by show (X.extract i p).size ≤ _; rw [sizeLine_eq]; simp; omega) (h := ?_))
    refine wpAny_bind (J.push hl0 hk fun h' J' => hq _ _ ?_)
    have : (X.extract i p).toList = (X.toList.drop i).take (p - i) := by simp [List.extract]
    rw [← this]; exact J'
  · rw [if_neg hip]
    refine hq _ _ ?_
    rw [show p - i = 0 by omega, List.take_zero, List.append_nil]
    obtain ⟨vs, n, ys, a, b, e, f⟩ := J.ex
    exact ⟨J.keep, vs, n, ys, a, b, e, by omega⟩
set_option maxHeartbeats 1000000 in
theorem sub_loop {h₀ : Heap} {g : Array GenState} {d : Drawn} {os : OsState} {pa : Addr} {code : Array Nat} {x y : Str} {t u : Tok} {Q : Value → Shared → Prop} (hp : IsPat h₀ pa code) (hx : x.cps.size ≤ 100) (hy : y.cps.size ≤ 2) {l : Addr} (hl0 : h₀.objs.size ≤ l) {tot : List Nat}
    (hq : ∀ h' tk t', (∀ b o, h₀.get? b = some o → h'.get? b = some o) → Q (.str ⟨tot.toArray⟩ t') ⟨h', g, d, tk, os⟩) :
    ∀ {i : Nat} {out : List Nat}, Subs code x.cps y.cps.toList i out → ∀ {h : Heap} {tk k : Nat} {c : List Nat} {u1 u2 u3 u4 u5 : Tok} {cn : Int}, PL h₀ l k c h → k ≤ 2 * i → c.length ≤ 3 * i → c ++ out = tot →
      codeAny (model pg w) A (.builtin "re.Pattern.sub.loop" ⟨[.ref pa, .str x t, .str y u, .int 0 u1, .int 0 u2, .int cn u3, .int i u4, .int i u5, .bool false, .ref l, .bool false], []⟩)
        (fun r s' => match r with | .ok (.ret v) => Q v s' | .ok _ => False | .error e => E e s') ⟨h, g, d, tk, os⟩ := by
  intro i out S
  induction S with
  | @none i hi hE =>
    intro h tk k c u1 u2 u3 u4 u5 cn J hk hc ht
    refine codeAny_builtin entry_re_loop ?_
    rw [Around.under_plainId plain_re_loop]
    unfold «re.Pattern.sub.loop»
    refine wpAny_bind (r_target (s := ⟨h, g, d, tk, os⟩) (hp.keeps J.keep) ?_)
    refine wpAny_bind (wpAny_bind (wpAny_pure (wpAny_pure ?_)))
    refine wpAny_bind (run_none hE ?_)
    refine piece (i := i) (p := x.cps.size) J hl0 (by omega) hx ?_
    intro h' tk' J
    rw [List.take_of_length_le (by simp), ht] at J
    refine wpAny_bind (wpAny_mkStr (by show (x.cps.extract 0 0).size ≤ _; rw [sizeLine_eq]; simp) (h := ?_))
    obtain ⟨vs, n, ys, a, b, e, f⟩ := J.ex
    have e0 : (⟨x.cps.extract 0 0⟩ : Str) = ⟨#[]⟩ := by simp
    refine wpAny_bind (wpAny_seqItems (s := ⟨h', g, d, tk' + 1, os⟩) a rfl ?_)
    dsimp only [Option.getD]
    by_cases hv : vs.isEmpty = true
    · rw [if_pos hv]
      refine wpAny_bind (wpAny_pure ?_)
      refine wpAny_pure ?_
      have : tot = [] := by
        rw [Array.isEmpty_iff] at hv
        subst hv
        cases b
        rw [← e]; rfl
      have hq' := hq h' (tk' + 1) tk' J.keep
      rw [this] at hq'
      rw [e0]
      exact hq'
    · rw [if_neg hv]
      refine wpAny_bind ?_
      rw [e0]
      refine join_list (s := ⟨h', g, d, tk' + 1, os⟩) ⟨_, a, rfl, n, rfl⟩ b ?_ ?_
      · have hl : tot.length ≤ 500 := by
          have : (x.cps.toList.drop i).length ≤ x.cps.size := by simp
          rw [← ht, List.length_append]; omega
        rw [sum_len, e]
        show _ + ys.length * 0 ≤ _
        omega
      · intro t' k'
        rw [join_flat', e]
        exact wpAny_pure (hq h' k' t' J.keep)
  | @some i p e out hip hpe hes hE hS' ih =>
    intro h tk k c u1 u2 u3 u4 u5 cn J hk hc ht
    refine codeAny_builtin entry_re_loop ?_
    rw [Around.under_plainId plain_re_loop]
    unfold «re.Pattern.sub.loop»
    refine wpAny_bind (r_target (s := ⟨h, g, d, tk, os⟩) (hp.keeps J.keep) ?_)
    refine wpAny_bind (wpAny_bind (wpAny_pure (wpAny_pure ?_)))
    refine wpAny_bind (run_some hE (fun m hm1 hm2 => ?_))
    subst hm1 hm2
    refine piece (i := i) (p := m.start) J hl0 (by omega) hx ?_
    intro h' tk' J
    refine wpAny_bind (wpAny_pure ?_)
    refine wpAny_bind (J.push hl0 (by omega) ?_)
    intro h'' J
    refine wpAny_pure ⟨plainId_quiet plain_re_loop _, ?_⟩
    have : (m.handed == m.start) = false := by simp; omega
    rw [this]
    have hlen : ((x.cps.toList.drop i).take (m.start - i)).length ≤ m.start - i := by rw [List.length_take]; omega
    have hyl : y.cps.toList.length ≤ 2 := by rw [Array.length_toList]; exact hy
    exact ih J (by omega) (by rw [List.length_append, List.length_append]; omega) (by rw [← ht]; simp [List.append_assoc])
/-- the call of a pattern's sub with a plain text -/
theorem re_sub {h₀ : Heap} {g : Array GenState} {d : Drawn} {tk : Nat} {os : OsState} {pa : Addr} {code : Array Nat} {x y : Str} {t u : Tok} {Q : Value → Shared → Prop} (hT : (⟨h₀, g, d, tk, os⟩ : Shared).TypeIs (.ref pa) "re.Pattern") (hp : IsPat h₀ pa code) (hx : x.cps.size ≤ 100) (hy : y.cps.size ≤ 2) (hy2 : y.cps.contains 92 = false) {out : List Nat}
    (hS : Subs code x.cps y.cps.toList 0 out)
    (hq : ∀ h' tk t', (∀ b o, h₀.get? b = some o → h'.get? b = some o) → Q (.str ⟨out.toArray⟩ t') ⟨h', g, d, tk, os⟩) :
    wpAny (model pg w) A (call (.builtin "re.Pattern.sub") [.ref pa, .str y u, .str x t]) Q E ⟨h₀, g, d, tk, os⟩ := by
  refine wpAny_call (codeAny_call_builtin slot_re_sub.plain entry_re_sub (slot_re_sub.check _ _ _ _ _ _ _ _ hT (args_re_sub _ _ _) ?_))
  have hn : reNamed "re.Pattern.sub" "sub" ["repl", "string", "count"] 2 [.str y u, .str x t] [] = pure [some (.str y u), some (.str x t), none] := by with_unfolding_all rfl
  unfold «re.Pattern.sub» reSubstitute
  dsimp only
  rw [hn]
  refine wpAny_bind (wpAny_pure ?_)
  refine wpAny_bind (wpAny_pure ?_)
  refine wpAny_bind (wpAny_specialOf (typeIs_str _ _ _) str_nocall ?_)
  refine wpAny_bind (wpAny_pure ?_)
  dsimp only
  refine wpAny_bind (wpAny_pure ?_)
  rw [hy2]
  refine wpAny_bind (wpAny_pure ?_)
  refine wpAny_bind (wpAny_holding (r_target (s := ⟨h₀, g, d, tk, os⟩) hp ?_))
  refine wpAny_bind (wpAny_newList (items := []) ?_)
  refine wpAny_pure ⟨plainId_quiet plain_re_loop _, ?_⟩
  exact sub_loop hp hx hy (Nat.le_refl _) hq hS (k := 0) (c := []) ⟨fun b o e => Heap.get?_push_of_some _ e, #[], 0, [], Heap.get?_push_size _ rfl, .nil, rfl, by simp⟩ (by omega) (by simp) rfl
end
end Mine
end
section
open PySem PySem.W PySem.W.X PyProof.Rows
set_option maxRecDepth 100000
set_option Elab.async false
namespace Mine
def ncB (l : List (Str × NameKind)) : Bool := l.all fun x => match x.2 with | .cell => false | _ => true
theorem nc_ok {l : List (Str × NameKind)} (h : ncB l = true) : ∀ x ∈ l, x.2 ≠ .cell := fun x hx e => by
  have := List.all_eq_true.mp h x hx
  rw [e] at this; cases this
theorem LP.pat1 {w : World} {h : Heap} (P : LP w h) : IsPat h 87 code1 := ⟨_, _, 86, _, _, _, P.k 87 _ rfl, rfl, rfl, rfl, rfl, P.k 86 _ rfl, rfl, by simp [Builtin.Re.reRawOf]⟩
theorem LP.pat2 {w : World} {h : Heap} (P : LP w h) : IsPat h 92 code2 := ⟨_, _, 91, _, _, _, P.k 92 _ rfl, rfl, rfl, rfl, rfl, P.k 91 _ rfl, rfl, by simp [Builtin.Re.reRawOf]⟩
theorem txt_len {en le : Str} {n : Nat} (he : en.cps.size ≤ n) (hn : 1 ≤ n) : ∀ ts, (txt en le ts).length ≤ n * ts.length
  | [] => by simp [txt]
  | .e :: r => by have := txt_len he hn r (le := le); rw [txt, List.length_append, Array.length_toList, List.length_cons, Nat.mul_add]; omega
  | .d :: r => by have := txt_len he hn r (le := le); rw [txt, List.length_cons, List.length_cons, Nat.mul_add]; omega
  | .l _ :: r => by have := txt_len he hn r (le := le); rw [txt, List.length_cons, List.length_cons, Nat.mul_add]; omega
set_option maxHeartbeats 1000000
theorem quote_spec {w : World} {A : Around} {E : Value → Shared → Prop} {s : Shared} (P : LP w s.heap) {nA : Nat} (hA : Rm A nA) {en le : Str} (he : EnOk en) (hl : LeOk le) {ts : List Tk} (hts : ts.length ≤ 20) {t : Tok} {Q : Value → Shared → Prop}
    (h : ∀ h' tk u, Kp s.heap h' → LP w h' → Q (.str ⟨(wr le true ts).toArray⟩ u) ⟨h', s.gens, s.drawn, tk, s.os⟩) :
    wpAny (model pg w) A (call (.ref 99) [.str ⟨(txt en le ts).toArray⟩ t]) Q E s := by
  refine wpAny_call ?_
  refine codeAny_call_def (fd := fdOf (hd.zo_116 w.params)) (body := bdOf (hd.zo_116 w.params)) (binds := [(n_data, .str ⟨(txt en le ts).toArray⟩ t)]) hA.room (P.k 99 _ rfl) rfl P.noLimit ⟨98, _, _, _, rfl, P.k 98 _ rfl, rfl, rfl⟩ rfl (fun M A E Q hq => pu_any hq) (nc_ok rfl) (locs rfl) (fun h₀ hns hk => ?_)
  have J : In w s.heap s.heap.objs.size [(n_data, .str ⟨(txt en le ts).toArray⟩ t)] [] h₀ := In.start (a := 0) P hns hk
  clear hns hk
  have hen : en.cps.size ≤ 2 := by rw [← Array.length_toList]; rcases he with e | e | e <;> rw [e] <;> decide
  have l1 := txt_len hen (by omega) (le := le) ts
  have l2 := txt_len (en := crlf) (n := 2) (by decide) (by omega) (le := le) ts
  refine wpAny_execs_cons (wpAny_Return_some (MethodCall_ (r_glob J rfl ?_)))
  refine getMethod_builtin (T := "re.Pattern") ⟨_, J.lp.k 87 _ rfl, rfl⟩ attrs_re slot_re_sub type_re_sub (fun a e => by cases e; exact ⟨_, J.lp.k 87 _ rfl, rfl⟩) ?_
  refine callWith_method1 ?_
  refine Calls.spliced_cons ?_
  refine f_strc (k := 0) (pos := ⟨103, 26, 103, 30⟩) ?_
  refine Calls.spliced_cons (MethodCall_ (r_glob J rfl ?_))
  refine getMethod_builtin (T := "re.Pattern") ⟨_, J.lp.k 92 _ rfl, rfl⟩ attrs_re slot_re_sub type_re_sub (fun a e => by cases e; exact ⟨_, J.lp.k 92 _ rfl, rfl⟩) ?_
  refine callWith_method1 (Calls.spliced_cons (r_glob J rfl (Calls.spliced_cons (r_name J rfl (Calls.spliced_nil ?_)))))
  have S2 := sub2 he hl (X := (txt en le ts).toArray) ts 0 0 (Nat.le_refl _) (Nat.zero_le _) rfl (fun q _ h => by omega)
  refine re_sub (out := txt crlf le ts) ⟨_, J.lp.k 92 _ rfl, rfl⟩ J.lp.pat2 (by rw [List.size_toArray]; omega) (by decide) (by decide +kernel) S2 ?_
  intro h1 tk1 t1 k1
  have J := J.keepAll k1
  refine Calls.spliced_nil ?_
  have S1 := sub1 hl (X := (txt crlf le ts).toArray) (by rw [List.size_toArray]; omega) ts 0 0 (Nat.le_refl _) (Nat.zero_le _) rfl (fun q _ h => by omega)
  refine re_sub (out := wr le true ts) ⟨_, J.lp.k 87 _ rfl, rfl⟩ J.lp.pat1 (by rw [List.size_toArray]; omega) (by decide) (by decide +kernel) S1 ?_
  intro h2 tk2 t2 k2
  have J := J.keepAll k2
  exact h _ _ _ J.keep J.lp
end Mine
end
section
open PySem PySem.W PySem.W.X PyProof.Rows
set_option maxRecDepth 100000
set_option Elab.async false
namespace Mine
/-! ## closures -/
/-- objects that stand -/
abbrev Own (h : Heap) (own : List (Addr × Obj)) : Prop := ∀ p ∈ own, h.get? p.1 = some p.2 ∧ p.1 ≠ 47 ∧ p.1 ≠ 54
theorem Own.kp {h h' : Heap} {own : List (Addr × Obj)} (O : Own h own) (k : Kp h h') : Own h' own := fun p hp => ⟨k _ _ (O p hp).2.1 (O p hp).2.2 (O p hp).1, (O p hp).2⟩
theorem In.startO {w : World} {h₀ h : Heap} {own : List (Addr × Obj)} {binds : List (Str × Value)} (P : LP w h₀) (O : Own h₀ own) (hns : h.Ns h₀.objs.size (fun x => binds.reverse.lookup x)) (hk : ∀ b o, h₀.get? b = some o → h.get? b = some o) : In w h₀ h₀.objs.size binds.reverse own h :=
  ⟨P.keeps hk, ⟨_, hns, Has.of_lookup _⟩, Kp.of hk, Nat.le_refl _, P.size, fun p hp => ⟨hk _ _ (O p hp).1, Nat.ne_of_lt (Heap.lt_size (O p hp).1), (O p hp).2⟩⟩
theorem In.own' {w : World} {h₀ h : Heap} {L : Addr} {l : List (Str × Value)} {own : List (Addr × Obj)} (J : In w h₀ L l own h) : Own h own := fun p hp => ⟨(J.own p hp).1, (J.own p hp).2.2⟩
section
variable {w : World} {A : Around} {E : Value → Shared → Prop} {h₀ : Heap} {s : Shared} {L : Addr} {l : List (Str × Value)} {own : List (Addr × Obj)} {env : Env}
theorem r_free {x : Str} {v : Value} {pos : Pos} {c : Addr} {o : Obj} {Q : Value → Shared → Prop} (J : In w h₀ L l own s.heap) (hc : env.cells.lookup x = some c) (hm : (c, o) ∈ own) (hd : o.data = .cell (some v)) (h : Q v s)
    (hk : env.scope.kind = .function := by rfl) (hl : env.kindOf x = some .free := by rfl) (hb : (x == ("__debug__" : Str)) = false := by decide) (hn : (x == ("__classdict__" : Str)) = false := by decide) :
    wpAny (model pg w) A (eval (.Name x pos) env) Q E s := wpAny_Name (wpAny_loadName_free hk hl hc ⟨o, (J.own _ hm).1, hd⟩ h hn) hb
end
section
variable {w : World} {A : Around} {E : Value → Shared → Prop} {hp : Heap} {g : Array GenState} {d : Drawn} {tk : Nat} {os : OsState} {Q : Value → Shared → Prop} {a b : Int} {t u : Tok}
theorem f_rsh (hb : 0 ≤ b) (h : Q (.int (a / 2 ^ b.toNat) tk) ⟨hp, g, d, tk + 1, os⟩) : wpAny (model pg w) A (binaryOp .RShift (.int a t) (.int b u)) Q E ⟨hp, g, d, tk, os⟩ := by
  refine PyProof.Rows.rshift_int hb ?_
  rw [Int.fdiv_eq_ediv_of_nonneg _ (Int.le_of_lt (kbt_pos _))]
  exact h
theorem f_lsh (hb : 0 ≤ b) (hs : (Builtin.Int.intBits a : Int) + b ≤ 2 ^ 27) (h : Q (.int (a * 2 ^ b.toNat) tk) ⟨hp, g, d, tk + 1, os⟩) : wpAny (model pg w) A (binaryOp .LShift (.int a t) (.int b u)) Q E ⟨hp, g, d, tk, os⟩ := PyProof.Rows.lshift_int hb hs h
theorem f_xor (h : Q (.int (Builtin.bitXor a b) tk) ⟨hp, g, d, tk + 1, os⟩) : wpAny (model pg w) A (binaryOp .BitXor (.int a t) (.int b u)) Q E ⟨hp, g, d, tk, os⟩ := PyProof.Rows.xor_int h
end
/-- the nested def of a body -/
noncomputable def ndB : List Stmt → List Stmt
  | [] => []
  | .FunctionDef _ _ b _ _ _ _ _ _ _ :: _ => b
  | _ :: r => ndB r
noncomputable def ndS : List Stmt → Scope
  | [] => default
  | .FunctionDef _ _ _ _ _ _ s _ _ _ :: _ => s
  | _ :: r => ndS r
noncomputable def ndP : List Stmt → Arguments
  | [] => default
  | .FunctionDef _ p _ _ _ _ _ _ _ _ :: _ => p
  | _ :: r => ndP r
/-- the worth of k digits from a place on -/
def Vd (n : Nat) (xs : List Int) : Nat → Nat → Int
  | _, 0 => 0
  | L, k + 1 => xs.getD L 0 + 2 ^ n * Vd n xs (L + 1) k
theorem Vd_add (n : Nat) (xs : List Int) : ∀ (a b L : Nat), Vd n xs L (a + b) = Vd n xs L a + 2 ^ (n * a) * Vd n xs (L + a) b
  | 0, b, L => by simp [Vd]
  | a + 1, b, L => by
    rw [show a + 1 + b = (a + b) + 1 by omega, Vd, Vd, Vd_add n xs a b (L + 1), show L + 1 + a = L + (a + 1) by omega, Nat.mul_add, Nat.mul_one, Nat.add_comm (n * a) n, Int.pow_add, Int.mul_add, Int.mul_assoc, Int.add_assoc]
theorem Vd_bd {n : Nat} {xs : List Int} (h : ∀ i, i < xs.length → 0 ≤ xs.getD i 0 ∧ xs.getD i 0 < 2 ^ n) : ∀ (k L : Nat), L + k ≤ xs.length → 0 ≤ Vd n xs L k ∧ Vd n xs L k < 2 ^ (n * k)
  | 0, L, _ => by simp [Vd]
  | k + 1, L, hk => by
    obtain ⟨a, b⟩ := Vd_bd h k (L + 1) (by omega)
    obtain ⟨c, d⟩ := h L (by omega)
    have p := kbt_pos n
    rw [Vd, Nat.mul_add, Nat.mul_one, Nat.add_comm (n * k) n, Int.pow_add]
    have e1 : 0 ≤ (2 : Int) ^ n * Vd n xs (L + 1) k := Int.mul_nonneg (Int.le_of_lt p) a
    have e2 : (2 : Int) ^ n * Vd n xs (L + 1) k ≤ 2 ^ n * (2 ^ (n * k) - 1) := Int.mul_le_mul_of_nonneg_left (by omega) (Int.le_of_lt p)
    rw [Int.mul_sub, Int.mul_one] at e2
    omega
theorem bits_le {x : Int} {m : Nat} (h0 : 0 ≤ x) (h : x < 2 ^ m) : Builtin.Int.intBits x ≤ m := by
  rw [intBits_le_iff]
  have := kbt_cast m
  omega
end Mine
end
section
namespace Mine
open PySem
abbrev n_digits : Str := ⟨⟨[100, 105, 103, 105, 116, 115]⟩⟩
abbrev n_inner : Str := ⟨⟨[105, 110, 110, 101, 114]⟩⟩
abbrev n_shift : Str := ⟨⟨[115, 104, 105, 102, 116]⟩⟩
abbrev n_upper : Str := ⟨⟨[117, 112, 112, 101, 114]⟩⟩
abbrev n_lower : Str := ⟨⟨[108, 111, 119, 101, 114]⟩⟩
abbrev n_L : Str := ⟨⟨[76]⟩⟩
abbrev n_R : Str := ⟨⟨[82]⟩⟩
abbrev n_ended : Str := ⟨⟨[101, 110, 100, 101, 100]⟩⟩
abbrev n_doubled : Str := ⟨⟨[100, 111, 117, 98, 108, 101, 100]⟩⟩
end Mine
end
section
open PySem PySem.W PySem.W.X PyProof.Rows
set_option maxRecDepth 100000
set_option Elab.async false
namespace Mine
noncomputable abbrev b82 (w : World) : List Stmt := bdOf (hd.zo_82 w.params)
noncomputable abbrev fd82 (w : World) (cl : List (Str × Addr)) (doc pm : Value) (c' : Addr) (ctv : Value) : FuncData := fnX n_inner q54 (ndP (b82 w)) (ndB (b82 w)) (ndS (b82 w)) cl .none .none doc pm none (.ref c') ctv
structure Env82 (w : World) (D : Addr) (n : Nat) (f : Addr) (cl : List (Str × Addr)) (doc pm : Value) (c' : Addr) (ctv : Value) (own : List (Addr × Obj)) : Prop where
  fo : (f, ({ cls := .type "function", data := .func (fd82 w cl doc pm c' ctv) } : Obj)) ∈ own
  cd : ∃ oc vs t, (c', oc) ∈ own ∧ oc.data = .fields vs ∧ vs[1]? = some (.str q54 t)
  dg : ∃ c o, cl.lookup n_digits = some c ∧ (c, o) ∈ own ∧ o.data = .cell (some (.ref D))
  inn : ∃ c o, cl.lookup n_inner = some c ∧ (c, o) ∈ own ∧ o.data = .cell (some (.ref f))
  nn : ∃ c o t, cl.lookup n_n = some c ∧ (c, o) ∈ own ∧ o.data = .cell (some (.int n t))
set_option maxHeartbeats 2000000
theorem inner82 {w : World} {D : Addr} {n : Nat} {f : Addr} {cl : List (Str × Addr)} {doc pm : Value} {c' : Addr} {ctv : Value} {own : List (Addr × Obj)} (V : Env82 w D n f cl doc pm c' ctv own) (hn : n ≤ 1000)
    {vs : List Value} {xs : List Int} (hi : IntsAre vs xs) (hxs : xs.length ≤ 1000) (hbd : ∀ i, i < xs.length → 0 ≤ xs.getD i 0 ∧ xs.getD i 0 < 2 ^ n) :
    ∀ (d : Nat) {A : Around} {E : Value → Shared → Prop} {s : Shared} (_ : Rm A (d + 1)) {l r : Nat} {lz rz : Int} {t u : Tok} {Q : Value → Shared → Prop}, l < r → r ≤ xs.length → 2 * (r - l) ≤ 2 ^ d → lz = l → rz = r → LP w s.heap → Own s.heap own → s.heap.IsList D vs.toArray →
      (∀ u h' tk, Kp s.heap h' → LP w h' → Q (.int (Vd n xs l (r - l)) u) ⟨h', s.gens, s.drawn, tk, s.os⟩) → wpAny (model pg w) A (call (.ref f) [.int lz t, .int rz u]) Q E s := by
  intro d
  induction d with
  | zero =>
    intro A E s hA l r lz rz t u Q hlr hr hd hlz hrz P O hl h
    exfalso; omega
  | succ d ih =>
    intro A E s hA l r lz rz t u Q hlr hr hd hlz hrz P O hl h
    obtain ⟨oc, cvs, ct, hcm, hcd, hcv⟩ := V.cd
    obtain ⟨cD, oD, hcD, hmD, hdD⟩ := V.dg
    obtain ⟨cI, oI, hcI, hmI, hdI⟩ := V.inn
    obtain ⟨cN, oN, tN, hcN, hmN, hdN⟩ := V.nn
    refine wpAny_call ?_
    refine codeAny_call_def (fd := fd82 w cl doc pm c' ctv) (body := ndB (b82 w)) (binds := [(n_L, .int lz t), (n_R, .int rz u)]) hA.room (O _ V.fo).1 rfl P.noLimit ⟨c', oc, cvs, ct, rfl, (O _ hcm).1, hcd, hcv⟩ rfl (fun M A E Q hq => pu_any hq) (nc_ok rfl) (locs rfl) (fun h₀ hns hk => ?_)
    have J : In w s.heap s.heap.objs.size [(n_R, .int rz u), (n_L, .int lz t)] own h₀ := In.startO P O hns hk
    clear hns hk
    have hAd := hA.deeper (callEnv (fd82 w cl doc pm c' ctv) s.heap.objs.size f)
    refine wpAny_execs_cons (wpAny_If (wpAny_isTrue_Compare1 (wpAny_BinOp (r_name J rfl (f_int (f_add (r_name J rfl (eq_int (wpAny_truthy_bool ?_)))))))))
    by_cases h1 : l + 1 = r
    · rw [if_pos (by simp; omega)]
      refine wpAny_execs_cons (wpAny_Return_some (Subscript_ (r_free J hcD hmD hdD (r_name J rfl (f_item (n := l) (J.list P hl) hi hlz (by omega) (by omega) ?_)))))
      intro t'
      have e : Vd n xs l (r - l) = xs.getD l 0 := by rw [show r - l = 0 + 1 by omega]; simp [Vd]
      rw [← e]
      exact h _ _ _ J.keep J.lp
    · rw [if_neg (by simp; omega)]
      refine wpAny_execs_nil ?_
      refine wpAny_execs_cons (wpAny_Assign_Name (wpAny_BinOp (wpAny_BinOp (r_name J rfl (r_name J rfl (f_add (f_int (f_rsh (by decide) (f_store J ?_)))))))))
      intro h2 J
      obtain ⟨m, hm⟩ : ∃ m : Nat, m = (l + r) / 2 := ⟨_, rfl⟩
      have hmz : (lz + rz) / 2 ^ (1 : Int).toNat = (m : Int) := by rw [show (2 : Int) ^ (1 : Int).toNat = 2 from rfl]; omega
      generalize (lz + rz) / 2 ^ (1 : Int).toNat = mz at J hmz
      have p2 : 2 ^ (d + 1) = 2 * 2 ^ d := by rw [Nat.pow_succ, Nat.mul_comm]
      obtain ⟨q, p3⟩ : ∃ q, 2 ^ d = 2 * q := by
        cases d with
        | zero => exfalso; omega
        | succ d => exact ⟨2 ^ d, by rw [Nat.pow_succ, Nat.mul_comm]⟩
      refine wpAny_execs_cons (wpAny_Assign_Name (wpAny_BinOp (wpAny_BinOp (r_name J rfl (r_name J rfl (f_sub (r_free J hcN hmN hdN (f_mul ?_ (f_store J ?_)))))))))
      · exact IntMulOk.of_le (m := 10) (n := 10) (bits_le (by omega) (by omega)) (bits_le (by omega) (by omega)) (by decide)
      intro h3 J
      have hsz : (mz - lz) * n = ((n * (m - l) : Nat) : Int) := by
        rw [hmz, hlz, Nat.mul_comm]; rw [Int.natCast_mul, Int.natCast_sub (by omega)]
      generalize (mz - lz) * n = sz at J hsz
      refine wpAny_execs_cons (wpAny_Return_some (wpAny_BinOp (wpAny_BinOp (wpAny_Call_NameR (r_free J hcI hmI hdI (f_callee (fd := fd82 w cl doc pm c' ctv) rfl (Calls.spliced_cons (r_name J rfl (Calls.spliced_cons (r_name J rfl (Calls.spliced_nil ⟨(J.own _ V.fo).1, ?_⟩)))))))))))
      refine ih hAd (l := m) (r := r) (by omega) hr (by omega) hmz hrz J.lp J.own' (J.list P hl) ?_
      intro u4 h4 tk4 k4 P4
      have J := J.grow k4 P4
      obtain ⟨v0, v1⟩ := Vd_bd hbd (r - m) m (by omega)
      refine r_name J rfl (f_lsh (by omega) ?_ ?_)
      · have := bits_le v0 v1
        have e1 : n * (r - m) ≤ 1000 * 1000 := Nat.mul_le_mul hn (by omega)
        have e2 : n * (m - l) ≤ 1000 * 1000 := Nat.mul_le_mul hn (by omega)
        omega
      refine wpAny_Call_NameR (r_free J hcI hmI hdI (f_callee (fd := fd82 w cl doc pm c' ctv) rfl (Calls.spliced_cons (r_name J rfl (Calls.spliced_cons (r_name J rfl (Calls.spliced_nil ⟨(J.own _ V.fo).1, ?_⟩)))))))
      refine ih hAd (l := l) (r := m) (by omega) (by omega) (by omega) hlz hmz J.lp J.own' (J.list P hl) ?_
      intro u5 h5 tk5 k5 P5
      have J := J.grow k5 P5
      refine f_add ?_
      have e : Vd n xs l (r - l) = Vd n xs m (r - m) * 2 ^ sz.toNat + Vd n xs l (m - l) := by
        rw [show r - l = (m - l) + (r - m) by omega, Vd_add, show l + (m - l) = m by omega, hsz, Int.toNat_natCast, Int.mul_comm, Int.add_comm]
      rw [← e]
      exact h _ _ _ J.keep J.lp
end Mine
end
section
open PySem PySem.W PySem.W.X PyProof.Rows
set_option maxRecDepth 100000
set_option Elab.async false
namespace Mine
theorem K2_ne {P : Params} {a : Addr} {o : Obj} (h : (K2 P).lookup a = some o) : a ≠ 47 ∧ a ≠ 54 := by
  have := (List.mem_filter.mp (lookup_mem h)).2
  simp only [Bool.not_eq_true', Bool.or_eq_false_iff, beq_eq_false_iff_ne] at this
  exact this
theorem LP.ext47 {w : World} {h h' : Heap} (P : LP w h) (x : Heap.ExtBut 47 h h') (T : Tab h' 47 pos47 q47) : LP w h' := by
  refine ⟨fun a o e => x a o (K2_ne e).1 (P.k a o e), T, ?_⟩
  obtain ⟨ps, a, b, c⟩ := P.t54
  refine ⟨ps, x _ _ (by decide) a, b, c.imp id ?_⟩
  rintro ⟨c', e, ⟨c2, oc, vs, t, e2, r1, r2, r3⟩, r'⟩
  cases e2
  exact ⟨c', e, ⟨c', oc, vs, t, rfl, x _ _ (ne47 r') r1, r2, r3⟩, r'⟩
theorem LP.ext54 {w : World} {h h' : Heap} (P : LP w h) (x : Heap.ExtBut 54 h h') (T : Tab h' 54 pos54 q54) : LP w h' := by
  refine ⟨fun a o e => x a o (K2_ne e).2 (P.k a o e), ?_, T⟩
  obtain ⟨ps, a, b, c⟩ := P.t47
  refine ⟨ps, x _ _ (by decide) a, b, c.imp id ?_⟩
  rintro ⟨c', e, ⟨c2, oc, vs, t, e2, r1, r2, r3⟩, r'⟩
  cases e2
  exact ⟨c', e, ⟨c', oc, vs, t, rfl, x _ _ (ne54 r') r1, r2, r3⟩, r'⟩
theorem LP.bat {w : World} {h : Heap} (P : LP w h) {pl : Addr} (hp : pl ≠ 4) : h.BuiltinsAt (fun n => lkD n (esOf (hd.zo_42 w.params)).toList) pl :=
  ⟨4, _, rfl, by decide, by decide, hp.symm, P.k 4 _ rfl, rfl, rfl, rfl⟩
section
variable {w : World} {A : Around} {E : Value → Shared → Prop} {h₀ : Heap} {s : Shared} {L : Addr} {l : List (Str × Value)} {own : List (Addr × Obj)} {env : Env}
/-- a cell is written -/
theorem r_storec {x : Str} {v : Value} {v₀ : Option Value} {c : Addr} {o : Obj} {Q : Unit → Shared → Prop} (J : In w h₀ L l ((c, o) :: own) s.heap) (hd : o.data = .cell v₀) (hc : env.cells.lookup x = some c) (hfr : h₀.objs.size ≤ c) (h138 : 138 ≤ c) (hne : ∀ p ∈ own, p.1 ≠ c)
    (h : ∀ h' o', o'.data = .cell (some v) → In w h₀ L l ((c, o') :: own) h' → Q () { s with heap := h' })
    (hk : env.scope.kind = .function := by rfl) (hl : env.kindOf x = some .cell := by rfl) : wpAny (model pg w) A (storeName env x v) Q E s := by
  have hm := J.own _ (.head _)
  refine wpAny_storeName_cell hk hl hc ⟨o, hm.1, hd⟩ fun h' hv hs => ?_
  obtain ⟨o', ho', hd'⟩ := hv
  refine h h' o' hd' ⟨J.lp.but hm.1 (fun vs => by rw [hd]; exact fun z => nomatch z) h138 (fun b o hb e => (hs.2 b hb).trans e), ?_, fun b o' n1 n2 e => (hs.2 b ?_).trans (J.keep b o' n1 n2 e), J.fresh, J.low, fun p hp => ?_⟩
  · obtain ⟨m, a, b⟩ := J.ns
    exact ⟨m, a.sameBut hs hm.2.1.symm, b⟩
  · exact Nat.ne_of_lt (Nat.lt_of_lt_of_le (Heap.lt_size e) hfr)
  · rcases List.mem_cons.mp hp with rfl | hp
    · exact ⟨ho', hm.2⟩
    · have := J.own _ (.tail _ hp)
      exact ⟨(hs.2 _ (hne p hp)).trans this.1, this.2⟩
/-- a nested def is made: its code lies in the table already, or is laid there -/
theorem r_make {name : Str} {params : Arguments} {body : List Stmt} {scope : Scope} {clos : List (Str × Addr)} {c P : Addr} {pos : Pos} {q : Str} {line : Nat} {Q : Value → Shared → Prop} (J : In w h₀ L l own s.heap)
    (hcl : closureFor scope env = pure clos) (hgl : env.globals = mainGlobals) (hcode : env.code = .ref c) (C : CodeHd s.heap c P) (T : Tab s.heap P pos q) (hP : P = 47 ∨ P = 54) (hlp : ∀ h', Heap.ExtBut P s.heap h' → Tab h' P pos q → LP w h')
    (h : ∀ f c' oc vs t ctv doc pm h' tk, In w h₀ L l ((f, fnMade name q params body scope clos doc pm c' ctv) :: (c', oc) :: own) h' → oc.data = .fields vs → vs[1]? = some (.str q t) → s.heap.objs.size ≤ f → Q (.ref f) { s with heap := h', toks := tk }) :
    wpAny (model pg w) A (makeFunction name q params (.stmts body) scope env [] [] [] pos line) Q E s := by
  obtain ⟨ps, tp, tt, tc⟩ := T
  have hP3 : mainGlobals ≠ P := by rcases hP with rfl | rfl <;> decide
  have hP4 : P ≠ 4 := by rcases hP with rfl | rfl <;> decide
  have hLP : L ≠ P := by rcases hP with rfl | rfl <;> first | exact ne47 J.low | exact ne54 J.low
  obtain ⟨m, hns, hm⟩ := J.ns
  rcases tc with hnf | ⟨c', hf, ⟨c2, oc, vs, t, e2, hoc, hd, hv⟩, h138⟩
  · refine makeFunction_K hcl hgl J.lp.glob hcode C tp tt hnf hP3 (J.lp.bat hP4) fun c' ctv doc h' tk hx hge hlt hrec htb => ?_
    have hrec' := hrec
    obtain ⟨c2, oc, vs, t, e2, hoc, hd, hv⟩ := hrec
    cases e2
    have h138 : 138 ≤ c' := Nat.le_trans J.lp.size hge
    have P' : LP w h' := hlp h' hx ⟨_, htb, by simpa using TriplesOk_snoc pos.line pos.col (.ref c') _ tt, .inr ⟨c', by simpa using codeAmong_snoc _ tt hnf, hrec', h138⟩⟩
    have hsz : s.heap.objs.size ≤ h'.objs.size := Nat.le_trans hge (Nat.le_of_lt hlt)
    refine h h'.objs.size c' oc vs t ctv doc (((fun n => lkD n (esOf (Mine.hd.zo_42 w.params)).toList) "__name__").getD .none) _ tk ⟨P'.push _, ⟨m, (hns.extBut hx hLP).push _, hm⟩, fun b o n1 n2 e => Heap.get?_push_of_some _ (hx b o (by rcases hP with rfl | rfl <;> assumption) (J.keep b o n1 n2 e)), J.fresh, J.low, fun p hp => ?_⟩ hd hv hsz
    rcases List.mem_cons.mp hp with rfl | hp
    · exact ⟨Heap.get?_push_size _ rfl, Nat.ne_of_gt (Nat.lt_of_lt_of_le J.lt hsz), ne47 (Nat.le_trans J.lp.size hsz), ne54 (Nat.le_trans J.lp.size hsz)⟩
    · rcases List.mem_cons.mp hp with rfl | hp
      · exact ⟨Heap.get?_push_of_some _ hoc, Nat.ne_of_gt (Nat.lt_of_lt_of_le J.lt hge), ne47 h138, ne54 h138⟩
      · have := J.own p hp
        exact ⟨Heap.get?_push_of_some _ (hx _ _ (by rcases hP with rfl | rfl <;> first | exact this.2.2.1 | exact this.2.2.2) this.1), this.2⟩
  · cases e2
    refine makeFunction_hit hcl hgl J.lp.glob hcode C tp tt hf (J.lp.bat hP4) fun ctv doc h' tk hk hsz => ?_
    refine h h'.objs.size c' oc vs t ctv doc (((fun n => lkD n (esOf (Mine.hd.zo_42 w.params)).toList) "__name__").getD .none) _ tk ⟨(J.lp.keeps hk).push _, ⟨m, (hns.keeps hk).push _, hm⟩, fun b o n1 n2 e => Heap.get?_push_of_some _ (hk b o (J.keep b o n1 n2 e)), J.fresh, J.low, fun p hp => ?_⟩ hd hv hsz
    rcases List.mem_cons.mp hp with rfl | hp
    · exact ⟨Heap.get?_push_size _ rfl, Nat.ne_of_gt (Nat.lt_of_lt_of_le J.lt hsz), ne47 (Nat.le_trans J.lp.size hsz), ne54 (Nat.le_trans J.lp.size hsz)⟩
    · rcases List.mem_cons.mp hp with rfl | hp
      · refine ⟨Heap.get?_push_of_some _ (hk _ _ hoc), ?_, ne47 h138, ne54 h138⟩
        rintro rfl
        obtain ⟨o, es, ep, ho, hdd, _⟩ := hns
        rw [hoc] at ho; cases ho; rw [hd] at hdd; cases hdd
      · exact ⟨Heap.get?_push_of_some _ (hk _ _ (J.own p hp).1), (J.own p hp).2⟩
end
section
variable {w : World} {A : Around} {E : Value → Shared → Prop} {h₀ hp : Heap} {g : Array GenState} {d : Drawn} {tk : Nat} {os : OsState} {L : Addr} {l : List (Str × Value)} {own : List (Addr × Obj)} {env : Env}
theorem f_storec {x : Str} {v : Value} {v₀ : Option Value} {c : Addr} {o : Obj} {Q : Unit → Shared → Prop} (J : In w h₀ L l ((c, o) :: own) hp) (hd : o.data = .cell v₀) (hc : env.cells.lookup x = some c) (hfr : h₀.objs.size ≤ c) (h138 : 138 ≤ c) (hne : ∀ p ∈ own, p.1 ≠ c)
    (h : ∀ h' o', o'.data = .cell (some v) → In w h₀ L l ((c, o') :: own) h' → Q () ⟨h', g, d, tk, os⟩)
    (hk : env.scope.kind = .function := by rfl) (hl : env.kindOf x = some .cell := by rfl) : wpAny (model pg w) A (storeName env x v) Q E ⟨hp, g, d, tk, os⟩ := r_storec (s := ⟨hp, g, d, tk, os⟩) J hd hc hfr h138 hne h hk hl
theorem f_make {name : Str} {params : Arguments} {body : List Stmt} {scope : Scope} {clos : List (Str × Addr)} {c P : Addr} {pos : Pos} {q : Str} {line : Nat} {Q : Value → Shared → Prop} (J : In w h₀ L l own hp)
    (hcl : closureFor scope env = pure clos) (hgl : env.globals = mainGlobals) (hcode : env.code = .ref c) (C : CodeHd hp c P) (T : Tab hp P pos q) (hP : P = 47 ∨ P = 54) (hlp : ∀ h', Heap.ExtBut P hp h' → Tab h' P pos q → LP w h')
    (h : ∀ f c' oc vs t ctv doc pm h' tk, In w h₀ L l ((f, fnMade name q params body scope clos doc pm c' ctv) :: (c', oc) :: own) h' → oc.data = .fields vs → vs[1]? = some (.str q t) → hp.objs.size ≤ f → Q (.ref f) ⟨h', g, d, tk, os⟩) :
    wpAny (model pg w) A (makeFunction name q params (.stmts body) scope env [] [] [] pos line) Q E ⟨hp, g, d, tk, os⟩ := r_make (s := ⟨hp, g, d, tk, os⟩) J hcl hgl hcode C T hP hlp h
end
end Mine
end
section
open PySem PySem.W PySem.W.X PyProof.Rows
set_option maxRecDepth 100000
set_option Elab.async false
namespace Mine
theorem nsz {n k : Nat} (h : 138 ≤ n) : n + (k + 1) ≠ n ∧ n + (k + 1) ≠ 47 ∧ n + (k + 1) ≠ 54 := by omega
theorem f_tlist {w : World} {A : Around} {E : Value → Shared → Prop} {hp : Heap} {g : Array GenState} {d : Drawn} {tk : Nat} {os : OsState} {l : Addr} {vs : List Value} {Q : Bool → Shared → Prop} (hl : hp.IsList l vs.toArray) (hs : vs.length < 1000000) (h : Q (!vs.toArray.isEmpty) ⟨hp, g, d, tk + 1 + 1, os⟩) : wpAny (model pg w) A (truthy (.ref l)) Q E ⟨hp, g, d, tk, os⟩ :=
  wpAny_truthy_list (s := ⟨hp, g, d, tk, os⟩) hl (by rw [List.size_toArray]; omega) h
theorem nsz' {n a b : Nat} (h : a ≠ b) : n + a ≠ n + b := by omega
set_option maxHeartbeats 2000000
theorem d2i_spec {w : World} {A : Around} {E : Value → Shared → Prop} {s : Shared} (P : LP w s.heap) (hA : Rm A 13) {D : Addr} {n : Nat} {vs : List Value} {xs : List Int} {t : Tok} (hn : n ≤ 1000) (hi : IntsAre vs xs) (hxs : xs.length ≤ 1000) (hbd : ∀ i, i < xs.length → 0 ≤ xs.getD i 0 ∧ xs.getD i 0 < 2 ^ n)
    (hl : s.heap.IsList D vs.toArray) {Q : Value → Shared → Prop}
    (h : ∀ u h' tk, Kp s.heap h' → LP w h' → Q (.int (Vd n xs 0 xs.length) u) ⟨h', s.gens, s.drawn, tk, s.os⟩) : wpAny (model pg w) A (call (.ref 59) [.ref D, .int n t]) Q E s := by
  refine wpAny_call ?_
  refine codeAny_call_cells (fd := fdOf (hd.zo_82 w.params)) (body := bdOf (hd.zo_82 w.params)) (binds := [(n_digits, .ref D), (n_n, .int n t)]) hA.room (P.k 59 _ rfl) rfl P.noLimit ⟨58, _, _, _, rfl, P.k 58 _ rfl, rfl, rfl⟩ rfl rfl rfl
    (List.forall_mem_cons.mpr ⟨.inr ⟨rfl, rfl⟩, List.forall_mem_cons.mpr ⟨.inr ⟨rfl, rfl⟩, fun _ h => nomatch h⟩⟩) (fun s₁ X => ?_)
  obtain ⟨h₁, tk, e, _⟩ := X.toInCall.done
  subst e
  obtain ⟨o1, ho1, hd1⟩ := X.cell n_digits (s.heap.objs.size + 1) rfl
  obtain ⟨o2, ho2, hd2⟩ := X.cell n_n (s.heap.objs.size + 2) rfl
  obtain ⟨o3, ho3, hd3⟩ := X.cell n_inner (s.heap.objs.size + 3) rfl
  have hd1 : o1.data = .cell (some (.ref D)) := hd1
  have hd2 : o2.data = .cell (some (.int n t)) := hd2
  have hd3 : o3.data = .cell none := hd3
  have hz := P.size
  have J : In w s.heap s.heap.objs.size [] [(s.heap.objs.size + 3, o3), (s.heap.objs.size + 1, o1), (s.heap.objs.size + 2, o2)] h₁ :=
    ⟨P.keeps X.toInCall.keep, ⟨_, X.toInCall.ns, Has.n⟩, Kp.of X.toInCall.keep, Nat.le_refl _, P.size, fun p hp => by
      rcases List.mem_cons.mp hp with rfl | hp
      · exact ⟨ho3, nsz (k := 2) hz⟩
      · rcases List.mem_cons.mp hp with rfl | hp
        · exact ⟨ho1, nsz (k := 0) hz⟩
        · rw [List.mem_singleton.mp hp]
          exact ⟨ho2, nsz (k := 1) hz⟩⟩
  have b3 := Heap.lt_size ho3
  clear X ho1 ho2 ho3
  have hAd := hA.deeper (n := 12) (callEnvC (fdOf (hd.zo_82 w.params)) s.heap.objs.size 59)
  generalize hLe : s.heap.objs.size = L at *
  refine wpAny_execs_cons (nestDef_K rfl rfl rfl ?_)
  refine f_make (c := 58) (P := 54) (pos := pos54) (q := q54) J rfl rfl rfl (codeHd_of_K J.lp.k rfl) J.lp.t54 (.inr rfl) (fun h' => J.lp.ext54) ?_
  intro f c' oc cvs ct ctv doc pm h2 tk2 J hcd hcv hf
  have J' : In w s.heap L [] ((L + 3, o3) :: [(f, _), (c', oc), (L + 1, o1), (L + 2, o2)]) h2 := J.sub fun p hp => by
    rcases List.mem_cons.mp hp with rfl | hp
    · exact .tail _ (.tail _ (.head _))
    · rcases List.mem_cons.mp hp with rfl | hp
      · exact .head _
      · rcases List.mem_cons.mp hp with rfl | hp
        · exact .tail _ (.head _)
        · exact .tail _ (.tail _ (.tail _ hp))
  have a3 := (J'.own _ (.head _)).1
  have af : L + 3 < f := Nat.lt_of_lt_of_le b3 hf
  refine f_storec J' hd3 rfl (by rw [hLe]; exact Nat.le_add_right _ _) (Nat.le_trans hz (Nat.le_add_right _ _)) (fun p hp => ?_) ?_
  · rcases List.mem_cons.mp hp with rfl | hp
    · exact Nat.ne_of_gt af
    · rcases List.mem_cons.mp hp with rfl | hp
      · intro e
        have a4 := (J'.own _ (.tail _ (.tail _ (.head _)))).1
        change c' = L + 3 at e
        rw [show (c', oc).1 = L + 3 from e, a3] at a4
        cases a4
        rw [hcd] at hd3; cases hd3
      · rcases List.mem_cons.mp hp with rfl | hp
        · exact nsz' (by decide)
        · rw [List.mem_singleton.mp hp]; exact nsz' (by decide)
  intro h3 o3' hd3' J
  have J : In w s.heap L [] [(L + 3, o3'), (f, { cls := .type "function", data := .func (fd82 w [(n_n, L + 2), (n_inner, L + 3), (n_digits, L + 1)] doc pm c' ctv) }), (c', oc), (L + 1, o1), (L + 2, o2)] h3 := J
  have V : Env82 w D n f [(n_n, L + 2), (n_inner, L + 3), (n_digits, L + 1)] doc pm c' ctv [(L + 3, o3'), (f, { cls := .type "function", data := .func (fd82 w [(n_n, L + 2), (n_inner, L + 3), (n_digits, L + 1)] doc pm c' ctv) }), (c', oc), (L + 1, o1), (L + 2, o2)] := ⟨.tail _ (.head _), ⟨oc, cvs, ct, .tail _ (.tail _ (.head _)), hcd, hcv⟩, ⟨L + 1, o1, rfl, .tail _ (.tail _ (.tail _ (.head _))), hd1⟩, ⟨L + 3, o3', rfl, .head _, hd3'⟩, ⟨L + 2, o2, t, rfl, .tail _ (.tail _ (.tail _ (.tail _ (.head _)))), hd2⟩⟩
  have hvl : vs.length = xs.length := IntsAre.length hi
  refine wpAny_execs_cons (wpAny_Return_some (IfExp_ (isTrue_plain (r_cell J rfl (.tail _ (.tail _ (.tail _ (.head _)))) hd1 (f_tlist (J.list P hl) (by rw [hvl]; omega) ?_)))))
  by_cases hx0 : xs.length = 0
  · have : vs = [] := List.length_eq_zero_iff.mp (by omega)
    rw [this]
    refine f_int ?_
    have e0 : Vd n xs 0 xs.length = 0 := by rw [hx0]; rfl
    have := h (tk2 + 1 + 1) h3 (tk2 + 1 + 1 + 1) J.keep J.lp
    rw [e0] at this
    exact this
  · rw [if_pos (by cases vs with | nil => simp at hvl; omega | cons a b => rfl)]
    refine wpAny_Call_NameR (r_cell J rfl (.head _) hd3' (f_callee (o := { cls := .type "function", data := .func (fd82 w [(n_n, L + 2), (n_inner, L + 3), (n_digits, L + 1)] doc pm c' ctv) }) rfl (Calls.spliced_cons (f_int (k := 0) (pos := default) ?_))))
    refine Calls.spliced_cons (wpAny_Call_NameR (r_built J rfl rfl (PyProof.Rows.callWith_builtin1 (Calls.spliced_cons (r_cell J rfl (.tail _ (.tail _ (.tail _ (.head _)))) hd1 (Calls.spliced_nil (f_len (J.list P hl) hvl (by omega) ?_)))))))
    intro tk4
    refine Calls.spliced_nil ⟨(J.own _ V.fo).1, ?_⟩
    refine inner82 V hn hi hxs hbd 11 hAd (l := 0) (r := xs.length) (by omega) (Nat.le_refl _) (by omega) rfl rfl J.lp J.own' (J.list P hl) ?_
    intro u5 h5 tk5 k5 P5
    have J := J.grow k5 P5
    exact h _ _ _ J.keep J.lp
end Mine
end
section
open PySem PySem.W PySem.W.X PyProof.Rows
set_option maxRecDepth 100000
set_option Elab.async false
namespace Mine
/-! ## a list that is written -/
abbrev KpD (D : Addr) (h h' : Heap) : Prop := ∀ b o, b ≠ 47 → b ≠ 54 → b ≠ D → h.get? b = some o → h'.get? b = some o
theorem KpD.of {D : Addr} {h h' : Heap} (k : Kp (h.hide D) h') : KpD D h h' := fun b o n1 n2 n3 e => k b o n1 n2 ((Heap.hide_ne h n3).trans e)
theorem Own.kpD {D : Addr} {h h' : Heap} {own : List (Addr × Obj)} (O : Own h own) (k : KpD D h h') (hD : ∀ p ∈ own, p.1 ≠ D) : Own h' own := fun p hp => ⟨k _ _ (O p hp).2.1 (O p hp).2.2 (hD p hp) (O p hp).1, (O p hp).2⟩
theorem In.startD {w : World} {h₀ h : Heap} {D : Addr} {own : List (Addr × Obj)} {binds : List (Str × Value)} (P : LP w h₀) (O : Own h₀ own) (hns : h.Ns h₀.objs.size (fun x => binds.reverse.lookup x)) (hk : ∀ b o, h₀.get? b = some o → h.get? b = some o) : In w (h₀.hide D) h₀.objs.size binds.reverse own h :=
  ⟨P.keeps hk, ⟨_, hns, Has.of_lookup _⟩, fun b o _ _ e => hk b o (Heap.of_hide e), Nat.le_of_eq (Heap.hide_size ..), P.size, fun p hp => ⟨hk _ _ (O p hp).1, Nat.ne_of_lt (Heap.lt_size (O p hp).1), (O p hp).2⟩⟩
theorem In.growD {w : World} {h₀ h h' : Heap} {L D : Addr} {l : List (Str × Value)} {own : List (Addr × Obj)} (J : In w h₀ L l own h) (k : KpD D h h') (P : LP w h') (hL : L ≠ D) (ho : ∀ p ∈ own, p.1 ≠ D) (h0 : h₀.get? D = none) : In w h₀ L l own h' :=
  ⟨P, let ⟨m, ⟨o, es, ep, ho, hd, r⟩, b⟩ := J.ns; ⟨m, ⟨o, es, ep, k L o (ne47 J.low) (ne54 J.low) hL ho, hd, r⟩, b⟩, fun b o n1 n2 e => k b o n1 n2 (fun q => by rw [q, h0] at e; cases e) (J.keep b o n1 n2 e), J.fresh, J.low,
    fun p hp => ⟨k _ _ (J.own p hp).2.2.1 (J.own p hp).2.2.2 (ho p hp) (J.own p hp).1, (J.own p hp).2⟩⟩
theorem In.setD {w : World} {h₀ h h' : Heap} {L D : Addr} {l : List (Str × Value)} {own : List (Addr × Obj)} {vs : Array Value} (J : In w h₀ L l own h) (k : Heap.SameBut D h h') (hl : h.IsList D vs) (hD : 138 ≤ D) (hL : L ≠ D) (ho : ∀ p ∈ own, p.1 ≠ D) (h0 : h₀.get? D = none) : In w h₀ L l own h' := by
  obtain ⟨o, e, _, n, hd⟩ := hl
  exact J.growD (fun b o _ _ n3 e => (k.2 b n3).trans e) (J.lp.but e (fun vs => by rw [hd]; exact fun z => nomatch z) hD fun b o hb e => (k.2 b hb).trans e) hL ho h0
theorem ints_set {vs : List Value} {xs : List Int} (h : IntsAre vs xs) (x : Int) (t : Tok) : ∀ i, IntsAre (vs.set i (.int x t)) (xs.set i x) := by
  induction h with
  | nil => intro i; exact .nil
  | cons n t' r ih =>
    intro i
    cases i with
    | zero => exact .cons _ _ r
    | succ i => exact .cons _ _ (ih i)
/-! ## digits -/
def Put (n l r : Nat) (x : Int) (xs ys : List Int) : Prop := ys.length = xs.length ∧ ∀ i, ys.getD i 0 = if l ≤ i ∧ i < r then x / 2 ^ (n * (i - l)) % 2 ^ n else xs.getD i 0
theorem put_one {n l : Nat} {x : Int} {xs : List Int} (hl : l < xs.length) (h0 : 0 ≤ x) (h1 : x < 2 ^ n) : Put n l (l + 1) x xs (xs.set l x) := by
  refine ⟨by simp, fun i => ?_⟩
  by_cases e : i = l
  · subst e
    rw [if_pos (by omega)]
    simp [hl, Int.emod_eq_of_lt h0 h1]
  · rw [if_neg (by omega)]
    simp [List.getElem?_set_ne (Ne.symm e)]
theorem low_dig (x : Int) (a b : Nat) : x % 2 ^ (a + b) / 2 ^ a = x / 2 ^ a % 2 ^ b := by
  have pa := kbt_pos a
  have pb := kbt_pos b
  have e1 := Int.emod_add_mul_ediv x (2 ^ a)
  have e2 := Int.emod_add_mul_ediv (x / 2 ^ a) (2 ^ b)
  have d0 := Int.emod_nonneg (x / 2 ^ a) (Int.ne_of_gt pb)
  have d1 := Int.emod_lt_of_pos (x / 2 ^ a) pb
  have r0 := Int.emod_nonneg x (Int.ne_of_gt pa)
  have r1 := Int.emod_lt_of_pos x pa
  generalize x / 2 ^ a % 2 ^ b = d at *
  generalize x / 2 ^ a / 2 ^ b = q at *
  generalize x % 2 ^ a = r at *
  rw [← e2] at e1
  have f0 : 0 ≤ (2 : Int) ^ a * d := Int.mul_nonneg (Int.le_of_lt pa) d0
  have f1 : (2 : Int) ^ a * d ≤ 2 ^ a * (2 ^ b - 1) := Int.mul_le_mul_of_nonneg_left (by omega) (Int.le_of_lt pa)
  rw [Int.mul_sub, Int.mul_one] at f1
  have h1 := (kbt_unique (a := x) (b := 2 ^ (a + b)) (q := q) (r := r + 2 ^ a * d) (kbt_pos _) (by rw [← e1, Int.pow_add, Int.mul_add, ← Int.mul_assoc]; omega) (by omega) (by rw [Int.pow_add]; omega)).2
  rw [h1]
  exact (kbt_unique pa rfl r0 r1).1
theorem put_two {n l m r : Nat} {x : Int} {xs ys zs : List Int} (h1 : l < m) (h2 : m < r) (hy : Put n l m (x % 2 ^ (n * (m - l))) xs ys) (hz : Put n m r (x / 2 ^ (n * (m - l))) ys zs) : Put n l r x xs zs := by
  refine ⟨hz.1.trans hy.1, fun i => ?_⟩
  rw [hz.2 i]
  by_cases c1 : m ≤ i ∧ i < r
  · rw [if_pos c1, if_pos (by omega), Int.ediv_ediv_of_nonneg (Int.le_of_lt (kbt_pos _)), ← Int.pow_add, ← Nat.mul_add, show m - l + (i - m) = i - l by omega]
  · rw [if_neg c1, hy.2 i]
    by_cases c2 : l ≤ i ∧ i < m
    · rw [if_pos c2, if_pos (by omega), show n * (m - l) = n * (i - l) + (n + n * (m - i - 1)) by rw [Nat.add_comm n, ← Nat.mul_add_one, ← Nat.mul_add]; congr 1; omega, low_dig, Int.emod_emod_of_dvd]
      rw [Int.pow_add]; exact Int.dvd_mul_right _ _
    · rw [if_neg c2, if_neg (by omega)]
theorem and_high (s : Nat) : ∀ x : Int, Builtin.bitAnd x (2 ^ s * (x / 2 ^ s)) = 2 ^ s * (x / 2 ^ s) := by
  induction s with
  | zero =>
    intro x
    have h1 := bitXor_and x x
    rw [bitXor_self] at h1
    simp only [Int.pow_zero, Int.one_mul, Int.ediv_one]
    omega
  | succ s ih =>
    intro x
    have e : (2 : Int) ^ (s + 1) * (x / 2 ^ (s + 1)) = 2 * (2 ^ s * (x / 2 / 2 ^ s)) := by
      rw [Int.ediv_ediv_of_nonneg (by decide : (0 : Int) ≤ 2), show (2 : Int) * 2 ^ s = 2 ^ (s + 1) by rw [Int.pow_succ, Int.mul_comm], ← Int.mul_assoc, show (2 : Int) * 2 ^ s = 2 ^ (s + 1) by rw [Int.pow_succ, Int.mul_comm]]
    rw [e, kbt_halves, if_neg (by omega), show 2 * (2 ^ s * (x / 2 / 2 ^ s)) / 2 = 2 ^ s * (x / 2 / 2 ^ s) by omega, ih (x / 2)]
    omega
theorem xor_low (x : Int) (s : Nat) : Builtin.bitXor x (x / 2 ^ s * 2 ^ s) = x % 2 ^ s := by
  rw [Int.mul_comm, bitXor_and, and_high]
  have := Int.emod_add_mul_ediv x (2 ^ s)
  omega
end Mine
end
section
open PySem PySem.W PySem.W.X PyProof.Rows
set_option maxRecDepth 100000
set_option Elab.async false
namespace Mine
noncomputable abbrev b75 (w : World) : List Stmt := bdOf (hd.zo_75 w.params)
noncomputable abbrev fd75 (w : World) (cl : List (Str × Addr)) (doc pm : Value) (c' : Addr) (ctv : Value) : FuncData := fnX n_inner q47 (ndP (b75 w)) (ndB (b75 w)) (ndS (b75 w)) cl .none .none doc pm none (.ref c') ctv
structure Env75 (w : World) (D : Addr) (n : Nat) (f : Addr) (cl : List (Str × Addr)) (doc pm : Value) (c' : Addr) (ctv : Value) (own : List (Addr × Obj)) : Prop where
  fo : (f, ({ cls := .type "function", data := .func (fd75 w cl doc pm c' ctv) } : Obj)) ∈ own
  cd : ∃ oc vs t, (c', oc) ∈ own ∧ oc.data = .fields vs ∧ vs[1]? = some (.str q47 t)
  dg : ∃ c o, cl.lookup n_a_digits = some c ∧ (c, o) ∈ own ∧ o.data = .cell (some (.ref D))
  inn : ∃ c o, cl.lookup n_inner = some c ∧ (c, o) ∈ own ∧ o.data = .cell (some (.ref f))
  nn : ∃ c o t, cl.lookup n_n = some c ∧ (c, o) ∈ own ∧ o.data = .cell (some (.int n t))
theorem f_set {w : World} {A : Around} {E : Value → Shared → Prop} {hp : Heap} {g : Array GenState} {d : Drawn} {tk : Nat} {os : OsState} {l : Addr} {vs : List Value} {k : Int} {n : Nat} {t : Tok} {v : Value} {Q : Unit → Shared → Prop} (hl : hp.IsList l vs.toArray) (hk : k = n) (hn : n < vs.length) (hz : vs.length < 1000000)
    (h : ∀ h', h'.IsList l (vs.set n v).toArray → Heap.SameBut l hp h' → Q () ⟨h', g, d, tk, os⟩) : wpAny (model pg w) A (setItem (.ref l) (.int k t) v) Q E ⟨hp, g, d, tk, os⟩ := by
  subst hk
  refine wpAny_setItem_list (s := ⟨hp, g, d, tk, os⟩) hl (by omega) (by omega) (by rw [List.size_toArray]; omega) fun h' a b => h h' ?_ b
  simpa using a
set_option maxHeartbeats 2000000
theorem inner75 {w : World} {D : Addr} {n : Nat} {f : Addr} {cl : List (Str × Addr)} {doc pm : Value} {c' : Addr} {ctv : Value} {own : List (Addr × Obj)} (V : Env75 w D n f cl doc pm c' ctv own) (hn : n ≤ 1000) (hD : 138 ≤ D) (hDo : ∀ p ∈ own, p.1 ≠ D) :
    ∀ (d : Nat) {A : Around} {E : Value → Shared → Prop} {s : Shared} (_ : Rm A (d + 1)) {l r : Nat} {x lz rz : Int} {t u u' : Tok} {vs : List Value} {xs : List Int} {Q : Value → Shared → Prop}, l < r → r ≤ xs.length → xs.length ≤ 1000 → 2 * (r - l) ≤ 2 ^ d → 0 ≤ x → x < 2 ^ (n * (r - l)) → lz = l → rz = r → LP w s.heap → Own s.heap own → s.heap.IsList D vs.toArray → IntsAre vs xs →
      (∀ h' tk vs' xs', KpD D s.heap h' → LP w h' → h'.IsList D vs'.toArray → IntsAre vs' xs' → Put n l r x xs xs' → Q .none ⟨h', s.gens, s.drawn, tk, s.os⟩) → wpAny (model pg w) A (call (.ref f) [.int x u', .int lz t, .int rz u]) Q E s := by
  intro d
  induction d with
  | zero =>
    intro A E s hA l r x lz rz t u u' vs xs Q hlr hr hxs hd x0 x1 hlz hrz P O hl hi h
    exfalso; omega
  | succ d ih =>
    intro A E s hA l r x lz rz t u u' vs xs Q hlr hr hxs hd x0 x1 hlz hrz P O hl hi h
    obtain ⟨oc, cvs, ct, hcm, hcd, hcv⟩ := V.cd
    obtain ⟨cD, oD, hcD, hmD, hdD⟩ := V.dg
    obtain ⟨cI, oI, hcI, hmI, hdI⟩ := V.inn
    obtain ⟨cN, oN, tN, hcN, hmN, hdN⟩ := V.nn
    have hvl : vs.length = xs.length := IntsAre.length hi
    refine wpAny_call ?_
    refine codeAny_call_def (fd := fd75 w cl doc pm c' ctv) (body := ndB (b75 w)) (binds := [(n_x, .int x u'), (n_L, .int lz t), (n_R, .int rz u)]) hA.room (O _ V.fo).1 rfl P.noLimit ⟨c', oc, cvs, ct, rfl, (O _ hcm).1, hcd, hcv⟩ rfl (fun M A E Q hq => pu_any hq) (nc_ok rfl) (locs rfl) (fun h₀ hns hk => ?_)
    have J : In w (s.heap.hide D) s.heap.objs.size [(n_R, .int rz u), (n_L, .int lz t), (n_x, .int x u')] own h₀ := In.startD P O hns hk
    have hDz : s.heap.objs.size ≠ D := by obtain ⟨o, e, _⟩ := hl; exact Nat.ne_of_gt (Heap.lt_size e)
    have hl₀ : h₀.IsList D vs.toArray := let ⟨o, e, r⟩ := hl; ⟨o, hk _ _ e, r⟩
    clear hns hk
    have hAd := hA.deeper (callEnv (fd75 w cl doc pm c' ctv) s.heap.objs.size f)
    have hD0 := Heap.hide_self s.heap D
    refine wpAny_execs_cons (wpAny_If (wpAny_isTrue_Compare1 (wpAny_BinOp (r_name J rfl (f_int (f_add (r_name J rfl (eq_int (wpAny_truthy_bool ?_)))))))))
    by_cases h1 : l + 1 = r
    · rw [if_pos (by simp; omega)]
      refine wpAny_execs_cons (wpAny_Assign_Subscript (r_name J rfl (r_free J hcD hmD hdD (r_name J rfl (f_set (n := l) hl₀ hlz (by omega) (by omega) ?_)))))
      intro h2 hl2 hs
      have J := J.setD hs hl₀ hD hDz hDo hD0
      refine wpAny_execs_cons (wpAny_Return_none ?_)
      subst h1
      exact h _ _ _ _ (.of J.keep) J.lp hl2 (ints_set hi x u' l) (put_one (by omega) x0 (by simpa using x1))
    · rw [if_neg (by simp; omega)]
      refine wpAny_execs_nil ?_
      obtain ⟨oL, eL, cL, nL, dL⟩ := hl₀
      have hDn : D ≠ 47 ∧ D ≠ 54 := ⟨ne47 hD, ne54 hD⟩
      have J := J.more eL hDz.symm hDn
      refine wpAny_execs_cons (wpAny_Assign_Name (wpAny_BinOp (wpAny_BinOp (r_name J rfl (r_name J rfl (f_add (f_int (f_rsh (by decide) (f_store J ?_)))))))))
      intro h2 J
      obtain ⟨m, hm⟩ : ∃ m : Nat, m = (l + r) / 2 := ⟨_, rfl⟩
      have hmz : (lz + rz) / 2 ^ (1 : Int).toNat = (m : Int) := by rw [show (2 : Int) ^ (1 : Int).toNat = 2 from rfl]; omega
      generalize (lz + rz) / 2 ^ (1 : Int).toNat = mz at J hmz
      have p2 : 2 ^ (d + 1) = 2 * 2 ^ d := by rw [Nat.pow_succ, Nat.mul_comm]
      obtain ⟨q, p3⟩ : ∃ q, 2 ^ d = 2 * q := by
        cases d with
        | zero => exfalso; omega
        | succ d => exact ⟨2 ^ d, by rw [Nat.pow_succ, Nat.mul_comm]⟩
      refine wpAny_execs_cons (wpAny_Assign_Name (wpAny_BinOp (wpAny_BinOp (r_name J rfl (r_name J rfl (f_sub (r_free J hcN (.tail _ hmN) hdN (f_mul ?_ (f_store J ?_)))))))))
      · exact IntMulOk.of_le (m := 10) (n := 10) (bits_le (by omega) (by omega)) (bits_le (by omega) (by omega)) (by decide)
      intro h3 J
      have hsz : (mz - lz) * n = ((n * (m - l) : Nat) : Int) := by
        rw [hmz, hlz, Nat.mul_comm]; rw [Int.natCast_mul, Int.natCast_sub (by omega)]
      generalize (mz - lz) * n = sz at J hsz
      have hst : sz.toNat = n * (m - l) := by omega
      have e1 : n * (m - l) ≤ 1000 * 1000 := Nat.mul_le_mul hn (by omega)
      have e2 : n * (r - l) ≤ 1000 * 1000 := Nat.mul_le_mul hn (by omega)
      have u0 : 0 ≤ x / 2 ^ (n * (m - l)) := Int.ediv_nonneg x0 (Int.le_of_lt (kbt_pos _))
      have u1 : x / 2 ^ (n * (m - l)) < 2 ^ (n * (r - m)) := by
        refine Int.ediv_lt_of_lt_mul (kbt_pos _) ?_
        rw [← Int.pow_add, ← Nat.mul_add, show r - m + (m - l) = r - l by omega]
        exact x1
      have e3 : n * (r - m) ≤ 1000 * 1000 := Nat.mul_le_mul hn (by omega)
      refine wpAny_execs_cons (wpAny_Assign_Name (wpAny_BinOp (r_name J rfl (r_name J rfl (f_rsh (by omega) (f_store J ?_))))))
      rw [hst]
      intro h4 J
      refine wpAny_execs_cons (wpAny_Assign_Name (wpAny_BinOp (r_name J rfl (wpAny_BinOp (r_name J rfl (r_name J rfl (f_lsh (by omega) ?_ (f_xor (f_store J ?_)))))))))
      · have := bits_le u0 u1
        omega
      rw [hst, xor_low]
      intro h5 J
      have l0 := Int.emod_nonneg x (Int.ne_of_gt (kbt_pos (n * (m - l))))
      have l1 := Int.emod_lt_of_pos x (kbt_pos (n * (m - l)))
      have p1 : ∀ {ys zs : List Int}, Put n l m (x % 2 ^ (n * (m - l))) xs ys → Put n m r (x / 2 ^ (n * (m - l))) ys zs → Put n l r x xs zs := fun hy hz => put_two (by omega) (by omega) hy hz
      generalize x % 2 ^ (n * (m - l)) = lo at *
      generalize x / 2 ^ (n * (m - l)) = up at *
      have hl5 : h5.IsList D vs.toArray := ⟨oL, (J.own _ (.head _)).1, cL, nL, dL⟩
      have J := J.sub (own' := own) fun p hp => .tail _ hp
      refine wpAny_execs_cons (wpAny_Expr (wpAny_Call_NameR (r_free J hcI hmI hdI (f_callee (fd := fd75 w cl doc pm c' ctv) rfl (Calls.spliced_cons (r_name J rfl (Calls.spliced_cons (r_name J rfl (Calls.spliced_cons (r_name J rfl (Calls.spliced_nil ⟨(J.own _ V.fo).1, ?_⟩)))))))))))
      refine ih hAd (l := l) (r := m) (by omega) (by omega) hxs (by omega) l0 l1 hlz hmz J.lp J.own' hl5 hi ?_
      intro h6 tk6 vs6 xs6 k6 P6 hl6 hi6 hp6
      have J := J.growD k6 P6 hDz hDo hD0
      refine wpAny_execs_cons (wpAny_Expr (wpAny_Call_NameR (r_free J hcI hmI hdI (f_callee (fd := fd75 w cl doc pm c' ctv) rfl (Calls.spliced_cons (r_name J rfl (Calls.spliced_cons (r_name J rfl (Calls.spliced_cons (r_name J rfl (Calls.spliced_nil ⟨(J.own _ V.fo).1, ?_⟩)))))))))))
      refine ih hAd (l := m) (r := r) (by omega) (by rw [hp6.1]; omega) (by rw [hp6.1]; exact hxs) (by omega) u0 u1 hmz hrz J.lp J.own' hl6 hi6 ?_
      intro h7 tk7 vs7 xs7 k7 P7 hl7 hi7 hp7
      have J := J.growD k7 P7 hDz hDo hD0
      refine wpAny_execs_nil ?_
      exact h _ _ _ _ (.of J.keep) J.lp hl7 hi7 (p1 hp6 hp7)
end Mine
end
section
open PySem PySem.W PySem.W.X PyProof.Rows
set_option maxRecDepth 100000
set_option Elab.async false
namespace Mine
/-! ## the library's rules over Fr and News, used from an activation -/
def allN (h : Heap) (L : Addr) : List (Addr × Obj) := (List.range h.objs.size).filterMap fun b => if b = L then none else (h.get? b).map fun o => (b, o)
theorem mem_allN {h : Heap} {L b : Addr} {o : Obj} (hb : b ≠ L) (e : h.get? b = some o) : (b, o) ∈ allN h L := by
  refine List.mem_filterMap.mpr ⟨b, List.mem_range.mpr (Heap.lt_size e), ?_⟩
  rw [if_neg hb, e]; rfl
theorem allN_news (h : Heap) (L : Addr) : News {} L h (allN h L) := by
  intro p hp
  obtain ⟨b, _, e⟩ := List.mem_filterMap.mp hp
  split at e
  · cases e
  · rename_i hb
    cases q : h.get? b with
    | none => rw [q] at e; cases e
    | some o => rw [q] at e; cases e; exact ⟨q, hb, by simp [Heap.get?]⟩
theorem fr_of {h : Heap} {L : Addr} {m : Str → Option Value} (hn : h.Ns L m) : Fr {} L h m := ⟨hn, fun b o e => by simp [Heap.get?] at e, Nat.zero_le _⟩
theorem In.back {w : World} {h₀ h h' : Heap} {L : Addr} {l : List (Str × Value)} {own ex : List (Addr × Obj)} {m : Str → Option Value} (J : In w h₀ L l own h) (hm : Has m l) (F : Fr {} L h' m) (N : News {} L h' (ex ++ allN h L)) : In w h₀ L l own h' :=
  J.after (fun b o hb e => (N _ (List.mem_append_right _ (mem_allN hb e))).1) F.ns hm
theorem In.back1 {w : World} {h₀ h h' : Heap} {L a : Addr} {o : Obj} {l : List (Str × Value)} {own : List (Addr × Obj)} {m : Str → Option Value} (J : In w h₀ L l own h) (hm : Has m l) (ha : 138 ≤ a) (F : Fr {} L h' m) (N : News {} L h' ((a, o) :: allN h L)) : In w h₀ L l ((a, o) :: own) h' :=
  (J.back (ex := [(a, o)]) hm F N).more (N _ (.head _)).1 (N _ (.head _)).2.1 ⟨ne47 ha, ne54 ha⟩
theorem In.swap1 {w : World} {h₀ h : Heap} {L : Addr} {l : List (Str × Value)} {x y : Addr × Obj} {own : List (Addr × Obj)} (J : In w h₀ L l (x :: y :: own) h) : In w h₀ L l (y :: x :: own) h := J.sub fun p hp => by
  rcases List.mem_cons.mp hp with rfl | hp
  · exact .tail _ (.head _)
  · rcases List.mem_cons.mp hp with rfl | hp
    · exact .head _
    · exact .tail _ (.tail _ hp)
theorem In.swap2 {w : World} {h₀ h : Heap} {L : Addr} {l : List (Str × Value)} {x y z : Addr × Obj} {own : List (Addr × Obj)} (J : In w h₀ L l (x :: y :: z :: own) h) : In w h₀ L l (z :: x :: y :: own) h := J.sub fun p hp => by
  rcases List.mem_cons.mp hp with rfl | hp
  · exact .tail _ (.tail _ (.head _))
  · rcases List.mem_cons.mp hp with rfl | hp
    · exact .head _
    · rcases List.mem_cons.mp hp with rfl | hp
      · exact .tail _ (.head _)
      · exact .tail _ (.tail _ (.tail _ hp))
theorem In.swap4 {w : World} {h₀ h : Heap} {L : Addr} {l : List (Str × Value)} {x0 x1 x2 x3 x4 : Addr × Obj} {own : List (Addr × Obj)} (J : In w h₀ L l (x0 :: x1 :: x2 :: x3 :: x4 :: own) h) : In w h₀ L l (x4 :: x0 :: x1 :: x2 :: x3 :: own) h := J.sub fun p hp => by
  rcases List.mem_cons.mp hp with rfl | hp
  · exact .tail _ (.tail _ (.tail _ (.tail _ (.head _))))
  · rcases List.mem_cons.mp hp with rfl | hp
    · exact .head _
    · rcases List.mem_cons.mp hp with rfl | hp
      · exact .tail _ (.head _)
      · rcases List.mem_cons.mp hp with rfl | hp
        · exact .tail _ (.tail _ (.head _))
        · rcases List.mem_cons.mp hp with rfl | hp
          · exact .tail _ (.tail _ (.tail _ (.head _)))
          · exact .tail _ (.tail _ (.tail _ (.tail _ (.tail _ hp))))
theorem ne_cons {D : Addr} {x : Addr × Obj} {own : List (Addr × Obj)} (h : x.1 ≠ D) (r : ∀ p ∈ own, p.1 ≠ D) : ∀ p ∈ x :: own, p.1 ≠ D := fun p hp => by
  rcases List.mem_cons.mp hp with rfl | hp
  · exact h
  · exact r p hp
theorem ne_nil {D : Addr} : ∀ p ∈ ([] : List (Addr × Obj)), p.1 ≠ D := fun _ h => nomatch h
theorem rep_one {v : Value} : ∀ k : Nat, List.foldl (fun (x1 x2 : Array Value) => x1 ++ x2) #[] (List.replicate k #[v]) = (List.replicate k v).toArray := by
  have h : ∀ (k : Nat) (acc : Array Value), List.foldl (fun (x1 x2 : Array Value) => x1 ++ x2) acc (List.replicate k #[v]) = acc ++ (List.replicate k v).toArray := by
    intro k
    induction k with
    | zero => intro acc; simp
    | succ k ih => intro acc; rw [List.replicate_succ, List.foldl_cons, ih]; exact Array.toList_inj.mp (by simp [List.replicate_succ])
  intro k; rw [h]; simp
theorem ints_rep (n : Int) (t : Tok) : ∀ k, IntsAre (List.replicate k (.int n t)) (List.replicate k n)
  | 0 => .nil
  | k + 1 => .cons _ _ (ints_rep n t k)
section
variable {w : World} {A : Around} {E : Value → Shared → Prop} {h₀ hp : Heap} {g : Array GenState} {d : Drawn} {tk : Nat} {os : OsState} {L : Addr} {l : List (Str × Value)} {own : List (Addr × Obj)} {env : Env} {Q : Value → Shared → Prop} {a b : Int} {t u : Tok}
/-- a list of one, times a number -/
theorem f_rep {c : Addr} {v : Value} (J : In w h₀ L l ((c, { cls := .type "list", data := .seq #[v] }) :: own) hp) (h0 : 0 ≤ b) (h1 : b ≤ 1000000)
    (h : ∀ h' a, hp.objs.size ≤ a → In w h₀ L l ((a, { cls := .type "list", data := .seq (List.replicate b.toNat v).toArray }) :: own) h' → Q (.ref a) ⟨h', g, d, tk, os⟩) :
    wpAny (model pg w) A (binaryOp .Mult (.ref c) (.int b u)) Q E ⟨hp, g, d, tk, os⟩ := by
  obtain ⟨m, hn, hm⟩ := J.ns
  refine mul_list (s := ⟨hp, g, d, tk, os⟩) (fr_of hn) (allN_news hp L) (J.own _ (.head _)).1 (by omega) (by omega) (by show 1 * b.toNat ≤ _; omega) ?_
  intro h' F N
  have N' : News {} L h' ((hp.objs.size, { cls := .type "list", data := .seq (List.replicate b.toNat v).toArray }) :: allN hp L) := by
    have e : (if (#[v] : Array Value).isEmpty = true then 0 else b.toNat) = b.toNat := if_neg (by simp)
    rw [e, rep_one] at N
    exact N
  exact h _ _ (Nat.le_refl _) ((J.sub fun p hp => .tail _ hp).back1 hm J.lp.size F N')
theorem f_bits (h : Q (.int (Builtin.Int.intBits a) tk) ⟨hp, g, d, tk + 1, os⟩) : wpAny (model pg w) A (call (.builtin "int.bit_length") [.int a t]) Q E ⟨hp, g, d, tk, os⟩ := call_int_bit_length h
end
theorem pylong_small (x : Int) {y : Int} (h : y.natAbs < 2 ^ 200) : Builtin.divisionGoesByPylong x y = false := by
  unfold Builtin.divisionGoesByPylong
  have : (if (y == 0) = true then 0 else y.natAbs.log2 / 30 + 1) ≤ 300 := by
    split
    · omega
    · rename_i hy
      have h0 : y.natAbs ≠ 0 := by simpa using hy
      have := (Nat.log2_lt h0).mpr h
      omega
  simp only [Bool.and_eq_false_iff, decide_eq_false_iff_not]
  left
  omega
set_option maxHeartbeats 2000000
theorem i2d_spec {w : World} {A : Around} {E : Value → Shared → Prop} {s : Shared} (P : LP w s.heap) (hA : Rm A 13) {a : Int} {n : Nat} {t t' : Tok} (hn0 : 1 ≤ n) (hn : n ≤ 1000) (ha : 0 ≤ a) (hb : Builtin.Int.intBits a ≤ 900) {Q : Value → Shared → Prop}
    (h : ∀ D h' tk vs xs, Kp s.heap h' → LP w h' → s.heap.objs.size ≤ D → h'.IsList D vs.toArray → IntsAre vs xs → Put n 0 ((Builtin.Int.intBits a + n - 1) / n) a (List.replicate ((Builtin.Int.intBits a + n - 1) / n) 0) xs → Q (.ref D) ⟨h', s.gens, s.drawn, tk, s.os⟩) :
    wpAny (model pg w) A (call (.ref 52) [.int a t', .int n t]) Q E s := by
  refine wpAny_call ?_
  refine codeAny_call_cells (fd := fdOf (hd.zo_75 w.params)) (body := bdOf (hd.zo_75 w.params)) (binds := [(n_a, .int a t'), (n_n, .int n t)]) hA.room (P.k 52 _ rfl) rfl P.noLimit ⟨51, _, _, _, rfl, P.k 51 _ rfl, rfl, rfl⟩ rfl rfl rfl
    (List.forall_mem_cons.mpr ⟨.inl rfl, List.forall_mem_cons.mpr ⟨.inr ⟨rfl, rfl⟩, fun _ h => nomatch h⟩⟩) (fun s₁ X => ?_)
  obtain ⟨h₁, tk, e, _⟩ := X.toInCall.done
  subst e
  obtain ⟨o1, ho1, hd1⟩ := X.cell n_n (s.heap.objs.size + 1) rfl
  obtain ⟨o2, ho2, hd2⟩ := X.cell n_a_digits (s.heap.objs.size + 2) rfl
  obtain ⟨o3, ho3, hd3⟩ := X.cell n_inner (s.heap.objs.size + 3) rfl
  have hd1 : o1.data = .cell (some (.int n t)) := hd1
  have hd2 : o2.data = .cell none := hd2
  have hd3 : o3.data = .cell none := hd3
  have hz := P.size
  have J : In w s.heap s.heap.objs.size [(n_a, .int a t')] [(s.heap.objs.size + 2, o2), (s.heap.objs.size + 3, o3), (s.heap.objs.size + 1, o1)] h₁ :=
    ⟨P.keeps X.toInCall.keep, ⟨_, X.toInCall.ns, HB.loc rfl (HB.cel rfl ((Has.n).put _ _))⟩, Kp.of X.toInCall.keep, Nat.le_refl _, P.size, fun p hp => by
      rcases List.mem_cons.mp hp with rfl | hp
      · exact ⟨ho2, nsz (k := 1) hz⟩
      · rcases List.mem_cons.mp hp with rfl | hp
        · exact ⟨ho3, nsz (k := 2) hz⟩
        · rw [List.mem_singleton.mp hp]
          exact ⟨ho1, nsz (k := 0) hz⟩⟩
  have b3 := Heap.lt_size ho3
  clear X ho1 ho2 ho3
  have hAd := hA.deeper (n := 12) (callEnvC (fdOf (hd.zo_75 w.params)) s.heap.objs.size 52)
  generalize hLe : s.heap.objs.size = L at *
  generalize hB : Builtin.Int.intBits a = B at *
  have ha2 : a < 2 ^ B := by have := (intBits_le_iff (x := a) (m := B)).mp (by omega); have := kbt_cast B; omega
  refine wpAny_execs_cons (wpAny_Assign_Name (wpAny_BinOp (List_ (Calls.spliced_cons (f_int (k := 0) (pos := default) (Calls.spliced_nil (f_list J (show (1 : Nat) ≤ 1000000 by decide) ?_)))))))
  intro h2 c J
  refine wpAny_BinOp (wpAny_BinOp (wpAny_BinOp (MethodCall_ (r_name J rfl (getMethod_int_bit_length (callWith_method0 (f_bits ?_)))))))
  rw [hB]
  obtain ⟨N, hN⟩ : ∃ N : Nat, N = (B + n - 1) / n := ⟨_, rfl⟩
  have hN2 : N ≤ B := by
    rw [hN]
    refine Nat.le_of_lt_succ (Nat.div_lt_of_lt_mul ?_)
    have := Nat.mul_le_mul_right B hn0
    rw [Nat.mul_succ]; omega
  have hN3 : a < 2 ^ (n * N) := by
    refine Int.lt_of_lt_of_le ha2 ?_
    have h1 : B ≤ n * N := by
      have := Nat.div_add_mod (B + n - 1) n
      have := Nat.mod_lt (B + n - 1) (show n > 0 by omega)
      rw [hN]; omega
    have := Nat.pow_le_pow_right (show 2 > 0 by decide) h1
    rw [← kbt_cast, ← kbt_cast]; omega
  have hNz : ((B : Int) + n - 1).fdiv n = (N : Int) := by
    have e : (B : Int) + n - 1 = ((B + n - 1 : Nat) : Int) := by omega
    rw [Int.fdiv_eq_ediv_of_nonneg _ (by omega), hN, e]; rfl
  refine r_cell J rfl (.tail _ (.tail _ (.tail _ (.head _)))) hd1 (f_add (f_int (f_sub (r_cell J rfl (.tail _ (.tail _ (.tail _ (.head _)))) hd1 (f_fdiv (by omega) (pylong_small _ ?_) ?_)))))
  · rw [Int.natAbs_natCast]
    exact Nat.lt_of_le_of_lt hn (by decide)
  rw [hNz]
  have b3 := Heap.lt_size (J.own _ (.tail _ (.tail _ (.head _)))).1
  refine f_rep J (by omega) (by omega) ?_
  intro h3 D hD J
  rw [Int.toNat_natCast] at J
  have hD3 : L + 3 < D := Nat.lt_of_lt_of_le b3 hD
  have hDn : ∀ k, k ≤ 3 → L + k ≠ D := fun k hk => Nat.ne_of_lt (Nat.lt_of_le_of_lt (Nat.add_le_add_left hk L) hD3)
  have J := J.swap1
  refine f_storec J hd2 rfl (by rw [hLe]; exact Nat.le_add_right _ _) (Nat.le_trans hz (Nat.le_add_right _ _)) (ne_cons (hDn 2 (by decide)).symm (ne_cons (nsz' (by decide)) (ne_cons (nsz' (by decide)) ne_nil))) ?_
  intro h4 o2' hd2' J
  have b4 := Heap.lt_size (J.own _ (.tail _ (.head _))).1
  refine wpAny_execs_cons (nestDef_K rfl rfl rfl ?_)
  refine f_make (c := 51) (P := 47) (pos := pos47) (q := q47) J rfl rfl rfl (codeHd_of_K J.lp.k rfl) J.lp.t47 (.inl rfl) (fun h' => J.lp.ext47) ?_
  intro f c' oc cvs ct ctv doc pm h5 tk5 J hcd hcv hf
  have J := J.swap4
  have fD : D < f := Nat.lt_of_lt_of_le b4 hf
  have hc' : ∀ a o, (a, o) ∈ [(L + 3, o3), (L + 2, o2'), (L + 1, o1)] → (h5.get? a = some o) → (∃ v, o.data = .cell v) → c' ≠ a := by
    intro a o _ e ⟨v, hv⟩ q
    have e2 := (J.own _ (.tail _ (.tail _ (.head _)))).1
    rw [show (c', oc).1 = a from q, e] at e2
    cases e2
    rw [hcd] at hv; cases hv
  have hcD : c' ≠ D := by
    intro q
    have e2 := (J.own _ (.tail _ (.tail _ (.head _)))).1
    have e3 := (J.own _ (.tail _ (.tail _ (.tail _ (.tail _ (.head _)))))).1
    rw [show (c', oc).1 = D from q, e3] at e2
    cases e2
    cases hcd
  have hc3 : c' ≠ L + 3 := hc' _ o3 (.head _) (J.own _ (.head _)).1 ⟨_, hd3⟩
  refine f_storec J hd3 rfl (by rw [hLe]; exact Nat.le_add_right _ _) (Nat.le_trans hz (Nat.le_add_right _ _)) (ne_cons (Nat.ne_of_gt (Nat.lt_trans hD3 fD)) (ne_cons hc3 (ne_cons (nsz' (by decide)) (ne_cons (hDn 3 (by decide)).symm (ne_cons (nsz' (by decide)) ne_nil))))) ?_
  clear hc'
  intro h6 o3' hd3' J
  have J : In w s.heap L [(n_a, .int a t')] [(L + 3, o3'), (f, { cls := .type "function", data := .func (fd75 w [(n_n, L + 1), (n_inner, L + 3), (n_a_digits, L + 2)] doc pm c' ctv) }), (c', oc), (L + 2, o2'), (D, { cls := .type "list", data := .seq (List.replicate N (.int 0 tk)).toArray }), (L + 1, o1)] h6 := J
  have hl6 : h6.IsList D (List.replicate N (.int 0 tk)).toArray := ⟨_, (J.own _ (.tail _ (.tail _ (.tail _ (.tail _ (.head _)))))).1, rfl, _, rfl⟩
  have J : In w s.heap L [(n_a, .int a t')] [(L + 3, o3'), (f, { cls := .type "function", data := .func (fd75 w [(n_n, L + 1), (n_inner, L + 3), (n_a_digits, L + 2)] doc pm c' ctv) }), (c', oc), (L + 2, o2'), (L + 1, o1)] h6 := J.sub fun p hp => by
    rcases List.mem_cons.mp hp with rfl | hp
    · exact .head _
    · rcases List.mem_cons.mp hp with rfl | hp
      · exact .tail _ (.head _)
      · rcases List.mem_cons.mp hp with rfl | hp
        · exact .tail _ (.tail _ (.head _))
        · rcases List.mem_cons.mp hp with rfl | hp
          · exact .tail _ (.tail _ (.tail _ (.head _)))
          · exact .tail _ (.tail _ (.tail _ (.tail _ (.tail _ hp))))
  have V : Env75 w D n f [(n_n, L + 1), (n_inner, L + 3), (n_a_digits, L + 2)] doc pm c' ctv [(L + 3, o3'), (f, { cls := .type "function", data := .func (fd75 w [(n_n, L + 1), (n_inner, L + 3), (n_a_digits, L + 2)] doc pm c' ctv) }), (c', oc), (L + 2, o2'), (L + 1, o1)] :=
    ⟨.tail _ (.head _), ⟨oc, cvs, ct, .tail _ (.tail _ (.head _)), hcd, hcv⟩, ⟨L + 2, o2', rfl, .tail _ (.tail _ (.tail _ (.head _))), hd2'⟩, ⟨L + 3, o3', rfl, .head _, hd3'⟩, ⟨L + 1, o1, t, rfl, .tail _ (.tail _ (.tail _ (.tail _ (.head _)))), hd1⟩⟩
  have hne := ne_cons (x := (L + 3, o3')) (hDn 3 (by decide)) (ne_cons (x := (f, { cls := .type "function", data := .func (fd75 w [(n_n, L + 1), (n_inner, L + 3), (n_a_digits, L + 2)] doc pm c' ctv) })) (Nat.ne_of_gt fD) (ne_cons (x := (c', oc)) hcD (ne_cons (x := (L + 2, o2')) (hDn 2 (by decide)) (ne_cons (x := (L + 1, o1)) (hDn 1 (by decide)) ne_nil))))
  have hi := ints_rep 0 tk N
  have hD0 : s.heap.get? D = none := Heap.get?_none_of_le (by rw [hLe]; exact Nat.le_of_lt (Nat.lt_of_le_of_lt (Nat.le_add_right L 3) hD3))
  have hD138 : 138 ≤ D := Nat.le_trans hz (Nat.le_of_lt (Nat.lt_of_le_of_lt (Nat.le_add_right L 3) hD3))
  have hsD : L ≤ D := Nat.le_of_lt (Nat.lt_of_le_of_lt (Nat.le_add_right L 3) hD3)
  rw [← hN] at h
  refine wpAny_execs_cons (wpAny_If (isTrue_plain (r_name J rfl (PyProof.Rows.truthy_int ?_))))
  by_cases ha0 : a = 0
  · subst ha0
    refine wpAny_execs_nil (wpAny_execs_cons (wpAny_Return_some (r_cell J rfl (.tail _ (.tail _ (.tail _ (.head _)))) hd2' ?_)))
    have hN0 : N = 0 := by
      have : B = 0 := by rw [← hB]; rfl
      rw [hN, this]; exact Nat.div_eq_of_lt (by omega)
    refine h D h6 tk5 _ _ J.keep J.lp hsD hl6 hi ⟨rfl, fun i => ?_⟩
    rw [if_neg (by omega)]
  · rw [if_pos (by simpa using ha0)]
    refine wpAny_execs_cons (wpAny_Expr (wpAny_Call_NameR (r_cell J rfl (.head _) hd3' (f_callee (o := { cls := .type "function", data := .func (fd75 w [(n_n, L + 1), (n_inner, L + 3), (n_a_digits, L + 2)] doc pm c' ctv) }) rfl (Calls.spliced_cons (r_name J rfl (Calls.spliced_cons (f_int (k := 0) (pos := default) ?_))))))))
    refine Calls.spliced_cons (wpAny_Call_NameR (r_built J rfl rfl (PyProof.Rows.callWith_builtin1 (Calls.spliced_cons (r_cell J rfl (.tail _ (.tail _ (.tail _ (.head _)))) hd2' (Calls.spliced_nil (f_len (n := N) hl6 (by simp) (by omega) ?_)))))))
    intro tk7
    refine Calls.spliced_nil ⟨(J.own _ V.fo).1, ?_⟩
    have hNp : 0 < N := by
      rcases Nat.eq_zero_or_pos N with e | e
      · rw [e] at hN3; exfalso; simp at hN3; omega
      · exact e
    refine inner75 V hn hD138 hne 11 hAd (l := 0) (r := N) hNp (by simp) (by simp; omega) (by omega) ha hN3 rfl rfl J.lp J.own' hl6 hi ?_
    intro h8 tk8 vs8 xs8 k8 P8 hl8 hi8 hp8
    have J := J.growD k8 P8 (Nat.ne_of_lt (Nat.lt_of_le_of_lt (Nat.le_add_right L 3) hD3)) hne hD0
    refine wpAny_execs_nil (wpAny_execs_cons (wpAny_Return_some (r_cell J rfl (.tail _ (.tail _ (.tail _ (.head _)))) hd2' ?_)))
    exact h D h8 tk8 vs8 xs8 J.keep J.lp hsD hl8 hi8 hp8
end Mine
end
section
open PySem PySem.W PySem.W.X PyProof.Rows
set_option maxRecDepth 100000
set_option Elab.async false
namespace Mine
/-! ## an object of our own is changed (an iterator) -/
theorem Tab.chg {h h' : Heap} {P I : Addr} {pos : Pos} {q : Str} {o : Obj} (x : Tab h P pos q) (ho : h.get? I = some o) (hc : o.cls ≠ .none) (hs : ∀ vs q t, o.data = .fields vs → vs[1]? ≠ some (.str q t)) (k : ∀ b o, b ≠ I → h.get? b = some o → h'.get? b = some o) : Tab h' P pos q := by
  obtain ⟨ps, a, b, c⟩ := x
  refine ⟨ps, k _ _ ?_ a, b, c.imp id ?_⟩
  · rintro rfl; rw [ho] at a; cases a; exact hc rfl
  rintro ⟨c', e, ⟨c2, oc, vs, t, e2, r1, r2, r3⟩, r'⟩
  cases e2
  refine ⟨c', e, ⟨c', oc, vs, t, rfl, k _ _ ?_ r1, r2, r3⟩, r'⟩
  rintro rfl
  rw [ho] at r1; cases r1
  exact hs _ _ _ r2 r3
theorem LP.chg {w : World} {h h' : Heap} {I : Addr} {o : Obj} (P : LP w h) (ho : h.get? I = some o) (hc : o.cls ≠ .none) (hs : ∀ vs q t, o.data = .fields vs → vs[1]? ≠ some (.str q t)) (hI : 138 ≤ I) (k : ∀ b o, b ≠ I → h.get? b = some o → h'.get? b = some o) : LP w h' :=
  ⟨fun a o e => k a o (Nat.ne_of_lt (Nat.lt_of_lt_of_le (K2_lt e) hI)) (P.k a o e), P.t47.chg ho hc hs k, P.t54.chg ho hc hs k⟩
theorem In.chg {w : World} {h₀ h h' : Heap} {L I : Addr} {o o' : Obj} {l : List (Str × Value)} {own : List (Addr × Obj)} (J : In w h₀ L l ((I, o) :: own) h) (hc : o.cls ≠ .none) (hs : ∀ vs q t, o.data = .fields vs → vs[1]? ≠ some (.str q t)) (hI : 138 ≤ I) (h0 : h₀.objs.size ≤ I) (ho : ∀ p ∈ own, p.1 ≠ I)
    (k : ∀ b o, b ≠ I → h.get? b = some o → h'.get? b = some o) (e' : h'.get? I = some o') : In w h₀ L l ((I, o') :: own) h' := by
  have hm := J.own _ (.head _)
  refine ⟨J.lp.chg hm.1 hc hs hI k, let ⟨m, ⟨o, es, ep, ho, hd, r⟩, b⟩ := J.ns; ⟨m, ⟨o, es, ep, k L o hm.2.1.symm ho, hd, r⟩, b⟩, fun b o n1 n2 e => k b o (Nat.ne_of_lt (Nat.lt_of_lt_of_le (Heap.lt_size e) h0)) (J.keep b o n1 n2 e), J.fresh, J.low, fun p hp => ?_⟩
  rcases List.mem_cons.mp hp with rfl | hp
  · exact ⟨e', hm.2⟩
  · exact ⟨k _ _ (ho p hp) (J.own p (.tail _ hp)).1, (J.own p (.tail _ hp)).2⟩
section
variable {w : World} {A : Around} {E : Value → Shared → Prop} {h₀ hp : Heap} {g : Array GenState} {d : Drawn} {tk : Nat} {os : OsState} {L : Addr} {l : List (Str × Value)} {own : List (Addr × Obj)} {env : Env} {Q : Value → Shared → Prop} {a b : Int} {t u : Tok}
theorem f_divmod (hb : 0 < b) (hs : b < 2 ^ 190) (h : ∀ D h' u1 u2 tk', (∀ c o, hp.get? c = some o → h'.get? c = some o) → IsTup h' D #[.int (a / b) u1, .int (a % b) u2] → hp.objs.size ≤ D → Q (.ref D) ⟨h', g, d, tk', os⟩) :
    wpAny (model pg w) A (call (.builtin "divmod") [.int a t, .int b u]) Q E ⟨hp, g, d, tk, os⟩ := by
  refine divmod_int (s := ⟨hp, g, d, tk, os⟩) (by omega) ?_ (.inl (pylong_small _ ?_))
  · rw [Int.fdiv_eq_ediv_of_nonneg _ (by omega), Int.fmod_eq_emod_of_nonneg _ (by omega)]
    exact h _ _ _ _ _ (fun c o e => Heap.get?_push_of_some _ e) ⟨_, Heap.get?_push_size _ rfl, rfl, _, rfl⟩ (Nat.le_refl _)
  · have := kbt_cast 190
    have e2 : (2 : Nat) ^ 190 ≤ 2 ^ 200 := Nat.pow_le_pow_right (by decide) (by decide)
    omega
end
set_option maxHeartbeats 2000000
theorem d2n_spec {w : World} {A : Around} {E : Value → Shared → Prop} {s : Shared} (P : LP w s.heap) {nA : Nat} (hA : Rm A nA) {a b n : Int} {t t' t'' : Tok} (hb0 : 0 < b) (hb : b < 2 ^ 190) (hbits : Builtin.Int.intBits a ≤ 4000) (hn : 0 ≤ n) {Q : Value → Shared → Prop}
    (h : ∀ D h' tk u1 u2, Kp s.heap h' → LP w h' → IsTup h' D #[.int (a / b) u1, .int (a % b) u2] → Q (.ref D) ⟨h', s.gens, s.drawn, tk, s.os⟩) :
    wpAny (model pg w) A (call (.ref 38) [.int a t, .int b t', .int n t'']) Q E s := by
  refine wpAny_call ?_
  refine codeAny_call_def (fd := fdOf (hd.zo_61 w.params)) (body := bdOf (hd.zo_61 w.params)) (binds := [(n_a, .int a t), (n_b, .int b t'), (n_n, .int n t'')]) hA.room (P.k 38 _ rfl) rfl P.noLimit ⟨37, _, _, _, rfl, P.k 37 _ rfl, rfl, rfl⟩ rfl (fun M A E Q hq => pu_any hq) (nc_ok rfl) (locs rfl) (fun h₀ hns hk => ?_)
  have J : In w s.heap s.heap.objs.size [(n_n, .int n t''), (n_b, .int b t'), (n_a, .int a t)] [] h₀ := In.start (a := 0) P hns hk
  clear hns hk
  refine wpAny_execs_cons (wpAny_If (wpAny_isTrue_Compare1 (wpAny_BinOp (MethodCall_ (r_name J rfl (getMethod_int_bit_length (callWith_method0 (f_bits (r_name J rfl (f_sub (r_glob J rfl (le_int (wpAny_truthy_bool ?_)))))))))))))
  rw [if_pos (by simp; omega)]
  refine wpAny_execs_cons (wpAny_Return_some (wpAny_Call_NameR (r_built J rfl rfl (PyProof.Rows.callWith_builtin1 (Calls.spliced_cons (r_name J rfl (Calls.spliced_cons (r_name J rfl (Calls.spliced_nil (f_divmod hb0 hb ?_))))))))))
  intro D h' u1 u2 tk' k' hT _
  have J := J.keepAll k'
  exact h _ _ _ _ _ J.keep J.lp hT
end Mine
end
section
open PySem PySem.W PySem.W.X PyProof.Rows
set_option maxRecDepth 100000
set_option Elab.async false
namespace Mine
abbrev lob (vs : List Value) (n : Nat) : Obj := { cls := .type "list", data := .seq vs.toArray n }
section
variable {w : World} {A : Around} {E : Value → Shared → Prop} {h₀ hp : Heap} {g : Array GenState} {d : Drawn} {tk : Nat} {os : OsState} {L : Addr} {l : List (Str × Value)} {own : List (Addr × Obj)} {env : Env} {Q : Value → Shared → Prop} {a b : Int} {t u : Tok}
theorem f_append {D : Addr} {vs : List Value} {n : Nat} {x : Value} (J : In w h₀ L l ((D, lob vs n) :: own) hp) (hD : 138 ≤ D) (h0 : h₀.objs.size ≤ D) (ho : ∀ p ∈ own, p.1 ≠ D) (hs : vs.length ≤ 1000000)
    (h : ∀ h' n', In w h₀ L l ((D, lob (vs ++ [x]) n') :: own) h' → Q .none ⟨h', g, d, tk, os⟩) : wpAny (model pg w) A (call (.builtin "list.append") [.ref D, x]) Q E ⟨hp, g, d, tk, os⟩ := by
  refine wpAny_list_append_plain (s := ⟨hp, g, d, tk, os⟩) ⟨n, (J.own _ (.head _)).1⟩ (fun h' hl hsb => ?_) (by rw [List.size_toArray, sizeLine_eq]; omega)
  obtain ⟨n', e⟩ := hl
  refine h h' n' (J.chg (by exact fun z => nomatch z) (fun vs q t e => nomatch e) hD h0 ho (fun b o hb e => (hsb.2 b hb).trans e) ?_)
  rw [e]; simp [lob]
theorem f_reverse {D : Addr} {vs : List Value} {n : Nat} (J : In w h₀ L l ((D, lob vs n) :: own) hp) (hD : 138 ≤ D) (h0 : h₀.objs.size ≤ D) (ho : ∀ p ∈ own, p.1 ≠ D) (hs : vs.length ≤ 1000000)
    (h : ∀ h', In w h₀ L l ((D, lob vs.reverse n) :: own) h' → Q .none ⟨h', g, d, tk, os⟩) : wpAny (model pg w) A (call (.builtin "list.reverse") [.ref D]) Q E ⟨hp, g, d, tk, os⟩ := by
  have ho' := (J.own _ (.head _)).1
  refine call_meets PySem.F.slot_list_reverse (s := ⟨hp, g, d, tk, os⟩) ⟨_, ho', rfl⟩ PySem.F.entry_list_reverse (PySem.F.args_list_reverse_1 _) (AutoSeq1.list_reverse_list_0 D vs.toArray n (by rw [List.size_toArray, sizeLine_eq]; omega)) ⟨ho', ?_⟩
  refine h _ (J.chg (by exact fun z => nomatch z) (fun vs q t e => nomatch e) hD h0 ho (fun b o hb e => ((Heap.SameBut.update ..).2 b hb).trans e) ?_)
  rw [Heap.get?_update_self _ ho' (by rw [mapSeq_reverse]; rfl), mapSeq_reverse]
/-- an iterator from the end -/
def RevIt (it : Obj) (D : Addr) (i : Int) : Prop := it.cls = .type "list_reverseiterator" ∧ it.data = .fields #[.ref D, rawInt i]
theorem RevIt.c {it : Obj} {D : Addr} {i : Int} (x : RevIt it D i) : it.cls ≠ .none := by rw [x.1]; exact fun z => nomatch z
theorem RevIt.f {it : Obj} {D : Addr} {i : Int} (x : RevIt it D i) : ∀ vs q t, it.data = .fields vs → vs[1]? ≠ some (.str q t) := fun vs q t e => by
  rw [x.2] at e; cases e; intro z; cases z
theorem f_revnext {Q : Option Value → Shared → Prop} {I D : Addr} {it oD : Obj} {i : Nat} {vs : List Value} {v : Value} {k : Nat} (J : In w h₀ L l ((I, it) :: own) hp) (hI : 138 ≤ I) (h0 : h₀.objs.size ≤ I) (ho : ∀ p ∈ own, p.1 ≠ I) (x : RevIt it D i) (hm : (D, oD) ∈ own) (hc : oD.cls = .type "list") (hd : oD.data = .seq vs.toArray k) (hv : vs[i]? = some v)
    (h : ∀ h' it', RevIt it' D ((i : Int) - 1) → In w h₀ L l ((I, it') :: own) h' → Q (some v) ⟨h', g, d, tk, os⟩) : wpAny (model pg w) A (pyNext (.ref I)) Q E ⟨hp, g, d, tk, os⟩ := by
  refine wpAny_pyNext_rev_item (s := ⟨hp, g, d, tk, os⟩) ⟨it, (J.own _ (.head _)).1, x⟩ ⟨oD, (J.own _ (.tail _ hm)).1, hc, k, hd⟩ (x := v) (by simpa using hv) fun h' hit hs => ?_
  obtain ⟨it', e, x'⟩ := hit
  exact h h' it' x' (J.chg x.c x.f hI h0 ho (fun b o hb e => (hs.2 b hb).trans e) e)
theorem f_revend {Q : Option Value → Shared → Prop} {I D : Addr} {it : Obj} (hh : A.handled = none) (J : In w h₀ L l ((I, it) :: own) hp) (hI : 138 ≤ I) (h0 : h₀.objs.size ≤ I) (ho : ∀ p ∈ own, p.1 ≠ I) (x : RevIt it D (-1))
    (h : ∀ h', In w h₀ L l own h' → Q none ⟨h', g, d, tk, os⟩) : wpAny (model pg w) A (pyNext (.ref I)) Q E ⟨hp, g, d, tk, os⟩ := by
  refine wpAny_pyNext_rev_end (s := ⟨hp, g, d, tk, os⟩) hh ⟨it, (J.own _ (.head _)).1, x⟩ fun h' hs => ?_
  have hm := J.own _ (.head _)
  have k : ∀ b o, b ≠ I → hp.get? b = some o → h'.get? b = some o := fun b o hb e => hs b o hb e
  refine h h' ⟨J.lp.chg hm.1 x.c x.f hI k, let ⟨m, ⟨o, es, ep, ho, hd, r⟩, b⟩ := J.ns; ⟨m, ⟨o, es, ep, k L o hm.2.1.symm ho, hd, r⟩, b⟩, fun b o n1 n2 e => k b o (Nat.ne_of_lt (Nat.lt_of_lt_of_le (Heap.lt_size e) h0)) (J.keep b o n1 n2 e), J.fresh, J.low, fun p hp => ?_⟩
  exact ⟨k _ _ (ho p hp) (J.own p (.tail _ hp)).1, (J.own p (.tail _ hp)).2⟩
end
end Mine
end
section
open PySem PySem.W PySem.W.X PyProof.Rows
set_option maxRecDepth 100000
set_option Elab.async false
namespace Mine
theorem Vd_cons (n : Nat) (q : Int) (l : List Int) : ∀ (k L : Nat), Vd n (q :: l) (L + 1) k = Vd n l L k
  | 0, _ => rfl
  | k + 1, L => by rw [Vd, Vd, Vd_cons n q l k (L + 1)]; simp
theorem Vd_dig {n N : Nat} {a : Int} {xs : List Int} (h : ∀ i, i < N → xs.getD i 0 = a / 2 ^ (n * i) % 2 ^ n) : ∀ (k L : Nat), L + k ≤ N → Vd n xs L k = a / 2 ^ (n * L) % 2 ^ (n * k)
  | 0, L, _ => by rw [Vd, Nat.mul_zero, Int.pow_zero, Int.emod_one]
  | k + 1, L, hk => by
    rw [Vd, Vd_dig h k (L + 1) (by omega), h L (by omega), Nat.mul_add, Nat.mul_one, Int.pow_add, ← Int.ediv_ediv_of_nonneg (Int.le_of_lt (kbt_pos _))]
    generalize a / 2 ^ (n * L) = y
    rw [Nat.mul_add, Nat.mul_one, Nat.add_comm (n * k) n]
    have e1 := low_dig y n (n * k)
    have e2 := Int.emod_add_mul_ediv (y % 2 ^ (n + n * k)) (2 ^ n)
    rw [e1, Int.emod_emod_of_dvd] at e2
    · exact e2
    · rw [Int.pow_add]; exact Int.dvd_mul_right _ _
theorem Vd_put {n N : Nat} {a : Int} {xs : List Int} (h : Put n 0 N a (List.replicate N 0) xs) (h0 : 0 ≤ a) (h1 : a < 2 ^ (n * N)) : xs.length = N ∧ Vd n xs 0 N = a ∧ ∀ i, i < N → 0 ≤ xs.getD i 0 ∧ xs.getD i 0 < 2 ^ n := by
  have hd : ∀ i, i < N → xs.getD i 0 = a / 2 ^ (n * i) % 2 ^ n := fun i hi => by rw [h.2 i, if_pos (by omega), Nat.sub_zero]
  refine ⟨by rw [h.1]; simp, ?_, fun i hi => ?_⟩
  · rw [Vd_dig hd N 0 (by omega), Nat.mul_zero, Int.pow_zero, Int.ediv_one, Int.emod_eq_of_lt h0 h1]
  · rw [hd i hi]
    exact ⟨Int.emod_nonneg _ (Int.ne_of_gt (kbt_pos n)), Int.emod_lt_of_pos _ (kbt_pos n)⟩
/-- the place of a for in a body -/
noncomputable def foT : List Stmt → Expr
  | [] => default
  | .For t _ _ _ _ :: _ => t
  | _ :: r => foT r
noncomputable def foB : List Stmt → List Stmt
  | [] => []
  | .For _ _ b _ _ :: _ => b
  | _ :: r => foB r
noncomputable abbrev env89 (w : World) (L : Addr) : Env := callEnv (fdOf (hd.zo_89 w.params)) L 66
/-- what stands after the first digits -/
structure Dm (n : Nat) (b : Int) (xs : List Int) (j : Nat) (qs : List Int) (r : Int) : Prop where
  len : qs.length = j
  r0 : 0 ≤ r
  r1 : r < b
  eq : b * Vd n qs.reverse 0 j + r = Vd n xs (xs.length - j) j
  bd : ∀ q ∈ qs, 0 ≤ q ∧ q < 2 ^ n
theorem Dm.step {n : Nat} {b : Int} {xs : List Int} {j : Nat} {qs : List Int} {r d : Int} (h : Dm n b xs j qs r) (hj : j < xs.length) (hd : d = xs.getD (xs.length - 1 - j) 0) (d0 : 0 ≤ d) (d1 : d < 2 ^ n) :
    0 ≤ r * 2 ^ n + d ∧ r * 2 ^ n + d < b * 2 ^ n ∧ Dm n b xs (j + 1) (qs ++ [(r * 2 ^ n + d) / b]) ((r * 2 ^ n + d) % b) := by
  have hb : 0 < b := by have := h.r0; have := h.r1; omega
  have p := kbt_pos n
  have x0 : 0 ≤ r * 2 ^ n := Int.mul_nonneg h.r0 (Int.le_of_lt p)
  have x1 : r * 2 ^ n ≤ (b - 1) * 2 ^ n := Int.mul_le_mul_of_nonneg_right (by have := h.r1; omega) (Int.le_of_lt p)
  rw [Int.sub_mul, Int.one_mul] at x1
  have hx0 : 0 ≤ r * 2 ^ n + d := by omega
  have hx1 : r * 2 ^ n + d < b * 2 ^ n := by omega
  refine ⟨hx0, hx1, by simp [h.len], Int.emod_nonneg _ (by omega), Int.emod_lt_of_pos _ hb, ?_, ?_⟩
  · rw [List.reverse_append, List.reverse_singleton, List.singleton_append, Vd, Vd_cons, List.getD_cons_zero, show xs.length - (j + 1) = xs.length - 1 - j by omega, Vd, ← hd, show xs.length - 1 - j + 1 = xs.length - j by omega, ← h.eq]
    have e := Int.emod_add_mul_ediv (r * 2 ^ n + d) b
    generalize (r * 2 ^ n + d) / b = q at *
    generalize (r * 2 ^ n + d) % b = r' at *
    rw [Int.mul_add, Int.mul_add, ← Int.mul_assoc, ← Int.mul_assoc, Int.mul_comm b (2 ^ n)]
    rw [Int.mul_comm (2 ^ n) r]
    omega
  · intro q hq
    rcases List.mem_append.mp hq with hq | hq
    · exact h.bd q hq
    · rw [List.mem_singleton.mp hq]
      exact ⟨Int.ediv_nonneg hx0 (by omega), Int.ediv_lt_of_lt_mul hb (by rw [Int.mul_comm (2 ^ n) b]; exact hx1)⟩
end Mine
end
section
open PySem PySem.W PySem.W.X PyProof.Rows
set_option maxRecDepth 100000
set_option Elab.async false
namespace Mine
theorem ints_snoc {vs : List Value} {xs : List Int} (h : IntsAre vs xs) (q : Int) (t : Tok) : IntsAre (vs ++ [.int q t]) (xs ++ [q]) := h.append (.cons _ _ .nil)
set_option maxHeartbeats 2000000
/-- the for of _divmod_pos -/
theorem dm_loop {w : World} {A : Around} (hA : Rm A 13) {h₀ : Heap} {L I D Dq : Addr} {oD : Obj} {vs : List Value} {xs : List Int} {b : Int} {n kD : Nat} {tb tn : Tok} (hI : 138 ≤ I) (hI0 : h₀.objs.size ≤ I) (hDI : D ≠ I) (hqI : Dq ≠ I) (hq : 138 ≤ Dq) (hq0 : h₀.objs.size ≤ Dq) (hqD : D ≠ Dq)
    (hcD : oD.cls = .type "list") (hdD : oD.data = .seq vs.toArray kD) (hi : IntsAre vs xs) (hxs : xs.length ≤ 1000) (hb1 : b < 2 ^ 100) (hn : n ≤ 100) (hbd : ∀ i, i < xs.length → 0 ≤ xs.getD i 0 ∧ xs.getD i 0 < 2 ^ n)
    {R : Result → Shared → Prop} {g : Array GenState} {d : Drawn} {os : OsState}
    (hend : ∀ h' tk qs qvs kq r u, Dm n b xs xs.length qs r → IntsAre qvs qs → In w h₀ L [(n_r, .int r u), (n_q_digits, .ref Dq), (n_b, .int b tb), (n_n, .int n tn)] [(Dq, lob qvs kq)] h' → R (.ok .next) ⟨h', g, d, tk, os⟩)
    {h : Heap} {tk : Nat} {u : Tok} {it : Obj} (hit : RevIt it D ((xs.length : Int) - 1)) (hb0 : 0 < b)
    (J : In w h₀ L [(n_r, .int 0 u), (n_q_digits, .ref Dq), (n_b, .int b tb), (n_n, .int n tn)] [(I, it), (Dq, lob [] 0), (D, oD)] h) :
    codeAny (model pg w) A (.forLoop (foT (bdOf (hd.zo_89 w.params))) (.ref I) (foB (bdOf (hd.zo_89 w.params))) [] (env89 w L)) R ⟨h, g, d, tk, os⟩ := by
  refine codeAny_forLoop (fun m s' => ∃ h' tk j qs qvs kq r u it, s' = ⟨h', g, d, tk, os⟩ ∧ j ≤ xs.length ∧ m = xs.length - j ∧ RevIt it D ((xs.length : Int) - 1 - j) ∧ Dm n b xs j qs r ∧ IntsAre qvs qs ∧
    In w h₀ L [(n_r, .int r u), (n_q_digits, .ref Dq), (n_b, .int b tb), (n_n, .int n tn)] [(I, it), (Dq, lob qvs kq), (D, oD)] h') ?_ xs.length
    ⟨h, tk, 0, [], [], 0, 0, u, it, rfl, by omega, by omega, by simpa using hit, ⟨rfl, by omega, hb0, by simp [Vd], fun q h => nomatch h⟩, .nil, J⟩
  clear J hit it u tk h
  rintro m _ ⟨h, tk, j, qs, qvs, kq, r, u, it, rfl, hj, hm, hit, Hd, hqi, J⟩
  have hvl : vs.length = xs.length := IntsAre.length hi
  have hoI : ∀ p ∈ [(Dq, lob qvs kq), (D, oD)], p.1 ≠ I := ne_cons hqI (ne_cons hDI ne_nil)
  by_cases hlt : j < xs.length
  · obtain ⟨td, ed⟩ := ints_get hi (i := xs.length - 1 - j) (by omega)
    refine f_revnext (i := xs.length - 1 - j) J hI hI0 hoI (by rw [show ((xs.length - 1 - j : Nat) : Int) = (xs.length : Int) - 1 - j by omega]; exact hit) (.tail _ (.head _)) hcD hdD ed ?_
    intro h1 it' hit' J
    refine wpAny_assign_Name (f_store J ?_)
    intro h2 J
    obtain ⟨d0, d1⟩ := hbd (xs.length - 1 - j) (by omega)
    obtain ⟨x0, x1, Hd'⟩ := Hd.step hlt rfl d0 d1
    generalize xs.getD (xs.length - 1 - j) 0 = dd at *
    have r0 := Hd.r0; have r1 := Hd.r1
    refine wpAny_execs_cons (Assign_Tuple (wpAny_Call_NameR (r_glob J rfl (f_callee (o := hd.zo_61 w.params) (fd := fdOf (hd.zo_61 w.params)) rfl (Calls.spliced_cons (wpAny_BinOp (wpAny_BinOp (r_name J rfl (r_name J rfl (f_lsh (by omega) ?_ (r_name J rfl (f_add ?_))))))))))))
    · have := bits_le r0 (Int.lt_trans r1 hb1); omega
    rw [Int.toNat_natCast]
    refine Calls.spliced_cons (r_name J rfl (Calls.spliced_cons (r_name J rfl (Calls.spliced_nil ⟨J.lp.k 38 _ rfl, ?_⟩))))
    have hx2 : r * 2 ^ n + dd < 2 ^ 200 := by
      have e1 : b * 2 ^ n ≤ 2 ^ 100 * 2 ^ n := Int.mul_le_mul_of_nonneg_right (Int.le_of_lt hb1) (Int.le_of_lt (kbt_pos n))
      have e2 : (2 : Int) ^ 100 * 2 ^ n ≤ 2 ^ 100 * 2 ^ 100 := by
        refine Int.mul_le_mul_of_nonneg_left ?_ (by decide)
        have := Nat.pow_le_pow_right (show 2 > 0 by decide) hn
        rw [← kbt_cast, ← kbt_cast]; omega
      have e3 : (2 : Int) ^ 100 * 2 ^ 100 = 2 ^ 200 := by decide
      omega
    generalize r * 2 ^ n + dd = xx at *
    refine d2n_spec J.lp hA hb0 (Int.lt_trans hb1 (by decide)) (Nat.le_trans (bits_le x0 hx2) (by decide)) (by omega) ?_
    intro p h3 tk3 v1 v2 k3 P3 hT
    have J := J.grow k3 P3
    refine assign_Tuple_tuple hA.hd hT rfl rfl ?_
    intro h4 hx4
    have J := J.ext hx4
    generalize xx / b = qq at *
    generalize xx % b = rr at *
    refine assignInOrder_cons (assign_Name (f_store J ?_))
    intro h5 J
    refine assignInOrder_cons (assign_Name (f_store J ?_))
    intro h6 J
    refine assignInOrder_nil ?_
    have J := J.swap1
    have hql := IntsAre.length hqi
    refine wpAny_execs_cons (wpAny_Expr (MethodCall_ (r_name J rfl (Calls.getMethod_list_append (J.own _ (.head _)).1 rfl rfl (callWith_method1 (Calls.spliced_cons (r_name J rfl (Calls.spliced_nil (f_append J hq hq0 (ne_cons hqI.symm (ne_cons hqD ne_nil)) (by rw [hql, Hd.len]; omega) ?_)))))))))
    intro h7 kq7 J
    refine wpAny_execs_nil ⟨xs.length - (j + 1), by omega, h7, _, j + 1, qs ++ [qq], qvs ++ [.int qq v1], kq7, rr, v2, it', rfl, by omega, rfl, ?_, Hd', ints_snoc hqi _ _, J.swap1.has fun m H => H.c rfl (H.c rfl (H.c rfl (H.c rfl .n)))⟩
    rw [show (xs.length : Int) - 1 - ((j + 1 : Nat) : Int) = ((xs.length - 1 - j : Nat) : Int) - 1 by omega]; exact hit'
  · have e : j = xs.length := by omega
    subst e
    refine f_revend hA.hd J hI hI0 hoI (by rw [show (-1 : Int) = (xs.length : Int) - 1 - xs.length by omega]; exact hit) ?_
    intro h1 J
    exact wpAny_execs_nil (hend _ _ _ _ _ _ _ Hd hqi (J.sub fun p hp => by rw [List.mem_singleton.mp hp]; exact .head _))
end Mine
end
section
open PySem PySem.W PySem.W.X PyProof.Rows
set_option maxRecDepth 100000
set_option Elab.async false
namespace Mine
section
variable {w : World} {A : Around} {E : Value → Shared → Prop} {h₀ hp : Heap} {g : Array GenState} {d : Drawn} {tk : Nat} {os : OsState} {L : Addr} {l : List (Str × Value)} {own : List (Addr × Obj)} {env : Env} {Q : Value → Shared → Prop} {a b : Int} {t u : Tok}
/-- reversed(list), iterated -/
theorem f_reversed {D : Addr} {vs : List Value} (J : In w h₀ L l own hp) (hl : hp.IsList D vs.toArray) (h : ∀ I it h', hp.objs.size ≤ I → RevIt it D ((vs.length : Int) - 1) → In w h₀ L l ((I, it) :: own) h' → Q (.ref I) ⟨h', g, d, tk, os⟩) :
    wpAny (model pg w) A (call (.type "reversed") [.ref D]) (fun xv s₁ => wpAny (model pg w) A (pyIter xv) Q E s₁) E ⟨hp, g, d, tk, os⟩ := by
  refine call_reversed_list (s := ⟨hp, g, d, tk, os⟩) hl ?_
  refine wpAny_pyIter_revIter (l := D) (i := ((vs.toArray.size : Int) - 1)) ⟨_, Heap.get?_push_size _ rfl, rfl, rfl⟩ ?_
  exact h _ _ _ (Nat.le_refl _) ⟨rfl, by rw [List.size_toArray]; rfl⟩ (J.push rfl)
theorem f_tupC {vs : List Value} (J : In w h₀ L l own hp) (hsz : vs.length ≤ 1000000) (h : ∀ h' a, hp.objs.size ≤ a → In w h₀ L l ((a, { cls := .type "tuple", data := .seq vs.toArray }) :: own) h' → Q (.ref a) ⟨h', g, d, tk, os⟩) :
    wpAny (model pg w) A (newTuple vs) Q E ⟨hp, g, d, tk, os⟩ := wpAny_newTuple (h _ _ (Nat.le_refl _) (J.push rfl)) (by rw [sizeLine_eq]; omega)
theorem f_listC {vs : List Value} (J : In w h₀ L l own hp) (hsz : vs.length ≤ 1000000) (h : ∀ h' a, hp.objs.size ≤ a → In w h₀ L l ((a, lob vs 0) :: own) h' → Q (.ref a) ⟨h', g, d, tk, os⟩) :
    wpAny (model pg w) A (newList vs) Q E ⟨hp, g, d, tk, os⟩ := wpAny_newList (h _ _ (Nat.le_refl _) (J.push rfl)) (by rw [sizeLine_eq]; omega)
end
theorem lp_list_fresh {w : World} {h h' : Heap} {D : Addr} {vs : List Value} (P : LP w h') (hl : h'.IsList D vs.toArray) : D ≠ 47 ∧ D ≠ 54 := let ⟨o, e, hc, _⟩ := hl; P.ne e (by rw [hc]; exact fun z => nomatch z)
set_option maxHeartbeats 2000000
theorem dmp_spec {w : World} {A : Around} {E : Value → Shared → Prop} {s : Shared} (P : LP w s.heap) (hA : Rm A 14) {a b : Int} {t t' : Tok} (ha0 : 0 ≤ a) (ha1 : a < 2 ^ 200) (hb0 : 0 < b) (hb1 : b < 2 ^ 100) {Q : Value → Shared → Prop}
    (h : ∀ p u1 u2 h' tk, Kp s.heap h' → LP w h' → IsTup h' p #[.int (a / b) u1, .int (a % b) u2] → Q (.ref p) ⟨h', s.gens, s.drawn, tk, s.os⟩) :
    wpAny (model pg w) A (call (.ref 66) [.int a t, .int b t']) Q E s := by
  refine wpAny_call ?_
  refine codeAny_call_def (fd := fdOf (hd.zo_89 w.params)) (body := bdOf (hd.zo_89 w.params)) (binds := [(n_a, .int a t), (n_b, .int b t')]) hA.room (P.k 66 _ rfl) rfl P.noLimit ⟨65, _, _, _, rfl, P.k 65 _ rfl, rfl, rfl⟩ rfl (fun M A E Q hq => pu_any hq) (nc_ok rfl) (locs rfl) (fun h₀ hns hk => ?_)
  have J : In w s.heap s.heap.objs.size [(n_b, .int b t'), (n_a, .int a t)] [] h₀ := In.start (a := 0) P hns hk
  clear hns hk
  have hz := P.size
  have hAd := hA.deeper (n := 13) (callEnv (fdOf (hd.zo_89 w.params)) s.heap.objs.size 66)
  generalize hLe : s.heap.objs.size = L at *
  refine wpAny_execs_cons (wpAny_Assign_Name (MethodCall_ (r_name J rfl (getMethod_int_bit_length (callWith_method0 (f_bits (f_store J ?_)))))))
  have hn1 : Builtin.Int.intBits b ≤ 100 := bits_le (by omega) hb1
  have hn0 : 1 ≤ Builtin.Int.intBits b := by
    rcases Nat.eq_zero_or_pos (Builtin.Int.intBits b) with e | e
    · have := (intBits_le_iff (x := b) (m := 0)).mp (by omega); simp at this; omega
    · exact e
  have hbn : b < 2 ^ Builtin.Int.intBits b := by have := (intBits_le_iff (x := b) (m := Builtin.Int.intBits b)).mp (Nat.le_refl _); have := kbt_cast (Builtin.Int.intBits b); omega
  generalize Builtin.Int.intBits b = n at *
  intro h1 J
  have hab : Builtin.Int.intBits a ≤ 200 := bits_le ha0 ha1
  refine wpAny_execs_cons (wpAny_Assign_Name (wpAny_Call_NameR (r_glob J rfl (f_callee (o := hd.zo_75 w.params) (fd := fdOf (hd.zo_75 w.params)) rfl (Calls.spliced_cons (r_name J rfl (Calls.spliced_cons (r_name J rfl (Calls.spliced_nil ⟨J.lp.k 52 _ rfl, ?_⟩)))))))))
  refine i2d_spec J.lp hAd hn0 (by omega) ha0 (by omega) ?_
  have hN1 : a < 2 ^ (n * ((Builtin.Int.intBits a + n - 1) / n)) := by
    have ha2 : a < 2 ^ Builtin.Int.intBits a := by have := (intBits_le_iff (x := a) (m := Builtin.Int.intBits a)).mp (Nat.le_refl _); have := kbt_cast (Builtin.Int.intBits a); omega
    refine Int.lt_of_lt_of_le ha2 ?_
    have h1 : Builtin.Int.intBits a ≤ n * ((Builtin.Int.intBits a + n - 1) / n) := by
      have := Nat.div_add_mod (Builtin.Int.intBits a + n - 1) n
      have := Nat.mod_lt (Builtin.Int.intBits a + n - 1) (show n > 0 by omega)
      omega
    have := Nat.pow_le_pow_right (show 2 > 0 by decide) h1
    rw [← kbt_cast, ← kbt_cast]; omega
  have hN2 : (Builtin.Int.intBits a + n - 1) / n ≤ 200 := by
    refine Nat.le_of_lt_succ (Nat.div_lt_of_lt_mul ?_)
    have := Nat.mul_le_mul_right 200 hn0
    rw [Nat.mul_succ]; omega
  intro D h2 tk2 vs xs k2 P2 hD hl hi hp
  obtain ⟨hxl, hxv, hxb⟩ := Vd_put hp ha0 hN1
  generalize (Builtin.Int.intBits a + n - 1) / n = N at *
  have hvl : vs.length = xs.length := IntsAre.length hi
  have hLD : L < D := Nat.lt_of_lt_of_le J.lt hD
  have J := J.grow k2 P2
  obtain ⟨oD, eD, cD, nD, dD⟩ := hl
  have J := J.more eD (Nat.ne_of_gt hLD) (P2.ne eD (by rw [cD]; exact fun z => nomatch z))
  refine f_store J ?_
  intro h3 J
  refine wpAny_execs_cons (wpAny_Assign_Name (f_int (f_store J ?_)))
  intro h4 J
  have bD := Heap.lt_size (J.own _ (.head _)).1
  refine wpAny_execs_cons (wpAny_Assign_Name (List_ (Calls.spliced_nil (f_listC J (show (0 : Nat) ≤ 1000000 by decide) ?_))))
  intro h5 Dq hDq J
  refine f_store J ?_
  intro h6 J
  have bq := Heap.lt_size (J.own _ (.head _)).1
  have hl6 : h6.IsList D vs.toArray := ⟨oD, (J.own _ (.tail _ (.head _))).1, cD, nD, dD⟩
  refine wpAny_execs_cons (wpAny_For (wpAny_Call_NameR (r_built J rfl rfl (PyProof.Rows.callWith_type1 (Calls.spliced_cons (r_name J rfl (Calls.spliced_nil (f_reversed J hl6 ?_))))))))
  intro I it h7 hI hit J
  have hDq2 : D < Dq := Nat.lt_of_lt_of_le bD hDq
  have hqI2 : Dq < I := Nat.lt_of_lt_of_le bq hI
  have hLq : L < Dq := Nat.lt_trans hLD hDq2
  have hLI : L < I := Nat.lt_trans hLq hqI2
  refine dm_loop (oD := oD) (b := b) (n := n) (xs := xs) hAd (Nat.le_trans hz (Nat.le_of_lt hLI)) (by rw [hLe]; exact Nat.le_of_lt hLI) (Nat.ne_of_lt (Nat.lt_trans hDq2 hqI2)) (Nat.ne_of_lt hqI2) (Nat.le_trans hz (Nat.le_of_lt hLq)) (by rw [hLe]; exact Nat.le_of_lt hLq) (Nat.ne_of_lt hDq2)
    cD dD hi (by omega) hb1 hn1 (fun i hi' => hxb i (by omega)) (hend := ?_) (hit := by rw [← hvl]; exact hit) hb0 (J.has fun m H => H.c rfl (H.c rfl (H.c rfl (H.c rfl .n))))
  intro h8 tk8 qs qvs kq r u Hd hqi J
  have hql := IntsAre.length hqi
  have hqz : (∀ p ∈ ([] : List (Addr × Obj)), p.1 ≠ Dq) := ne_nil
  refine wpAny_execs_cons (wpAny_Expr (MethodCall_ (r_name J rfl (getMethod_list_of (items := qvs.toArray) PySem.F.slot_list_reverse PySem.F.type_list_reverse ⟨_, (J.own _ (.head _)).1, rfl, _, rfl⟩ ⟨_, (J.own _ (.head _)).1, rfl⟩ (callWith_method0 (f_reverse J (Nat.le_trans hz (Nat.le_of_lt hLq)) (by rw [hLe]; exact Nat.le_of_lt hLq) hqz (by rw [hql, Hd.len]; omega) ?_))))))
  intro h9 J
  refine wpAny_execs_cons (wpAny_Assign_Name (wpAny_Call_NameR (r_glob J rfl (f_callee (o := hd.zo_82 w.params) (fd := fdOf (hd.zo_82 w.params)) rfl (Calls.spliced_cons (r_name J rfl (Calls.spliced_cons (r_name J rfl (Calls.spliced_nil ⟨J.lp.k 59 _ rfl, ?_⟩)))))))))
  refine d2i_spec (vs := qvs.reverse) (xs := qs.reverse) J.lp hAd (by omega) hqi.reverse (by rw [List.length_reverse, Hd.len]; omega) (fun i hi' => ?_) ⟨_, (J.own _ (.head _)).1, rfl, _, rfl⟩ ?_
  · refine Hd.bd _ ?_
    have : qs.reverse.getD i 0 ∈ qs.reverse := by rw [List.getD_eq_getElem?_getD, List.getElem?_eq_getElem hi']; exact List.getElem_mem hi'
    exact List.mem_reverse.mp this
  intro u9 h10 tk10 k10 P10
  have J := J.grow k10 P10
  rw [List.length_reverse, Hd.len]
  have key := Hd.eq
  rw [Nat.sub_self, hxl, hxv] at key
  have e := kbt_unique (a := a) (b := b) (q := Vd n qs.reverse 0 N) (r := r) hb0 (by omega) Hd.r0 Hd.r1
  rw [hxl, ← e.1]
  have hr := e.2.symm
  refine f_store J ?_
  intro h11 J
  refine wpAny_execs_cons (wpAny_Return_some (Tuple_ (Calls.spliced_cons (r_name J rfl (Calls.spliced_cons (r_name J rfl (Calls.spliced_nil (f_tupC J (show (2 : Nat) ≤ 1000000 by decide) ?_))))))))
  intro h12 p hp12 J
  rw [hr] at J
  exact h _ _ _ _ _ J.keep J.lp ⟨_, (J.own _ (.head _)).1, rfl, _, rfl⟩
theorem div_spec (w : World) : DivSpec w := by
  intro A E s a b t u Q P hA ha0 ha1 hb0 hb1 h
  refine wpAny_call ?_
  refine codeAny_call_def (fd := fdOf (hd.zo_96 w.params)) (body := bdOf (hd.zo_96 w.params)) (binds := [(n_a, .int a t), (n_b, .int b u)]) hA.room (P.k 73 _ rfl) rfl P.noLimit ⟨72, _, _, _, rfl, P.k 72 _ rfl, rfl, rfl⟩ rfl (fun M A E Q hq => pu_any hq) (nc_ok rfl) (locs rfl) (fun h₀ hns hk => ?_)
  have J : In w s.heap s.heap.objs.size [(n_b, .int b u), (n_a, .int a t)] [] h₀ := In.start (a := 0) P hns hk
  clear hns hk
  have hAd := hA.deeper (n := 29) (callEnv (fdOf (hd.zo_96 w.params)) s.heap.objs.size 73)
  refine wpAny_execs_cons (wpAny_If (wpAny_isTrue_Compare1 (r_name J rfl (f_int (eq_int (wpAny_truthy_bool ?_))))))
  rw [if_neg (by simp; omega)]
  refine wpAny_execs_cons (wpAny_If (wpAny_isTrue_Compare1 (r_name J rfl (f_int (lt_int (wpAny_truthy_bool ?_))))))
  rw [if_neg (by simp; omega)]
  refine wpAny_execs_cons (wpAny_If (wpAny_isTrue_Compare1 (r_name J rfl (f_int (lt_int (wpAny_truthy_bool ?_))))))
  rw [if_neg (by simp; omega)]
  refine wpAny_execs_cons (wpAny_Return_some (wpAny_Call_NameR (r_glob J rfl (f_callee (o := hd.zo_89 w.params) (fd := fdOf (hd.zo_89 w.params)) rfl (Calls.spliced_cons (r_name J rfl (Calls.spliced_cons (r_name J rfl (Calls.spliced_nil ⟨J.lp.k 66 _ rfl, ?_⟩)))))))))
  refine dmp_spec J.lp (hAd.le (by decide)) ha0 ha1 hb0 hb1 ?_
  intro p u1 u2 h2 tk2 k2 P2 hT
  have J := J.grow k2 P2
  exact h _ _ _ _ _ J.keep J.lp hT
end Mine
#print axioms Mine.div_spec
end
section
open PySem PySem.W PySem.W.X PyProof.Rows
set_option maxRecDepth 100000
set_option Elab.async false
namespace Mine
abbrev rit (x left : Int) : Obj := { cls := .type "range_iterator", data := .fields #[rawInt x, rawInt left, rawInt 1] }
theorem In.drop {w : World} {h₀ h h' : Heap} {L I : Addr} {o : Obj} {l : List (Str × Value)} {own : List (Addr × Obj)} (J : In w h₀ L l ((I, o) :: own) h) (hc : o.cls ≠ .none) (hs : ∀ vs q t, o.data = .fields vs → vs[1]? ≠ some (.str q t)) (hI : 138 ≤ I) (h0 : h₀.objs.size ≤ I) (ho : ∀ p ∈ own, p.1 ≠ I)
    (k : ∀ b o, b ≠ I → h.get? b = some o → h'.get? b = some o) : In w h₀ L l own h' := by
  have hm := J.own _ (.head _)
  refine ⟨J.lp.chg hm.1 hc hs hI k, let ⟨m, ⟨o, es, ep, ho, hd, r⟩, b⟩ := J.ns; ⟨m, ⟨o, es, ep, k L o hm.2.1.symm ho, hd, r⟩, b⟩, fun b o n1 n2 e => k b o (Nat.ne_of_lt (Nat.lt_of_lt_of_le (Heap.lt_size e) h0)) (J.keep b o n1 n2 e), J.fresh, J.low, fun p hp => ?_⟩
  exact ⟨k _ _ (ho p hp) (J.own p (.tail _ hp)).1, (J.own p (.tail _ hp)).2⟩
section
variable {w : World} {A : Around} {E : Value → Shared → Prop} {h₀ hp : Heap} {g : Array GenState} {d : Drawn} {tk : Nat} {os : OsState} {L : Addr} {l : List (Str × Value)} {own : List (Addr × Obj)} {env : Env} {Q : Value → Shared → Prop} {a b : Int} {t u : Tok}
theorem f_range2 (J : In w h₀ L l own hp) (ha : 0 ≤ a) (hab : a ≤ b) (hb : b < 1000000) (h : ∀ I h' tk', hp.objs.size ≤ I → In w h₀ L l ((I, rit a (b - a)) :: own) h' → Q (.ref I) ⟨h', g, d, tk', os⟩) :
    wpAny (model pg w) A (call (.type "range") [.int a t, .int b u]) (fun xv s₁ => wpAny (model pg w) A (pyIter xv) Q E s₁) E ⟨hp, g, d, tk, os⟩ := by
  refine call_range_2 (s := ⟨hp, g, d, tk, os⟩) ?_
  refine wpAny_pyIter_range (IsRange.new ..) (small_one (by omega) (by omega) (by omega) (by omega)) ?_
  rw [show Builtin.Range.rangeSize a b 1 = b - a by rw [rangeSize_one]; split <;> omega]
  exact h _ _ _ (by show hp.objs.size ≤ (hp.push _).objs.size; rw [Heap.size_push]; exact Nat.le_succ _) (J.pushed.push rfl)
theorem f_range1 (J : In w h₀ L l own hp) (ha : 0 ≤ a) (hb : a < 1000000) (h : ∀ I h' tk', hp.objs.size ≤ I → In w h₀ L l ((I, rit 0 a) :: own) h' → Q (.ref I) ⟨h', g, d, tk', os⟩) :
    wpAny (model pg w) A (call (.type "range") [.int a t]) (fun xv s₁ => wpAny (model pg w) A (pyIter xv) Q E s₁) E ⟨hp, g, d, tk, os⟩ := by
  refine call_range_1 (s := ⟨hp, g, d, tk, os⟩) ?_
  refine wpAny_pyIter_range (IsRange.new ..) (small_one (by omega) (by omega) (by omega) (by omega)) ?_
  rw [show Builtin.Range.rangeSize 0 a 1 = a by rw [rangeSize_one]; split <;> omega]
  exact h _ _ _ (by show hp.objs.size ≤ (hp.push _).objs.size; rw [Heap.size_push]; exact Nat.le_succ _) (J.pushed.push rfl)
theorem f_rnext {Q : Option Value → Shared → Prop} {I : Addr} {x left : Int} (J : In w h₀ L l ((I, rit x left) :: own) hp) (hI : 138 ≤ I) (h0 : h₀.objs.size ≤ I) (ho : ∀ p ∈ own, p.1 ≠ I) (hl : 0 < left)
    (h : ∀ h', In w h₀ L l ((I, rit (x + 1) (left - 1)) :: own) h' → Q (some (.int x tk)) ⟨h', g, d, tk + 1, os⟩) : wpAny (model pg w) A (pyNext (.ref I)) Q E ⟨hp, g, d, tk, os⟩ := by
  refine wpAny_pyNext_range_item (s := ⟨hp, g, d, tk, os⟩) (J.own _ (.head _)).1 hl fun h' hit hs => ?_
  exact h h' (J.chg (fun z => nomatch z) (fun vs q t e => by cases e; exact fun z => nomatch z) hI h0 ho (fun b o hb e => (hs.2 b hb).trans e) hit)
theorem f_rend {Q : Option Value → Shared → Prop} {I : Addr} {x left : Int} (hh : A.handled = none) (J : In w h₀ L l ((I, rit x left) :: own) hp) (hI : 138 ≤ I) (h0 : h₀.objs.size ≤ I) (ho : ∀ p ∈ own, p.1 ≠ I) (hl : left ≤ 0)
    (h : ∀ h', In w h₀ L l own h' → Q none ⟨h', g, d, tk, os⟩) : wpAny (model pg w) A (pyNext (.ref I)) Q E ⟨hp, g, d, tk, os⟩ := by
  refine wpAny_pyNext_range_end (s := ⟨hp, g, d, tk, os⟩) hh (J.own _ (.head _)).1 hl fun h' hs => ?_
  exact h h' (J.drop (fun z => nomatch z) (fun vs q t e => by cases e; exact fun z => nomatch z) hI h0 ho fun b o hb e => hs b o hb e)
end
end Mine
end
section
open PySem PySem.W PySem.W.X PyProof.Rows
set_option maxRecDepth 100000
set_option Elab.async false
namespace Mine
theorem take_snoc (H : List Int) {n : Nat} (h : n < H.length) : H.take (n + 1) = H.take n ++ [H.getD n 0] := by
  rw [List.take_add_one, List.getElem?_eq_getElem h, List.getD_eq_getElem?_getD, List.getElem?_eq_getElem h]; rfl
theorem take_get (H : List Int) {n i : Nat} (h : i < n) : (H.take n).getD i 0 = H.getD i 0 := by
  rw [List.getD_eq_getElem?_getD, List.getD_eq_getElem?_getD, List.getElem?_take_of_lt h]
noncomputable abbrev env123 (w : World) (L : Addr) : Env := callEnv (fdOf (hd.zo_123 w.params)) L 106
theorem f_itemL {w : World} {A : Around} {E : Value → Shared → Prop} {h₀ hp : Heap} {g : Array GenState} {d : Drawn} {tk : Nat} {os : OsState} {L : Addr} {l : List (Str × Value)} {own : List (Addr × Obj)} {Q : Value → Shared → Prop} {value slice : Expr} {a : Addr} {vs : List Value} {xs : List Int} {n kk : Nat} {k : Int} {u : Tok}
    (J : In w h₀ L l own hp) (hm : (a, lob vs kk) ∈ own) (hi : IntsAre vs xs) (hk : k = n) (hn : n < xs.length) (hz : xs.length < 1000000)
    (h : ∀ t, Q (.int (xs.getD n 0) t) ⟨hp, g, d, tk, os⟩)
    (hs : subscripted slice false (.ref a) (.int k u) = operate [.ref a, .int k u] (getItem (.ref a) (.int k u)) := by with_unfolding_all rfl) (hg : ∀ r, letTemporaryGo value (.ref a) r = pure () := by intro _; with_unfolding_all rfl) :
    wpAny (model pg w) A (subscriptTail value slice (.ref a) (.int k u)) Q E ⟨hp, g, d, tk, os⟩ := f_item ⟨_, (J.own _ hm).1, rfl, _, rfl⟩ hi hk hn hz h hs hg
set_option maxHeartbeats 2000000
theorem tab_loop {w : World} {A : Around} {nA : Nat} (hA : Rm A nA) {h₀ : Heap} {L I Df Dm : Addr} {le : Str} {tl : Tok} {H M : List Int} {k : Nat} (G : Good H M k) (hle : le.cps.size = k) (hI : 138 ≤ I) (hI0 : h₀.objs.size ≤ I) (hfI : Df ≠ I) (hmI : Dm ≠ I) (hf : 138 ≤ Df) (hf0 : h₀.objs.size ≤ Df) (hm : 138 ≤ Dm) (hm0 : h₀.objs.size ≤ Dm) (hfm : Df ≠ Dm)
    {R : Result → Shared → Prop} {g : Array GenState} {d : Drawn} {os : OsState}
    (hend : ∀ h' tk fv mv kf km, IntsAre fv H → IntsAre mv M → In w h₀ L [(n_front, .ref Df), (n_middle, .ref Dm)] [(Df, lob fv kf), (Dm, lob mv km)] h' → R (.ok .next) ⟨h', g, d, tk, os⟩)
    {h : Heap} {tk : Nat} {t1 t2 : Tok}
    (J : In w h₀ L [(n_front, .ref Df), (n_middle, .ref Dm), (n_letters, .str le tl)] [(I, rit 1 7), (Df, lob [.int 1 t1] 0), (Dm, lob [.int 1 t2] 0)] h) :
    codeAny (model pg w) A (.forLoop (foT (bdOf (hd.zo_123 w.params))) (.ref I) (foB (bdOf (hd.zo_123 w.params))) [] (env123 w L)) R ⟨h, g, d, tk, os⟩ := by
  refine codeAny_forLoop (fun m s' => ∃ h' tk j fv mv kf km x y, s' = ⟨h', g, d, tk, os⟩ ∧ j ≤ 7 ∧ m = 7 - j ∧ x = (j : Int) + 1 ∧ y = 7 - (j : Int) ∧ IntsAre fv (H.take (j + 1)) ∧ IntsAre mv (M.take (j + 1)) ∧
    In w h₀ L [(n_front, .ref Df), (n_middle, .ref Dm), (n_letters, .str le tl)] [(I, rit x y), (Df, lob fv kf), (Dm, lob mv km)] h') ?_ 7
    ⟨h, tk, 0, [.int 1 t1], [.int 1 t2], 0, 0, 1, 7, rfl, by omega, by omega, rfl, rfl, ?_, ?_, J⟩
  rotate_left
  · rw [take_snoc H (by rw [G.lh]; decide), G.h0]; exact .cons _ _ .nil
  · rw [take_snoc M (by rw [G.lm]; decide), G.m0]; exact .cons _ _ .nil
  clear J t1 t2 tk h
  rintro m _ ⟨h, tk, j, fv, mv, kf, km, x, y, rfl, hj, hmj, hx, hy, hfi, hmi, J⟩
  have hoI : ∀ p ∈ [(Df, lob fv kf), (Dm, lob mv km)], p.1 ≠ I := ne_cons hfI (ne_cons hmI ne_nil)
  by_cases hlt : j < 7
  · refine f_rnext J hI hI0 hoI (by omega) ?_
    intro h1 J
    refine wpAny_assign_Name (f_store J ?_)
    intro h2 J
    have lf : (H.take (j + 1)).length = j + 1 := by rw [List.length_take, G.lh]; omega
    have lm : (M.take (j + 1)).length = j + 1 := by rw [List.length_take, G.lm]; omega
    refine wpAny_execs_cons (wpAny_Assign_Name (wpAny_mono (Q := fun v s₁ => ∃ u tk', v = .int (if 0 < j then H.getD (j - 1) 0 else 0) u ∧ s₁ = ⟨h2, g, d, tk', os⟩) (IfExp_ (wpAny_isTrue_Compare1 (r_name J rfl (f_int (gt_int (wpAny_truthy_bool ?_)))))) ?_ (fun _ _ e => e)))
    · refine split_dec (fun h1 => ?_) (fun h1 => ?_)
      · refine Subscript_ (r_name J rfl (wpAny_BinOp (r_name J rfl (f_int (f_sub (f_itemL (n := j - 1) J (.tail _ (.head _)) hfi (by omega) (by omega) (by omega) ?_))))))
        exact fun t => ⟨t, _, by rw [if_pos (by omega), take_get _ (by omega)], rfl⟩
      · exact f_int ⟨_, _, by rw [if_neg (by omega)], rfl⟩
    rintro _ _ ⟨ue, tke, rfl, rfl⟩
    refine f_store J ?_
    intro h3 J
    refine wpAny_execs_cons (wpAny_Assign_Name (wpAny_mono (Q := fun v s₁ => ∃ u tk', v = .int (if 1 ≤ j then M.getD (j - 1) 0 else 0) u ∧ s₁ = ⟨h3, g, d, tk', os⟩) (IfExp_ (wpAny_isTrue_Compare1 (r_name J rfl (f_int (gt_int (wpAny_truthy_bool ?_)))))) ?_ (fun _ _ e => e)))
    · refine split_dec (fun h1 => ?_) (fun h1 => ?_)
      · refine Subscript_ (r_name J rfl (wpAny_BinOp (r_name J rfl (f_int (f_sub (f_itemL (n := j - 1) J (.tail _ (.tail _ (.head _))) hmi (by omega) (by omega) (by omega) ?_))))))
        exact fun t => ⟨t, _, by rw [if_pos (by omega), take_get _ (by omega)], rfl⟩
      · exact f_int ⟨_, _, by rw [if_neg (by omega)], rfl⟩
    rintro _ _ ⟨ud, tkd, rfl, rfl⟩
    refine f_store J ?_
    intro h4 J
    have hk2 := G.k2
    have mp := G.mpos j (by omega)
    have ms := G.msm j (by omega)
    have hmul : IntMulOk (le.cps.size : Int) (M.getD j 0) := IntMulOk.of_le (m := 10) (n := 20) (bits_le (by omega) (by omega)) (bits_le (by omega) (by omega)) (by decide)
    have eH := G.hrec j hlt
    have eM := G.mrec j hlt
    have hfl := IntsAre.length hfi
    have hml := IntsAre.length hmi
    have J := J.swap1
    refine wpAny_execs_cons (wpAny_Expr (MethodCall_ (r_name J rfl (Calls.getMethod_list_append (J.own _ (.head _)).1 rfl rfl (callWith_method1 (Calls.spliced_cons ?_))))))
    refine wpAny_BinOp (wpAny_BinOp (r_name J rfl (r_name J rfl (f_add ?_))))
    refine wpAny_BinOp (wpAny_Call_NameR (r_built J rfl rfl (PyProof.Rows.callWith_builtin1 (Calls.spliced_cons (r_name J rfl (Calls.spliced_nil (f_lens (by omega) ?_)))))))
    intro tk5
    refine Subscript_ (r_name J rfl (wpAny_BinOp (r_name J rfl (f_int (f_sub (f_itemL (n := j) J (.tail _ (.tail _ (.head _))) hmi (by omega) (by omega) (by omega) ?_))))))
    intro t5
    rw [take_get _ (by omega)]
    refine f_mul hmul (f_add (Calls.spliced_nil (f_append J hf hf0 (ne_cons hfI.symm (ne_cons hfm.symm ne_nil)) (by omega) ?_)))
    rw [hle, ← eH]
    intro h6 kf6 J
    have J := J.swap2
    refine wpAny_execs_cons (wpAny_Expr (MethodCall_ (r_name J rfl (Calls.getMethod_list_append (J.own _ (.head _)).1 rfl rfl (callWith_method1 (Calls.spliced_cons ?_))))))
    refine wpAny_BinOp (wpAny_BinOp (r_name J rfl ?_))
    refine Subscript_ (r_name J rfl (wpAny_BinOp (r_name J rfl (f_int (f_sub (f_itemL (n := j) J (.head _) hmi (by omega) (by omega) (by omega) ?_))))))
    intro t6
    rw [take_get _ (by omega)]
    refine f_add ?_
    refine wpAny_BinOp (wpAny_Call_NameR (r_built J rfl rfl (PyProof.Rows.callWith_builtin1 (Calls.spliced_cons (r_name J rfl (Calls.spliced_nil (f_lens (by omega) ?_)))))))
    intro tk7
    refine Subscript_ (r_name J rfl (wpAny_BinOp (r_name J rfl (f_int (f_sub (f_itemL (n := j) J (.head _) hmi (by omega) (by omega) (by omega) ?_))))))
    intro t7
    rw [take_get _ (by omega)]
    refine f_mul hmul (f_add (Calls.spliced_nil (f_append J hm hm0 (ne_cons hfm (ne_cons hmI.symm ne_nil)) (by omega) ?_)))
    rw [hle, ← eM]
    intro h8 km8 J
    refine wpAny_execs_nil ⟨7 - (j + 1), by omega, h8, _, j + 1, _, _, kf6, km8, _, _, rfl, by omega, rfl, ?_, ?_, ?_, ?_, J.swap1.swap2.has fun m H => H.c rfl (H.c rfl (H.c rfl .n))⟩
    · omega
    · omega
    · rw [take_snoc H (n := j + 1) (by rw [G.lh]; omega)]; exact ints_snoc hfi _ _
    · rw [take_snoc M (n := j + 1) (by rw [G.lm]; omega)]; exact ints_snoc hmi _ _
  · have e : j = 7 := by omega
    subst e
    refine f_rend hA.hd J hI hI0 hoI (by omega) ?_
    intro h1 J
    rw [List.take_of_length_le (by rw [G.lh]; decide)] at hfi
    rw [List.take_of_length_le (by rw [G.lm]; decide)] at hmi
    exact wpAny_execs_nil (hend _ _ _ _ _ _ hfi hmi (J.has fun m H => H.c rfl (H.c rfl .n)))
theorem tab_spec {w : World} {A : Around} {E : Value → Shared → Prop} {s : Shared} (P : LP w s.heap) {nA : Nat} (hA : Rm A (nA + 1)) {le : Str} {t t' : Tok} {H M : List Int} {k : Nat} (G : Good H M k) (hle : le.cps.size = k) {Q : Value → Shared → Prop}
    (h : ∀ p Df Dm fv mv h' tk, Kp s.heap h' → LP w h' → IsTup h' p #[.ref Df, .ref Dm] → h'.IsList Df fv.toArray → IntsAre fv H → h'.IsList Dm mv.toArray → IntsAre mv M → s.heap.objs.size ≤ Df → s.heap.objs.size ≤ Dm → Q (.ref p) ⟨h', s.gens, s.drawn, tk, s.os⟩) :
    wpAny (model pg w) A (call (.ref 106) [.str le t, .int 7 t']) Q E s := by
  refine wpAny_call ?_
  refine codeAny_call_def (fd := fdOf (hd.zo_123 w.params)) (body := bdOf (hd.zo_123 w.params)) (binds := [(n_letters, .str le t), (n_size, .int 7 t')]) hA.room (P.k 106 _ rfl) rfl P.noLimit ⟨105, _, _, _, rfl, P.k 105 _ rfl, rfl, rfl⟩ rfl (fun M A E Q hq => pu_any hq) (nc_ok rfl) (locs rfl) (fun h₀ hns hk => ?_)
  have J : In w s.heap s.heap.objs.size [(n_size, .int 7 t'), (n_letters, .str le t)] [] h₀ := In.start (a := 0) P hns hk
  clear hns hk
  have hz := P.size
  have hAd := hA.deeper (callEnv (fdOf (hd.zo_123 w.params)) s.heap.objs.size 106)
  generalize hLe : s.heap.objs.size = L at *
  refine wpAny_execs_cons (wpAny_Assign_Name (List_ (Calls.spliced_cons (f_int (k := 0) (pos := default) (Calls.spliced_nil (f_listC J (show (1 : Nat) ≤ 1000000 by decide) ?_))))))
  have bL := J.lt
  intro h1 Df hDf J
  refine f_store J ?_
  intro h2 J
  have bf := Heap.lt_size (J.own _ (.head _)).1
  refine wpAny_execs_cons (wpAny_Assign_Name (List_ (Calls.spliced_cons (f_int (k := 0) (pos := default) (Calls.spliced_nil (f_listC J (show (1 : Nat) ≤ 1000000 by decide) ?_))))))
  intro h3 Dm hDm J
  refine f_store J ?_
  intro h4 J
  have bm := Heap.lt_size (J.own _ (.head _)).1
  refine wpAny_execs_cons (wpAny_For (wpAny_Call_NameR (r_built J rfl rfl (PyProof.Rows.callWith_type1 (Calls.spliced_cons (f_int (k := 0) (pos := default) ?_))))))
  refine Calls.spliced_cons (wpAny_BinOp (r_name J rfl (f_int (f_add (Calls.spliced_nil (f_range2 J (by decide) (by decide) (by decide) ?_))))))
  intro I h5 tk5 hI J
  have l1 : L < Df := Nat.lt_of_lt_of_le bL hDf
  have l2 : Df < Dm := Nat.lt_of_lt_of_le bf hDm
  have l3 : Dm < I := Nat.lt_of_lt_of_le bm hI
  have l4 : L < Dm := Nat.lt_trans l1 l2
  have l5 : L < I := Nat.lt_trans l4 l3
  refine tab_loop hAd G hle (Nat.le_trans hz (Nat.le_of_lt l5)) (by rw [hLe]; exact Nat.le_of_lt l5) (Nat.ne_of_lt (Nat.lt_trans l2 l3)) (Nat.ne_of_lt l3) (Nat.le_trans hz (Nat.le_of_lt l1)) (by rw [hLe]; exact Nat.le_of_lt l1) (Nat.le_trans hz (Nat.le_of_lt l4)) (by rw [hLe]; exact Nat.le_of_lt l4) (Nat.ne_of_lt l2)
    (hend := ?_) (J.swap2.swap2.swap1.swap2.has fun m H => H.c rfl (H.c rfl (H.c rfl .n)))
  intro h6 tk6 fv mv kf km hfi hmi J
  refine wpAny_execs_cons (wpAny_Return_some (Tuple_ (Calls.spliced_cons (r_name J rfl (Calls.spliced_cons (r_name J rfl (Calls.spliced_nil (f_tupC J (show (2 : Nat) ≤ 1000000 by decide) ?_))))))))
  intro h7 p hp7 J
  exact h p Df Dm fv mv h7 _ J.keep J.lp ⟨_, (J.own _ (.head _)).1, rfl, _, rfl⟩ ⟨_, (J.own _ (.tail _ (.head _))).1, rfl, _, rfl⟩ hfi ⟨_, (J.own _ (.tail _ (.tail _ (.head _)))).1, rfl, _, rfl⟩ hmi (Nat.le_of_lt l1) (Nat.le_of_lt l4)
end Mine
end
section
open PySem PySem.W PySem.W.X PyProof.Rows
set_option maxRecDepth 100000
set_option Elab.async false
namespace Mine
def HT (k : Nat) : List Int := match k with | 1 => [1, 1, 4, 8, 20, 45, 106, 245] | _ => [1, 2, 8, 25, 82, 265, 860, 2788]
def MT (k : Nat) : List Int := match k with | 1 => [1, 2, 5, 11, 26, 60, 140, 325] | _ => [1, 3, 10, 32, 104, 337, 1093, 3544]
theorem good1 : Good (HT 1) (MT 1) 1 := ⟨rfl, rfl, by decide, rfl, rfl, by decide, by decide, by decide, by decide, by decide⟩
theorem good2 : Good (HT 2) (MT 2) 2 := ⟨rfl, rfl, by decide, rfl, rfl, by decide, by decide, by decide, by decide, by decide⟩
theorem good {k : Nat} (h : k = 1 ∨ k = 2) : Good (HT k) (MT k) k := by rcases h with rfl | rfl; exact good1; exact good2
def under (k : Nat) : Int := 2 ^ 64 - ((k : Int) + 1) * 2 ^ 48 - 2 ^ 32 + 2 ^ 16 - 1
theorem list8 {xs : List Int} (h : xs.length = 8) : xs = [xs.getD 0 0, xs.getD 1 0, xs.getD 2 0, xs.getD 3 0, xs.getD 4 0, xs.getD 5 0, xs.getD 6 0, xs.getD 7 0] := by
  match xs, h with
  | [a, b, c, d, e, f, g, i], _ => rfl
theorem whole_bits {k : Nat} (h : k = 1 ∨ k = 2) : Builtin.Int.intBits (2 ^ 176 / under k) = 113 := by rcases h with rfl | rfl <;> decide +kernel
theorem whole_digs {k : Nat} (h : k = 1 ∨ k = 2) {xs : List Int} (hp : Put 16 0 8 (2 ^ 176 / under k) (List.replicate 8 0) xs) : xs.reverse = MT k := by
  have e := list8 (xs := xs) (by rw [hp.1]; rfl)
  rw [e]
  simp only [hp.2]
  rcases h with rfl | rfl <;> decide +kernel
theorem f_pow {w : World} {A : Around} {E : Value → Shared → Prop} {hp : Heap} {g : Array GenState} {d : Drawn} {tk : Nat} {os : OsState} {Q : Value → Shared → Prop} {a b : Int} {t u : Tok} (hb : 0 ≤ b) (hs : (Builtin.Int.intBits a : Int) * b ≤ 2 ^ 27) (h : Q (.int (a ^ b.toNat) tk) ⟨hp, g, d, tk + 1, os⟩) :
    wpAny (model pg w) A (binaryOp .Pow (.int a t) (.int b u)) Q E ⟨hp, g, d, tk, os⟩ := PyProof.Rows.pow_int hb hs h
theorem f_neg {w : World} {A : Around} {E : Value → Shared → Prop} {hp : Heap} {g : Array GenState} {d : Drawn} {tk : Nat} {os : OsState} {Q : Value → Shared → Prop} {a : Int} {t : Tok} (h : Q (.int (-a) tk) ⟨hp, g, d, tk + 1, os⟩) :
    wpAny (model pg w) A (unaryOp .USub (.int a t)) Q E ⟨hp, g, d, tk, os⟩ := PyProof.Rows.neg_int h
/-- a list from its end to its beginning -/
theorem f_rev {w : World} {A : Around} {E : Value → Shared → Prop} {hp : Heap} {g : Array GenState} {d : Drawn} {tk : Nat} {os : OsState} {Q : Value → Shared → Prop} {value slice : Expr} {l : Addr} {vs : List Value} {xs : List Int} {u : Tok} (hl : hp.IsList l vs.toArray) (hi : IntsAre vs xs) (hsz : xs.length ≤ 1000)
    (h : ∀ a h' ws, (∀ b o, hp.get? b = some o → h'.get? b = some o) → h'.IsList a ws.toArray → IntsAre ws xs.reverse → hp.objs.size ≤ a → Q (.ref a) ⟨h', g, d, tk, os⟩)
    (hs : subscripted slice false (.ref l) (.ref hp.objs.size) = operate [.ref l, .ref hp.objs.size] (getItem (.ref l) (.ref hp.objs.size)) := by with_unfolding_all rfl) :
    wpAny (model pg w) A (subscriptTail value slice (.ref l) (.ref hp.objs.size)) Q E ⟨hp.push { cls := .type "slice", data := .fields #[.none, .none, .int (-1) u] }, g, d, tk, os⟩ := by
  refine kba_turn (value' := .Name ⟨#[]⟩ default) (fun _ => rfl) ?_
  refine subscriptTail_ops (Heap.IsList.typeIs (s := ⟨hp.push { cls := .type "slice", data := .fields #[.none, .none, .int (-1) u] }, g, d, tk, os⟩) (hl.push _)) list_getitem_lookup
    (wpAny_getItem_list_slice (hl.push _) (Heap.IsSliceOf.new ..) .none .none (.int _ _) (by decide) ?_ (by rw [List.size_toArray, IntsAre.length hi, sizeLine_eq]; omega)) hs (fun _ => rfl)
  rw [krv_pick]
  refine h _ _ vs.reverse (fun b o e => Heap.get?_push_of_some _ (Heap.get?_push_of_some _ e)) ⟨_, Heap.get?_push_size _ rfl, rfl, _, rfl⟩ hi.reverse ?_
  show hp.objs.size ≤ (hp.push _).objs.size
  rw [Heap.size_push]; exact Nat.le_succ _
set_option maxHeartbeats 2000000
theorem dig_spec {w : World} {A : Around} {E : Value → Shared → Prop} {s : Shared} (P : LP w s.heap) (hA : Rm A 32) {le : Str} {t t' : Tok} {k : Nat} (hk : k = 1 ∨ k = 2) (hle : le.cps.size = k) {Q : Value → Shared → Prop}
    (h : ∀ D vs h' tk, Kp s.heap h' → LP w h' → h'.IsList D vs.toArray → IntsAre vs (MT k) → s.heap.objs.size ≤ D → Q (.ref D) ⟨h', s.gens, s.drawn, tk, s.os⟩) :
    wpAny (model pg w) A (call (.ref 113) [.str le t, .int 7 t']) Q E s := by
  refine wpAny_call ?_
  refine codeAny_call_def (fd := fdOf (hd.zo_130 w.params)) (body := bdOf (hd.zo_130 w.params)) (binds := [(n_letters, .str le t), (n_size, .int 7 t')]) hA.room (P.k 113 _ rfl) rfl P.noLimit ⟨112, _, _, _, rfl, P.k 112 _ rfl, rfl, rfl⟩ rfl (fun M A E Q hq => pu_any hq) (nc_ok rfl) (locs rfl) (fun h₀ hns hk => ?_)
  have J : In w s.heap s.heap.objs.size [(n_size, .int 7 t'), (n_letters, .str le t)] [] h₀ := In.start (a := 0) P hns hk
  clear hns hk
  have hAd := hA.deeper (n := 31) (callEnv (fdOf (hd.zo_130 w.params)) s.heap.objs.size 113)
  refine wpAny_execs_cons (wpAny_Assign_Name (wpAny_BinOp (f_int (f_int (f_lsh (by decide) (by decide) (f_store J ?_))))))
  rw [show (1 : Int) * 2 ^ (16 : Int).toNat = 65536 by decide]
  intro h1 J
  refine wpAny_execs_cons (wpAny_Assign_Name (wpAny_BinOp (wpAny_BinOp (wpAny_BinOp (wpAny_BinOp (wpAny_BinOp (r_name J rfl (f_int (f_pow (by decide) (by decide) ?_)))))))))
  refine wpAny_BinOp (wpAny_BinOp (wpAny_Call_NameR (r_built J rfl rfl (PyProof.Rows.callWith_builtin1 (Calls.spliced_cons (r_name J rfl (Calls.spliced_nil (f_lens (by omega) ?_))))))))
  intro tk2
  refine f_int (f_add (wpAny_BinOp (r_name J rfl (f_int (f_pow (by decide) (by decide) ?_)))))
  refine f_mul ?_ (f_sub (wpAny_BinOp (r_name J rfl (f_int (f_pow (by decide) (by decide) (f_sub (r_name J rfl (f_add (f_int (f_sub (f_store J ?_)))))))))))
  · exact IntMulOk.of_le (m := 10) (n := 64) (bits_le (by omega) (by omega)) (bits_le (by decide) (by decide)) (by decide)
  have hu : ((65536 : Int) ^ (4 : Int).toNat - ((le.cps.size : Int) + 1) * 65536 ^ (3 : Int).toNat - 65536 ^ (2 : Int).toNat + 65536 - 1) = under k := by
    rw [hle]; unfold under; rcases hk with rfl | rfl <;> decide
  rw [hu]
  intro h3 J
  refine wpAny_execs_cons (Assign_Tuple (wpAny_Call_NameR (r_glob J rfl (f_callee (o := hd.zo_96 w.params) (fd := fdOf (hd.zo_96 w.params)) rfl (Calls.spliced_cons (wpAny_BinOp (r_name J rfl (wpAny_BinOp (r_name J rfl (f_int (f_add (f_pow (by decide) (by decide) ?_))))))))))))
  rw [show (65536 : Int) ^ (7 + 4 : Int).toNat = 2 ^ 176 by decide +kernel]
  refine Calls.spliced_cons (r_name J rfl (Calls.spliced_nil ⟨J.lp.k 73 _ rfl, ?_⟩))
  have hu0 : 0 < under k := by rcases hk with rfl | rfl <;> decide
  have hu1 : under k < 2 ^ 100 := by rcases hk with rfl | rfl <;> decide
  refine div_spec w _ _ _ _ _ _ _ _ J.lp (hAd.le (by decide)) (by decide) (by decide) hu0 hu1 ?_
  have hwb := whole_bits hk
  have hw0 : 0 ≤ 2 ^ 176 / under k := by rcases hk with rfl | rfl <;> decide +kernel
  have hwd := @whole_digs k hk
  generalize (2 : Int) ^ 176 / under k = W at *
  intro p v1 v2 h4 tk4 k4 P4 hT
  have J := J.grow k4 P4
  refine assign_Tuple_tuple hAd.hd hT rfl rfl ?_
  intro h5 hx5
  have J := J.ext hx5
  refine assignInOrder_cons (assign_Name (f_store J ?_))
  intro h6 J
  refine assignInOrder_cons (assign_Name (f_store J ?_))
  intro h7 J
  refine assignInOrder_nil ?_
  refine wpAny_execs_cons (wpAny_Return_some (Subscript_ (wpAny_Call_NameR (r_glob J rfl (f_callee (o := hd.zo_75 w.params) (fd := fdOf (hd.zo_75 w.params)) rfl (Calls.spliced_cons (r_name J rfl (Calls.spliced_cons (f_int (k := 0) (pos := default) (Calls.spliced_nil ⟨J.lp.k 52 _ rfl, ?_⟩))))))))))
  refine i2d_spec (n := 16) J.lp (hAd.le (by decide)) (by decide) (by decide) hw0 (by rw [hwb]; decide) ?_
  rw [hwb]
  intro D h8 tk8 vs xs k8 P8 hD hl hi hp
  have J := J.grow k8 P8
  have hx := hwd hp
  have hxl : xs.length = 8 := by rw [hp.1]; rfl
  refine wpAny_Slice (evalPart_none_step (evalPart_none_step (evalPart_some_step (UnaryOp_ (f_int (f_neg ?_))))))
  refine f_rev hl hi (by omega) ?_
  intro a h9 ws k9 hl9 hi9 ha
  have hLa := Nat.le_trans (Nat.le_of_lt J.lt) ha
  have J := J.keepAll k9
  rw [hx] at hi9
  exact h a ws h9 _ J.keep J.lp hl9 hi9 hLa
end Mine
end
section
open PySem PySem.W PySem.W.X PyProof.Rows
set_option maxRecDepth 100000
set_option Elab.async false
namespace Mine
noncomputable abbrev env137 (w : World) (L : Addr) : Env := callEnv (fdOf (hd.zo_137 w.params)) L 120
/-- heads from mids -/
structure HdOf (H M : List Int) : Prop where
  lh : H.length = 8
  lm : M.length = 8
  eq : ∀ n, n < 8 → H.getD n 0 = M.getD n 0 - (if 0 < n then M.getD (n - 1) 0 else 0) + (if 1 < n then M.getD (n - 2) 0 else 0)
theorem hdOf {k : Nat} (h : k = 1 ∨ k = 2) : HdOf (HT k) (MT k) := by rcases h with rfl | rfl <;> exact ⟨rfl, rfl, by decide⟩
set_option maxHeartbeats 2000000
theorem head_loop {w : World} {A : Around} {nA : Nat} (hA : Rm A nA) {h₀ : Heap} (P : LP w h₀) {L I Dh Dm : Addr} {mv : List Value} {H M : List Int} (G : HdOf H M) (hml : h₀.IsList Dm mv.toArray) (hmi : IntsAre mv M) (hI : 138 ≤ I) (hI0 : h₀.objs.size ≤ I) (hhI : Dh ≠ I) (hh : 138 ≤ Dh) (hh0 : h₀.objs.size ≤ Dh)
    {R : Result → Shared → Prop} {g : Array GenState} {d : Drawn} {os : OsState}
    (hend : ∀ h' tk hv kh, IntsAre hv H → In w h₀ L [(n_heads, .ref Dh)] [(Dh, lob hv kh)] h' → R (.ok .next) ⟨h', g, d, tk, os⟩)
    {h : Heap} {tk : Nat} (J : In w h₀ L [(n_heads, .ref Dh), (n_mids, .ref Dm)] [(I, rit 0 8), (Dh, lob [] 0)] h) :
    codeAny (model pg w) A (.forLoop (foT (bdOf (hd.zo_137 w.params))) (.ref I) (foB (bdOf (hd.zo_137 w.params))) [] (env137 w L)) R ⟨h, g, d, tk, os⟩ := by
  refine codeAny_forLoop (fun m s' => ∃ h' tk j hv kh x y, s' = ⟨h', g, d, tk, os⟩ ∧ j ≤ 8 ∧ m = 8 - j ∧ x = (j : Int) ∧ y = 8 - (j : Int) ∧ IntsAre hv (H.take j) ∧
    In w h₀ L [(n_heads, .ref Dh), (n_mids, .ref Dm)] [(I, rit x y), (Dh, lob hv kh)] h') ?_ 8
    ⟨h, tk, 0, [], 0, 0, 8, rfl, by omega, by omega, rfl, rfl, .nil, J⟩
  clear J tk h
  rintro m _ ⟨h, tk, j, hv, kh, x, y, rfl, hj, hmj, hx, hy, hhi, J⟩
  have hoI : ∀ p ∈ [(Dh, lob hv kh)], p.1 ≠ I := ne_cons hhI ne_nil
  by_cases hlt : j < 8
  · refine f_rnext J hI hI0 hoI (by omega) ?_
    intro h1 J
    refine wpAny_assign_Name (f_store J ?_)
    intro h2 J
    refine wpAny_execs_cons (wpAny_Assign_Name (wpAny_mono (Q := fun v s₁ => ∃ u tk', v = .int (if 0 < j then M.getD (j - 1) 0 else 0) u ∧ s₁ = ⟨h2, g, d, tk', os⟩) (IfExp_ (wpAny_isTrue_Compare1 (r_name J rfl (f_int (gt_int (wpAny_truthy_bool ?_)))))) ?_ (fun _ _ e => e)))
    · refine split_dec (fun h1 => ?_) (fun h1 => ?_)
      · refine Subscript_ (r_name J rfl (wpAny_BinOp (r_name J rfl (f_int (f_sub (f_item (n := j - 1) (J.list P hml) hmi (by omega) (by rw [G.lm]; omega) (by rw [G.lm]; decide) ?_))))))
        exact fun t => ⟨t, _, by rw [if_pos (by omega)], rfl⟩
      · exact f_int ⟨_, _, by rw [if_neg (by omega)], rfl⟩
    rintro _ _ ⟨ue, tke, rfl, rfl⟩
    refine f_store J ?_
    intro h3 J
    refine wpAny_execs_cons (wpAny_Assign_Name (wpAny_mono (Q := fun v s₁ => ∃ u tk', v = .int (if 1 < j then M.getD (j - 2) 0 else 0) u ∧ s₁ = ⟨h3, g, d, tk', os⟩) (IfExp_ (wpAny_isTrue_Compare1 (r_name J rfl (f_int (gt_int (wpAny_truthy_bool ?_)))))) ?_ (fun _ _ e => e)))
    · refine split_dec (fun h1 => ?_) (fun h1 => ?_)
      · refine Subscript_ (r_name J rfl (wpAny_BinOp (r_name J rfl (f_int (f_sub (f_item (n := j - 2) (J.list P hml) hmi (by omega) (by rw [G.lm]; omega) (by rw [G.lm]; decide) ?_))))))
        exact fun t => ⟨t, _, by rw [if_pos (by omega)], rfl⟩
      · exact f_int ⟨_, _, by rw [if_neg (by omega)], rfl⟩
    rintro _ _ ⟨ud, tkd, rfl, rfl⟩
    refine f_store J ?_
    intro h4 J
    have eH := G.eq j hlt
    have hhl := IntsAre.length hhi
    have lf : (H.take j).length = j := by rw [List.length_take, G.lh]; omega
    have J := J.swap1
    refine wpAny_execs_cons (wpAny_Expr (MethodCall_ (r_name J rfl (Calls.getMethod_list_append (J.own _ (.head _)).1 rfl rfl (callWith_method1 (Calls.spliced_cons ?_))))))
    refine wpAny_BinOp (wpAny_BinOp (Subscript_ (r_name J rfl (r_name J rfl (f_item (n := j) (J.list P hml) hmi hx (by rw [G.lm]; omega) (by rw [G.lm]; decide) ?_)))))
    intro t5
    refine r_name J rfl (f_sub (r_name J rfl (f_add (Calls.spliced_nil (f_append J hh hh0 (ne_cons hhI.symm ne_nil) (by omega) ?_)))))
    rw [← eH]
    intro h6 kh6 J
    refine wpAny_execs_nil ⟨8 - (j + 1), by omega, h6, _, j + 1, _, kh6, _, _, rfl, by omega, rfl, ?_, ?_, ?_, J.swap1.has fun m H => H.c rfl (H.c rfl .n)⟩
    · omega
    · omega
    · rw [take_snoc H (n := j) (by rw [G.lh]; omega)]; exact ints_snoc hhi _ _
  · have e : j = 8 := by omega
    subst e
    refine f_rend hA.hd J hI hI0 hoI (by omega) ?_
    intro h1 J
    rw [List.take_of_length_le (by rw [G.lh]; decide)] at hhi
    exact wpAny_execs_nil (hend _ _ _ _ hhi (J.has fun m H => H.c rfl .n))
theorem head_spec {w : World} {A : Around} {E : Value → Shared → Prop} {s : Shared} (P : LP w s.heap) {nA : Nat} (hA : Rm A (nA + 1)) {Dm : Addr} {mv : List Value} {H M : List Int} (G : HdOf H M) (hml : s.heap.IsList Dm mv.toArray) (hmi : IntsAre mv M) {Q : Value → Shared → Prop}
    (h : ∀ Dh hv h' tk, Kp s.heap h' → LP w h' → h'.IsList Dh hv.toArray → IntsAre hv H → s.heap.objs.size ≤ Dh → Q (.ref Dh) ⟨h', s.gens, s.drawn, tk, s.os⟩) :
    wpAny (model pg w) A (call (.ref 120) [.ref Dm]) Q E s := by
  refine wpAny_call ?_
  refine codeAny_call_def (fd := fdOf (hd.zo_137 w.params)) (body := bdOf (hd.zo_137 w.params)) (binds := [(n_mids, .ref Dm)]) hA.room (P.k 120 _ rfl) rfl P.noLimit ⟨119, _, _, _, rfl, P.k 119 _ rfl, rfl, rfl⟩ rfl (fun M A E Q hq => pu_any hq) (nc_ok rfl) (locs rfl) (fun h₀ hns hk => ?_)
  have J : In w s.heap s.heap.objs.size [(n_mids, .ref Dm)] [] h₀ := In.start (a := 0) P hns hk
  clear hns hk
  have hz := P.size
  have hAd := hA.deeper (callEnv (fdOf (hd.zo_137 w.params)) s.heap.objs.size 120)
  generalize hLe : s.heap.objs.size = L at *
  have bL := J.lt
  refine wpAny_execs_cons (wpAny_Assign_Name (List_ (Calls.spliced_nil (f_listC J (show (0 : Nat) ≤ 1000000 by decide) ?_))))
  intro h1 Dh hDh J
  refine f_store J ?_
  intro h2 J
  have bh := Heap.lt_size (J.own _ (.head _)).1
  refine wpAny_execs_cons (wpAny_For (wpAny_Call_NameR (r_built J rfl rfl (PyProof.Rows.callWith_type1 (Calls.spliced_cons ?_)))))
  refine wpAny_Call_NameR (r_built J rfl rfl (PyProof.Rows.callWith_builtin1 (Calls.spliced_cons (r_name J rfl (Calls.spliced_nil (f_len (n := 8) (J.list P hml) ((IntsAre.length hmi).trans G.lm) (by decide) ?_))))))
  intro tk3
  refine Calls.spliced_nil (f_range1 J (by decide) (by decide) ?_)
  intro I h5 tk5 hI J
  have l1 : L < Dh := Nat.lt_of_lt_of_le bL hDh
  have l3 : Dh < I := Nat.lt_of_lt_of_le bh hI
  have l5 : L < I := Nat.lt_trans l1 l3
  refine head_loop hAd P G hml hmi (Nat.le_trans hz (Nat.le_of_lt l5)) (by rw [hLe]; exact Nat.le_of_lt l5) (Nat.ne_of_lt l3) (Nat.le_trans hz (Nat.le_of_lt l1)) (by rw [hLe]; exact Nat.le_of_lt l1) (hend := ?_) (J.has fun m H => H.c rfl (H.c rfl .n))
  intro h6 tk6 hv kh hhi J
  refine wpAny_execs_cons (wpAny_Return_some (r_name J rfl ?_))
  exact h Dh hv h6 _ J.keep J.lp ⟨_, (J.own _ (.head _)).1, rfl, _, rfl⟩ hhi (Nat.le_of_lt l1)
end Mine
end
section
open PySem
set_option maxRecDepth 100000
set_option Elab.async false
namespace Mine
/-- how many signs are sent -/
def snt : Bool → List Tk → Nat
  | _, [] => 0
  | _, .e :: r => 2 + snt true r
  | b, .d :: r => cst b + snt false r
  | _, .l _ :: r => 1 + snt false r
/-- the place among the texts that are sent in as many signs -/
def rnk (H M : List Int) : Bool → List Tk → Int
  | _, [] => 0
  | _, .e :: r => rnk H M true r
  | b, .d :: r => eds H (cst b + snt false r) + rnk H M false r
  | b, .l i :: r => eds H (1 + snt false r) + dts M b (1 + snt false r) + i * M.getD (snt false r) 0 + rnk H M false r
def LtOk (k : Nat) (ts : List Tk) : Prop := ∀ i, Tk.l i ∈ ts → i < k
theorem wr_len (le : Str) : ∀ (ts : List Tk) (b : Bool), (wr le b ts).length = snt b ts
  | [], b => by cases b <;> rfl
  | .e :: r, b => by cases b <;> simp only [wr, snt, List.length_cons, wr_len le r] <;> omega
  | .d :: r, b => by cases b <;> simp only [wr, snt, cst, List.length_cons, wr_len le r, if_true, Bool.false_eq_true, if_false] <;> omega
  | .l i :: r, b => by cases b <;> simp only [wr, snt, List.length_cons, wr_len le r] <;> omega
theorem toks_all {H M : List Int} {k : Nat} (G : Good H M k) : ∀ (n : Nat) (b : Bool) (r : Int), n ≤ 7 → 0 ≤ r → r < cnt H M b n →
    snt b (toks H M 8 b n r) = n ∧ rnk H M b (toks H M 8 b n r) = r ∧ LtOk k (toks H M 8 b n r) := by
  intro n
  induction n using Nat.strongRecOn with
  | ind n ih =>
    intro b r hn r0 r1
    by_cases h0 : n = 0
    · subst h0
      rw [toks_z]
      refine ⟨by cases b <;> rfl, ?_, fun i h => nomatch h⟩
      have e : cnt H M b 0 = 1 := by cases b <;> simp [cnt, G.h0, G.m0] <;> first | exact G.h0 | exact G.m0
      have : r = 0 := by omega
      rw [this]; cases b <;> rfl
    have hp : 0 < n := by omega
    by_cases c1 : r < eds H n
    · obtain ⟨h2, h3⟩ := step_e G r0 c1
      obtain ⟨a1, a2, a3⟩ := ih (n - 2) (by omega) true r (by omega) r0 h3
      rw [toks_e hp hn c1]
      refine ⟨by rw [snt, a1]; omega, by rw [rnk]; exact a2, fun i h => ?_⟩
      rcases List.mem_cons.mp h with h | h
      · cases h
      · exact a3 i h
    by_cases c2 : r < eds H n + dts M b n
    · obtain ⟨h2, h3, h4⟩ := step_d G c1 c2
      have c1' : 1 ≤ cst b := by unfold cst; split <;> omega
      obtain ⟨a1, a2, a3⟩ := ih (n - cst b) (by omega) false (r - eds H n) (by omega) h3 h4
      rw [toks_d hp hn c1 c2]
      have e : cst b + snt false (toks H M 8 false (n - cst b) (r - eds H n)) = n := by rw [a1]; omega
      refine ⟨by rw [snt, e], by rw [rnk, e, a2]; omega, fun i h => ?_⟩
      rcases List.mem_cons.mp h with h | h
      · cases h
      · exact a3 i h
    · obtain ⟨x0, q0, qk, m0, mc⟩ := step_l G hp hn r1 c2
      obtain ⟨a1, a2, a3⟩ := ih (n - 1) (by omega) false _ (by omega) m0 mc
      rw [toks_l hp hn c1 c2]
      have e := Int.emod_add_mul_ediv (r - eds H n - dts M b n) (M.getD (n - 1) 0)
      generalize (r - eds H n - dts M b n) % M.getD (n - 1) 0 = rr at *
      generalize (r - eds H n - dts M b n) / M.getD (n - 1) 0 = qq at *
      have e1 : 1 + snt false (toks H M 8 false (n - 1) rr) = n := by rw [a1]; omega
      refine ⟨by rw [snt, e1], ?_, fun i h => ?_⟩
      · rw [rnk, e1, a1, a2, Int.toNat_of_nonneg q0, Int.mul_comm]; omega
      · rcases List.mem_cons.mp h with h | h
        · cases h; omega
        · exact a3 i h
end Mine
end
section
open PySem PySem.W PySem.W.X PyProof.Rows
set_option maxRecDepth 100000
set_option Elab.async false
namespace Mine
noncomputable abbrev env149 (w : World) (L : Addr) : Env := callEnv (fdOf (hd.zo_149 w.params)) L 132
abbrev FindOk (le : Str) (k : Nat) : Prop := ∀ i, i < k → PySem.Txt.find le ⟨#[le.cps.toList.getD i 0]⟩ = (i : Int)
section
variable {w : World} {A : Around} {E : Value → Shared → Prop} {hp : Heap} {g : Array GenState} {d : Drawn} {tk : Nat} {os : OsState} {Q : Value → Shared → Prop} {x y : Str} {t u : Tok}
theorem f_eqs (h : Q (.bool (x.cps.toList == y.cps.toList)) ⟨hp, g, d, tk, os⟩) : wpAny (model pg w) A (compareOp .Eq (.str x t) (.str y u)) Q E ⟨hp, g, d, tk, os⟩ := PySem.P.eq_str h
theorem f_find {i : Int} (hi : PySem.Txt.find x y = i) (h : Q (.int i tk) ⟨hp, g, d, tk + 1, os⟩) : wpAny (model pg w) A (call (.builtin "str.find") [.str x t, .str y u]) Q E ⟨hp, g, d, tk, os⟩ := by
  subst hi; exact PySem.SC.find h
theorem getMethod_find {pl : Sem Bool} {Q : Value × List Value → Shared → Prop} {s : Shared} (h : Q (.builtin "str.find", [.str x t]) s) : wpAny (model pg w) A (getMethod (.str x t) ⟨#[102, 105, 110, 100]⟩ pl) Q E s :=
  getMethod_builtin (T := "str") (typeIs_str _ _ _) PySem.F.plainAttrs_str PySem.F.slot_str_find PySem.F.type_str_find (fun a e => nomatch e) h
end
theorem one_beq {a b : Nat} (h : (([a] : List Nat) == [b]) = true) : a = b := by simpa using h
theorem drop_get {X : List Nat} {j c : Nat} {r : List Nat} (h : X.drop j = c :: r) : j < X.length ∧ X.getD j 0 = c := by
  have hj : j < X.length := by
    apply Nat.not_le.mp; intro hle
    rw [List.drop_eq_nil_of_le hle] at h; cases h
  rw [List.drop_eq_getElem_cons hj] at h
  injection h with h1 h2
  refine ⟨hj, ?_⟩
  rw [List.getD_eq_getElem?_getD, List.getElem?_eq_getElem hj, ← h1]; rfl
theorem drop_drop' {X : List Nat} {j c : Nat} {r : List Nat} (h : X.drop j = c :: r) : X.drop (j + 1) = r := by
  rw [← List.drop_drop, h]; rfl
abbrev PL4 (w : World) (h₀ : Heap) (L : Addr) (X : List Nat) (Df Dm : Addr) (le : Str) (tw tl : Tok) (pl at' c : Int) (u1 u2 u3 : Tok) (h : Heap) : Prop :=
  In w h₀ L [(n_place, .int pl u1), (n_at, .int at' u2), (n_cost, .int c u3), (n_wire, .str ⟨X.toArray⟩ tw), (n_front, .ref Df), (n_middle, .ref Dm), (n_letters, .str le tl)] [] h
set_option maxHeartbeats 2000000
theorem place_loop {w : World} {A : Around} {nA : Nat} (hA : Rm A nA) {h₀ : Heap} (P : LP w h₀) {L Df Dm : Addr} {fv mv : List Value} {H M : List Int} {k : Nat} (G : Good H M k) {le : Str} {tw tl : Tok} (hle : le.cps.size = k) (hlo : LeOk le) (hfo : FindOk le k) {X : List Nat} (hX : X.length ≤ 7)
    (hfl : h₀.IsList Df fv.toArray) (hfi : IntsAre fv H) (hml : h₀.IsList Dm mv.toArray) (hmi : IntsAre mv M)
    {R : Result → Shared → Prop} {g : Array GenState} {d : Drawn} {os : OsState} {tot : Int}
    (hend : ∀ h' tk at' c u1 u2 u3, PL4 w h₀ L X Df Dm le tw tl tot at' c u1 u2 u3 h' → R (.ok .next) ⟨h', g, d, tk, os⟩)
    {h : Heap} {tk : Nat} {ts : List Tk} {pl : Int} {u1 u2 u3 : Tok} (hts : X = wr le true ts) (hok : LtOk k ts) (htot : pl + rnk H M true ts = tot) (J : PL4 w h₀ L X Df Dm le tw tl pl 0 2 u1 u2 u3 h) :
    codeAny (model pg w) A (.whileLoop (whT (bdOf (hd.zo_149 w.params))) (whB (bdOf (hd.zo_149 w.params))) [] (env149 w L)) R ⟨h, g, d, tk, os⟩ := by
  refine codeAny_whileLoop (fun m s' => ∃ h' tk b r pl at' c u1 u2 u3, ∃ j : Nat, s' = ⟨h', g, d, tk, os⟩ ∧ m = X.length - j ∧ at' = (j : Int) ∧ c = (cst b : Int) ∧ X.drop j = wr le b r ∧ j ≤ X.length ∧ LtOk k r ∧ pl + rnk H M b r = tot ∧
      PL4 w h₀ L X Df Dm le tw tl pl at' c u1 u2 u3 h') ?_ X.length ⟨h, tk, true, ts, pl, 0, 2, u1, u2, u3, 0, rfl, rfl, rfl, rfl, hts, Nat.zero_le _, hok, htot, J⟩
  clear J htot hts hok u1 u2 u3 pl ts tk h
  rintro m _ ⟨h, tk, b, r, pl, at', c, u1, u2, u3, j, rfl, hm, hat, hc, hd, hj, hok, htot, J⟩
  refine wpAny_isTrue_Compare1 (r_name J rfl ?_)
  refine wpAny_Call_NameR (r_built J rfl rfl (PyProof.Rows.callWith_builtin1 (Calls.spliced_cons (r_name J rfl (Calls.spliced_nil (f_lens (by rw [List.size_toArray]; omega) ?_))))))
  rw [List.size_toArray]
  intro tk1
  refine lt_int (wpAny_truthy_bool ?_)
  have hsl : X.length - j = snt b r := by rw [← wr_len le, ← hd, List.length_drop]
  refine split_dec (fun hlt => ?_) (fun hge => ?_)
  rotate_left
  · have hr : r = [] := by
      have : snt b r = 0 := by omega
      match r, this with
      | [], _ => rfl
      | .e :: r, h => rw [snt] at h; omega
      | .d :: r, h => rw [snt] at h; unfold cst at h; split at h <;> omega
      | .l i :: r, h => rw [snt] at h; omega
    subst hr
    refine wpAny_execs_nil ?_
    have e : rnk H M b [] = 0 := by cases b <;> rfl
    rw [e, Int.add_zero] at htot
    rw [htot] at J
    exact hend _ _ _ _ _ _ _ J
  refine wpAny_execs_cons (wpAny_Assign_Name (wpAny_BinOp (wpAny_Call_NameR (r_built J rfl rfl (PyProof.Rows.callWith_builtin1 (Calls.spliced_cons (r_name J rfl (Calls.spliced_nil (f_lens (by rw [List.size_toArray]; omega) ?_)))))))))
  rw [List.size_toArray]
  intro tk2
  refine r_name J rfl (f_sub (f_store J ?_))
  intro h3 J
  have hlz : (X.length : Int) - at' = ((snt b r : Nat) : Int) := by omega
  rw [hlz] at J
  have hs7 : snt b r ≤ 7 := by omega
  refine wpAny_execs_cons (wpAny_If (wpAny_isTrue_Compare1 (Subscript_ (r_name J rfl (r_name J rfl (f_sign (n := j) hat (by rw [List.size_toArray]; omega) (by rw [List.size_toArray]; omega) (f_strc (f_eqs (wpAny_truthy_bool ?_)))))))))
  show (if (([X.getD j 0] : List Nat) == [13]) then _ else _)
  have c1 : 1 ≤ cst b := by unfold cst; split <;> omega
  match r, hd, hok, htot, hsl, hlz, hs7, J with
  | [], _, _, _, hsl, _, _, _ =>
    have : snt b [] = 0 := by cases b <;> rfl
    exfalso; omega
  | .e :: r, hd, hok, htot, hsl, hlz, hs7, J =>
    have hd' : X.drop j = 13 :: 10 :: wr le true r := by rw [hd]; cases b <;> rfl
    obtain ⟨hj1, hg⟩ := drop_get hd'
    have hd2 := drop_drop' hd'
    obtain ⟨hj2, _⟩ := drop_get hd2
    rw [hg, if_pos (by decide)]
    refine wpAny_execs_cons (wpAny_AugAssign_Name (r_ldn J rfl (f_int (f_iadd (f_store J ?_)))))
    intro h4 J
    refine wpAny_execs_cons (wpAny_Assign_Name (f_int (f_store J ?_)))
    intro h5 J
    refine wpAny_execs_cons (wpAny_Continue ?_)
    exact ⟨X.length - (j + 2), by omega, h5, _, true, r, pl, _, _, _, _, _, j + 2, rfl, rfl, by omega, rfl, drop_drop' hd2, by omega, fun i hi => hok i (.tail _ hi), by rw [← htot, rnk], J.has fun m H => H.c rfl (H.c rfl (H.c rfl (H.c rfl (H.c rfl (H.c rfl (H.c rfl .n))))))⟩
  | .d :: r, hd, hok, htot, hsl, hlz, hs7, J =>
    have hd' : X.drop j = 46 :: (wr le b (.d :: r)).drop 1 := by rw [hd]; cases b <;> rfl
    obtain ⟨hj1, hg⟩ := drop_get hd'
    have hdc : X.drop (j + cst b) = wr le false r := by
      cases b with
      | true => exact drop_drop' (drop_drop' hd')
      | false => exact drop_drop' hd'
    have hjc : j + cst b ≤ X.length := by rw [snt] at hsl; omega
    rw [hg, if_neg (by decide)]
    refine wpAny_execs_nil ?_
    refine wpAny_execs_cons (wpAny_AugAssign_Name (r_ldn J rfl (wpAny_mono (Q := fun v s₁ => ∃ u tk', v = .int (eds H (snt b (.d :: r))) u ∧ s₁ = ⟨h3, g, d, tk', os⟩) (IfExp_ (wpAny_isTrue_Compare1 (r_name J rfl (f_int (gt_int (wpAny_truthy_bool ?_)))))) ?_ (fun _ _ e => e))))
    · refine split_dec (fun h1 => ?_) (fun h1 => ?_)
      · refine Subscript_ (r_name J rfl (wpAny_BinOp (r_name J rfl (f_int (f_sub (f_item (n := snt b (.d :: r) - 2) (J.list P hfl) hfi (by omega) (by rw [G.lh]; omega) (by rw [G.lh]; decide) ?_))))))
        exact fun t => ⟨t, _, by rw [eds, if_pos (by omega)], rfl⟩
      · exact f_int ⟨_, _, by rw [eds, if_neg (by omega)], rfl⟩
    rintro _ _ ⟨ue, tke, rfl, rfl⟩
    refine f_iadd (f_store J ?_)
    intro h4 J
    refine wpAny_execs_cons (wpAny_If (wpAny_isTrue_Compare1 (Subscript_ (r_name J rfl (r_name J rfl (f_sign (n := j) hat (by rw [List.size_toArray]; omega) (by rw [List.size_toArray]; omega) (f_strc (f_eqs (wpAny_truthy_bool ?_)))))))))
    show (if (([X.getD j 0] : List Nat) == [46]) then _ else _)
    rw [hg]
    rw [if_pos (by decide)]
    refine wpAny_execs_cons (wpAny_AugAssign_Name (r_ldn J rfl (r_name J rfl (f_iadd (f_store J ?_)))))
    intro h5 J
    refine wpAny_execs_nil ?_
    refine wpAny_execs_cons (wpAny_Assign_Name (f_int (f_store J ?_)))
    intro h6 J
    refine wpAny_execs_nil ?_
    exact ⟨X.length - (j + cst b), by omega, h6, _, false, r, _, _, _, _, _, _, j + cst b, rfl, rfl, by omega, rfl, hdc, hjc, fun i hi => hok i (.tail _ hi), by rw [← htot, rnk, snt]; omega, J.has fun m H => H.c rfl (H.c rfl (H.c rfl (H.c rfl (H.c rfl (H.c rfl (H.c rfl .n))))))⟩
  | .l i :: r, hd, hok, htot, hsl, hlz, hs7, J =>
    have hd' : X.drop j = le.cps.toList.getD i 0 :: wr le false r := by rw [hd]; cases b <;> rfl
    obtain ⟨hj1, hg⟩ := drop_get hd'
    have hdc := drop_drop' hd'
    have hik := hok i (.head _)
    obtain ⟨l1, l2, l3⟩ := hlo i
    have hjc : j + 1 ≤ X.length := by omega
    rw [hg, if_neg (fun q => l2 (one_beq q))]
    refine wpAny_execs_nil ?_
    refine wpAny_execs_cons (wpAny_AugAssign_Name (r_ldn J rfl (wpAny_mono (Q := fun v s₁ => ∃ u tk', v = .int (eds H (snt b (.l i :: r))) u ∧ s₁ = ⟨h3, g, d, tk', os⟩) (IfExp_ (wpAny_isTrue_Compare1 (r_name J rfl (f_int (gt_int (wpAny_truthy_bool ?_)))))) ?_ (fun _ _ e => e))))
    · refine split_dec (fun h1 => ?_) (fun h1 => ?_)
      · refine Subscript_ (r_name J rfl (wpAny_BinOp (r_name J rfl (f_int (f_sub (f_item (n := snt b (.l i :: r) - 2) (J.list P hfl) hfi (by omega) (by rw [G.lh]; omega) (by rw [G.lh]; decide) ?_))))))
        exact fun t => ⟨t, _, by rw [eds, if_pos (by omega)], rfl⟩
      · exact f_int ⟨_, _, by rw [eds, if_neg (by omega)], rfl⟩
    rintro _ _ ⟨ue, tke, rfl, rfl⟩
    refine f_iadd (f_store J ?_)
    intro h4 J
    refine wpAny_execs_cons (wpAny_If (wpAny_isTrue_Compare1 (Subscript_ (r_name J rfl (r_name J rfl (f_sign (n := j) hat (by rw [List.size_toArray]; omega) (by rw [List.size_toArray]; omega) (f_strc (f_eqs (wpAny_truthy_bool ?_)))))))))
    show (if (([X.getD j 0] : List Nat) == [46]) then _ else _)
    rw [hg]
    rw [if_neg (fun q => l3 (one_beq q))]
    refine wpAny_execs_cons (wpAny_AugAssign_Name (r_ldn J rfl (wpAny_mono (Q := fun v s₁ => ∃ u tk', v = .int (dts M b (snt b (.l i :: r))) u ∧ s₁ = ⟨h4, g, d, tk', os⟩) (IfExp_ (wpAny_isTrue_Compare1 (r_name J rfl (r_name J rfl (ge_int (wpAny_truthy_bool ?_)))))) ?_ (fun _ _ e => e))))
    · refine split_dec (fun h1 => ?_) (fun h1 => ?_)
      · refine Subscript_ (r_name J rfl (wpAny_BinOp (r_name J rfl (r_name J rfl (f_sub (f_item (n := snt b (.l i :: r) - cst b) (J.list P hml) hmi (by omega) (by rw [G.lm]; omega) (by rw [G.lm]; decide) ?_))))))
        exact fun t => ⟨t, _, by rw [dts, if_pos (by omega)], rfl⟩
      · exact f_int ⟨_, _, by rw [dts, if_neg (by omega)], rfl⟩
    rintro _ _ ⟨ud, tkd, rfl, rfl⟩
    refine f_iadd (f_store J ?_)
    intro h5 J
    refine wpAny_execs_cons (wpAny_AugAssign_Name (r_ldn J rfl (wpAny_BinOp (MethodCall_ (r_name J rfl (getMethod_find (callWith_method1 (Calls.spliced_cons ?_))))))))
    refine Subscript_ (r_name J rfl (r_name J rfl (f_sign (n := j) hat (by rw [List.size_toArray]; omega) (by rw [List.size_toArray]; omega) ?_)))
    have hX2 : (({ cps := X.toArray } : Str).cps.toList.getD j 0) = le.cps.toList.getD i 0 := hg
    rw [hX2]
    refine Calls.spliced_nil (f_find (hfo i hik) ?_)
    have hsn : snt b (.l i :: r) = 1 + snt false r := rfl
    refine Subscript_ (r_name J rfl (wpAny_BinOp (r_name J rfl (f_int (f_sub (f_item (n := snt false r) (J.list P hml) hmi (by omega) (by rw [G.lm]; omega) (by rw [G.lm]; decide) ?_))))))
    intro t6
    have mp := G.mpos (snt false r) (by omega)
    have ms := G.msm (snt false r) (by omega)
    have hk2 := G.k2
    refine f_mul (IntMulOk.of_le (m := 10) (n := 20) (bits_le (by omega) (by omega)) (bits_le (by omega) (by omega)) (by decide)) (f_iadd (f_store J ?_))
    intro h6 J
    refine wpAny_execs_cons (wpAny_AugAssign_Name (r_ldn J rfl (f_int (f_iadd (f_store J ?_)))))
    intro h7 J
    refine wpAny_execs_nil ?_
    refine wpAny_execs_cons (wpAny_Assign_Name (f_int (f_store J ?_)))
    intro h8 J
    refine wpAny_execs_nil ?_
    exact ⟨X.length - (j + 1), by omega, h8, _, false, r, _, _, _, _, _, _, j + 1, rfl, rfl, by omega, rfl, hdc, hjc, fun i hi => hok i (.tail _ hi), by rw [← htot, rnk, hsn]; omega, J.has fun m H => H.c rfl (H.c rfl (H.c rfl (H.c rfl (H.c rfl (H.c rfl (H.c rfl .n))))))⟩
end Mine
end
section
open PySem PySem.W PySem.W.X PyProof.Rows
set_option maxRecDepth 100000
set_option Elab.async false
namespace Mine
set_option maxHeartbeats 2000000
theorem place_spec {w : World} {A : Around} {E : Value → Shared → Prop} {s : Shared} (P : LP w s.heap) {nA : Nat} (hA : Rm A (nA + 1)) {Df Dm : Addr} {fv mv : List Value} {H M : List Int} {k : Nat} (G : Good H M k) {le : Str} {tw tl : Tok} (hle : le.cps.size = k) (hlo : LeOk le) (hfo : FindOk le k)
    (hfl : s.heap.IsList Df fv.toArray) (hfi : IntsAre fv H) (hml : s.heap.IsList Dm mv.toArray) (hmi : IntsAre mv M) {ts : List Tk} (hok : LtOk k ts) (hs7 : snt true ts ≤ 7) {Q : Value → Shared → Prop}
    (h : ∀ u h' tk, Kp s.heap h' → LP w h' → Q (.int (pre H (snt true ts) + rnk H M true ts) u) ⟨h', s.gens, s.drawn, tk, s.os⟩) :
    wpAny (model pg w) A (call (.ref 132) [.str ⟨(wr le true ts).toArray⟩ tw, .ref Df, .ref Dm, .str le tl]) Q E s := by
  refine wpAny_call ?_
  refine codeAny_call_def (fd := fdOf (hd.zo_149 w.params)) (body := bdOf (hd.zo_149 w.params)) (binds := [(n_wire, .str ⟨(wr le true ts).toArray⟩ tw), (n_front, .ref Df), (n_middle, .ref Dm), (n_letters, .str le tl)]) hA.room (P.k 132 _ rfl) rfl P.noLimit ⟨131, _, _, _, rfl, P.k 131 _ rfl, rfl, rfl⟩ rfl (fun M A E Q hq => pu_any hq) (nc_ok rfl) (locs rfl) (fun h₀ hns hk => ?_)
  have J : In w s.heap s.heap.objs.size [(n_letters, .str le tl), (n_middle, .ref Dm), (n_front, .ref Df), (n_wire, .str ⟨(wr le true ts).toArray⟩ tw)] [] h₀ := In.start (a := 0) P hns hk
  clear hns hk
  have hAd := hA.deeper (callEnv (fdOf (hd.zo_149 w.params)) s.heap.objs.size 132)
  have hwl := wr_len le ts true
  refine wpAny_execs_cons (wpAny_Assign_Name (wpAny_Call_NameR (r_built J rfl rfl (PyProof.Rows.callWith_builtin1 (Calls.spliced_cons (Subscript_ (r_name J rfl (wpAny_Slice (evalPart_none_step (evalPart_some_step ?_))))))))))
  refine wpAny_Call_NameR (r_built J rfl rfl (PyProof.Rows.callWith_builtin1 (Calls.spliced_cons (r_name J rfl (Calls.spliced_nil (f_lens (by rw [List.size_toArray]; omega) ?_))))))
  rw [show (({ cps := (wr le true ts).toArray } : Str).cps.size) = snt true ts by rw [← hwl]; exact List.size_toArray]
  intro tk1
  refine evalPart_none_step ?_
  refine r_upto (s := ⟨h₀, _, _, _, _⟩) (J.list P hfl) hfi (by omega) (by rw [G.lh]; omega) (by rw [G.lh]; decide) ?_
  intro a h2 ws k2 hl2 hi2
  have J := J.keepAll k2
  refine Calls.spliced_nil (f_sum hAd.hd hl2 hi2 ?_)
  intro h3 tk3 t3 k3
  have J := J.keepAll k3
  rw [Int.toNat_natCast]
  refine f_store J ?_
  intro h4 J
  refine wpAny_execs_cons (wpAny_Assign_Name (f_int (f_store J ?_)))
  intro h5 J
  refine wpAny_execs_cons (wpAny_Assign_Name (f_int (f_store J ?_)))
  intro h6 J
  refine wpAny_execs_cons (wpAny_While (place_loop hAd P G hle hlo hfo (by omega) hfl hfi hml hmi (tot := pre H (snt true ts) + rnk H M true ts) (hend := ?_) (ts := ts) rfl hok rfl (J.has fun m H => H.c rfl (H.c rfl (H.c rfl (H.c rfl (H.c rfl (H.c rfl (H.c rfl .n)))))))))
  intro h7 tk7 at' c u1 u2 u3 J
  refine wpAny_execs_cons (wpAny_Return_some (r_name J rfl ?_))
  exact h _ _ _ J.keep J.lp
end Mine
end
section
open PySem
set_option maxRecDepth 100000
set_option Elab.async false
set_option linter.unusedVariables false
set_option linter.unusedSimpArgs false
namespace Mine
/-! ## the order of what is sent is the order of the places -/
def LeUp (le : Str) (k : Nat) : Prop := (∀ i, i < k → 46 < le.cps.toList.getD i 0) ∧ ∀ i j, i < k → j < k → i < j → le.cps.toList.getD i 0 < le.cps.toList.getD j 0
theorem rnk_e {H M : List Int} {k : Nat} {b : Bool} {r : List Tk} (h : 0 ≤ rnk H M true r ∧ rnk H M true r < cnt H M true (snt true r)) :
    0 ≤ rnk H M b (.e :: r) ∧ rnk H M b (.e :: r) < eds H (snt b (.e :: r)) := by
  have e1 : rnk H M b (.e :: r) = rnk H M true r := by cases b <;> rfl
  have e2 : snt b (.e :: r) = 2 + snt true r := by cases b <;> rfl
  rw [e1, e2]
  have e3 : eds H (2 + snt true r) = cnt H M true (snt true r) := by
    unfold eds cnt
    rw [if_pos (by omega), if_pos rfl, show 2 + snt true r - 2 = snt true r by omega]
  rw [e3]; exact h
theorem rnk_d {H M : List Int} {k : Nat} {b : Bool} {r : List Tk} (h : 0 ≤ rnk H M false r ∧ rnk H M false r < cnt H M false (snt false r)) :
    eds H (snt b (.d :: r)) ≤ rnk H M b (.d :: r) ∧ rnk H M b (.d :: r) < eds H (snt b (.d :: r)) + dts M b (snt b (.d :: r)) := by
  have e1 : rnk H M b (.d :: r) = eds H (cst b + snt false r) + rnk H M false r := by cases b <;> rfl
  have e2 : snt b (.d :: r) = cst b + snt false r := by cases b <;> rfl
  rw [e1, e2]
  have e3 : dts M b (cst b + snt false r) = cnt H M false (snt false r) := by
    unfold dts cnt
    rw [if_pos (by omega), if_neg (by simp), show cst b + snt false r - cst b = snt false r by omega]
  rw [e3]; omega
theorem rnk_l {H M : List Int} {k : Nat} {b : Bool} {i : Nat} {r : List Tk} (h : 0 ≤ rnk H M false r ∧ rnk H M false r < cnt H M false (snt false r)) :
    eds H (snt b (.l i :: r)) + dts M b (snt b (.l i :: r)) + i * M.getD (snt b (.l i :: r) - 1) 0 ≤ rnk H M b (.l i :: r) ∧
    rnk H M b (.l i :: r) < eds H (snt b (.l i :: r)) + dts M b (snt b (.l i :: r)) + i * M.getD (snt b (.l i :: r) - 1) 0 + M.getD (snt b (.l i :: r) - 1) 0 := by
  have e1 : rnk H M b (.l i :: r) = eds H (1 + snt false r) + dts M b (1 + snt false r) + i * M.getD (snt false r) 0 + rnk H M false r := by cases b <;> rfl
  have e2 : snt b (.l i :: r) = 1 + snt false r := by cases b <;> rfl
  rw [e1, e2, show 1 + snt false r - 1 = snt false r by omega]
  have e3 : cnt H M false (snt false r) = M.getD (snt false r) 0 := by unfold cnt; rw [if_neg (by simp)]
  rw [e3] at h; omega
theorem LtOk.tail {k : Nat} {t : Tk} {r : List Tk} (h : LtOk k (t :: r)) : LtOk k r := fun i hi => h i (.tail _ hi)
theorem mul_step {i k : Nat} {m : Int} (h : i < k) (h0 : 0 ≤ m) : (i : Int) * m + m ≤ k * m := by
  have : ((i : Int) + 1) * m ≤ (k : Int) * m := Int.mul_le_mul_of_nonneg_right (by omega) h0
  rw [Int.add_mul, Int.one_mul] at this
  exact this
theorem rnk_lt {H M : List Int} {k : Nat} (G : Good H M k) : ∀ (ts : List Tk) (b : Bool), LtOk k ts → snt b ts ≤ 7 → 0 ≤ rnk H M b ts ∧ rnk H M b ts < cnt H M b (snt b ts)
  | [], b, _, _ => by
    have e : rnk H M b [] = 0 := by cases b <;> rfl
    have e2 : snt b [] = 0 := by cases b <;> rfl
    rw [e, e2]
    refine ⟨Int.le_refl _, ?_⟩
    have e : cnt H M b 0 = 1 := by cases b <;> simp [cnt, G.h0, G.m0] <;> first | exact G.h0 | exact G.m0
    rw [e]; decide
  | .e :: r, b, hl, hs => by
    have e2 : snt b (.e :: r) = 2 + snt true r := by cases b <;> rfl
    have h := rnk_e (k := k) (b := b) (rnk_lt G r true hl.tail (by omega))
    have c := cnt_succ G b (n := snt b (.e :: r)) (by omega) hs
    have d := dts_nn G b hs
    have m := Int.mul_nonneg (Int.natCast_nonneg k) (a := (k : Int)) (b := M.getD (snt b (.e :: r) - 1) 0) (by have := G.mpos (snt b (.e :: r) - 1) (by omega); omega)
    omega
  | .d :: r, b, hl, hs => by
    have e2 : snt b (.d :: r) = cst b + snt false r := by cases b <;> rfl
    have c1 : 1 ≤ cst b := by unfold cst; split <;> omega
    have h := rnk_d (k := k) (b := b) (rnk_lt G r false hl.tail (by omega))
    have c := cnt_succ G b (n := snt b (.d :: r)) (by omega) hs
    have d := eds_nn G hs
    have m := Int.mul_nonneg (Int.natCast_nonneg k) (a := (k : Int)) (b := M.getD (snt b (.d :: r) - 1) 0) (by have := G.mpos (snt b (.d :: r) - 1) (by omega); omega)
    omega
  | .l i :: r, b, hl, hs => by
    have e2 : snt b (.l i :: r) = 1 + snt false r := by cases b <;> rfl
    have h := rnk_l (k := k) (b := b) (i := i) (rnk_lt G r false hl.tail (by omega))
    have c := cnt_succ G b (n := snt b (.l i :: r)) (by omega) hs
    have d := eds_nn G hs
    have d2 := dts_nn G b hs
    have hm := G.mpos (snt b (.l i :: r) - 1) (by omega)
    have m := mul_step (m := M.getD (snt b (.l i :: r) - 1) 0) (hl i (.head _)) (by omega)
    have m2 := Int.mul_nonneg (Int.natCast_nonneg i) (a := (i : Int)) (b := M.getD (snt b (.l i :: r) - 1) 0) (by omega)
    omega
theorem wr_e (le : Str) (b : Bool) (r : List Tk) : wr le b (.e :: r) = 13 :: 10 :: wr le true r := by cases b <;> rfl
theorem wr_d (le : Str) (b : Bool) (r : List Tk) : wr le b (.d :: r) = 46 :: ((if b then [46] else []) ++ wr le false r) := by cases b <;> rfl
theorem wr_l (le : Str) (b : Bool) (i : Nat) (r : List Tk) : wr le b (.l i :: r) = le.cps.toList.getD i 0 :: wr le false r := by cases b <;> rfl
theorem wr_n (le : Str) (b : Bool) : wr le b [] = [] := by cases b <;> rfl
theorem ord_lt {H M : List Int} {k : Nat} {le : Str} (G : Good H M k) (U : LeUp le k) : ∀ (ts us : List Tk) (b : Bool), LtOk k ts → LtOk k us → snt b ts = snt b us → snt b ts ≤ 7 →
    wr le b ts < wr le b us → rnk H M b ts < rnk H M b us
  | _, [], b, _, _, _, _, h => by rw [wr_n] at h; exact absurd h (List.not_lt_nil _)
  | [], u :: us, b, _, _, hs, _, _ => by
    have e : snt b [] = 0 := by cases b <;> rfl
    have : 0 < snt b (u :: us) := by
      rw [← wr_len ⟨#[]⟩]
      cases u with
      | e => rw [wr_e]; simp
      | d => rw [wr_d]; simp
      | l i => rw [wr_l]; simp
    omega
  | .e :: r, .e :: r', b, ht, hu, hs, h7, h => by
    have e1 : snt b (.e :: r) = 2 + snt true r := by cases b <;> rfl
    have e2 : snt b (.e :: r') = 2 + snt true r' := by cases b <;> rfl
    rw [wr_e, wr_e] at h
    have h : wr le true r < wr le true r' := by simpa [List.cons_lt_cons_iff] using h
    have := ord_lt G U r r' true ht.tail hu.tail (by omega) (by omega) h
    have q1 : rnk H M b (.e :: r) = rnk H M true r := by cases b <;> rfl
    have q2 : rnk H M b (.e :: r') = rnk H M true r' := by cases b <;> rfl
    omega
  | .e :: r, .d :: r', b, ht, hu, hs, h7, h => by
    have e1 : snt b (.e :: r) = 2 + snt true r := by cases b <;> rfl
    have e2 : snt b (.d :: r') = cst b + snt false r' := by cases b <;> rfl
    have a := rnk_e (k := k) (b := b) (rnk_lt G r true ht.tail (by omega))
    have b' := rnk_d (k := k) (b := b) (rnk_lt G r' false hu.tail (by omega))
    rw [← hs] at b'
    omega
  | .e :: r, .l i :: r', b, ht, hu, hs, h7, h => by
    have e1 : snt b (.e :: r) = 2 + snt true r := by cases b <;> rfl
    have e2 : snt b (.l i :: r') = 1 + snt false r' := by cases b <;> rfl
    have a := rnk_e (k := k) (b := b) (rnk_lt G r true ht.tail (by omega))
    have b' := rnk_l (k := k) (b := b) (i := i) (rnk_lt G r' false hu.tail (by omega))
    rw [← hs] at b'
    have d2 := dts_nn G b h7
    have hm := G.mpos (snt b (.e :: r) - 1) (by omega)
    have m2 := Int.mul_nonneg (Int.natCast_nonneg i) (a := (i : Int)) (b := M.getD (snt b (.e :: r) - 1) 0) (by omega)
    omega
  | .d :: r, .e :: r', b, ht, hu, hs, h7, h => by
    rw [wr_d, wr_e] at h
    simp [List.cons_lt_cons_iff] at h
  | .d :: r, .d :: r', b, ht, hu, hs, h7, h => by
    have e1 : snt b (.d :: r) = cst b + snt false r := by cases b <;> rfl
    have e2 : snt b (.d :: r') = cst b + snt false r' := by cases b <;> rfl
    rw [wr_d, wr_d] at h
    have h : wr le false r < wr le false r' := by cases b <;> simpa [List.cons_lt_cons_iff] using h
    have := ord_lt G U r r' false ht.tail hu.tail (by omega) (by omega) h
    have q1 : rnk H M b (.d :: r) = eds H (cst b + snt false r) + rnk H M false r := by cases b <;> rfl
    have q2 : rnk H M b (.d :: r') = eds H (cst b + snt false r') + rnk H M false r' := by cases b <;> rfl
    rw [q1, q2, ← e1, ← e2, hs]
    omega
  | .d :: r, .l i :: r', b, ht, hu, hs, h7, h => by
    have e1 : snt b (.d :: r) = cst b + snt false r := by cases b <;> rfl
    have c1 : 1 ≤ cst b := by unfold cst; split <;> omega
    have e2 : snt b (.l i :: r') = 1 + snt false r' := by cases b <;> rfl
    have a := rnk_d (k := k) (b := b) (rnk_lt G r false ht.tail (by omega))
    have b' := rnk_l (k := k) (b := b) (i := i) (rnk_lt G r' false hu.tail (by omega))
    rw [← hs] at b'
    have hm := G.mpos (snt b (.d :: r) - 1) (by omega)
    have m2 := Int.mul_nonneg (Int.natCast_nonneg i) (a := (i : Int)) (b := M.getD (snt b (.d :: r) - 1) 0) (by omega)
    omega
  | .l i :: r, .e :: r', b, ht, hu, hs, h7, h => by
    have := U.1 i (ht i (.head _))
    rw [wr_l, wr_e, List.cons_lt_cons_iff] at h
    omega
  | .l i :: r, .d :: r', b, ht, hu, hs, h7, h => by
    have := U.1 i (ht i (.head _))
    rw [wr_l, wr_d, List.cons_lt_cons_iff] at h
    omega
  | .l i :: r, .l j :: r', b, ht, hu, hs, h7, h => by
    have e1 : snt b (.l i :: r) = 1 + snt false r := by cases b <;> rfl
    have e2 : snt b (.l j :: r') = 1 + snt false r' := by cases b <;> rfl
    have hi := ht i (.head _)
    have hj := hu j (.head _)
    rw [wr_l, wr_l, List.cons_lt_cons_iff] at h
    have hm := G.mpos (snt b (.l i :: r) - 1) (by omega)
    have a := rnk_l (k := k) (b := b) (i := i) (rnk_lt G r false ht.tail (by omega))
    have b' := rnk_l (k := k) (b := b) (i := j) (rnk_lt G r' false hu.tail (by omega))
    rw [← hs] at b'
    by_cases hij : i = j
    · subst hij
      have h : wr le false r < wr le false r' := by
        rcases h with h | h
        · omega
        · exact h.2
      have := ord_lt G U r r' false ht.tail hu.tail (by omega) (by omega) h
      have q1 : rnk H M b (.l i :: r) = eds H (1 + snt false r) + dts M b (1 + snt false r) + i * M.getD (snt false r) 0 + rnk H M false r := by cases b <;> rfl
      have q2 : rnk H M b (.l i :: r') = eds H (1 + snt false r') + dts M b (1 + snt false r') + i * M.getD (snt false r') 0 + rnk H M false r' := by cases b <;> rfl
      rw [q1, q2, show snt false r' = snt false r by omega]
      omega
    · have hlt : i < j := by
        rcases Nat.lt_or_gt_of_ne hij with q | q
        · exact q
        · have := U.2 j i hj hi q
          omega
      have m := mul_step (m := M.getD (snt b (.l i :: r) - 1) 0) hlt (by omega)
      omega
theorem ord_eq {H M : List Int} {k : Nat} {le : Str} (U : LeUp le k) : ∀ (ts us : List Tk) (b : Bool), LtOk k ts → LtOk k us → wr le b ts = wr le b us → ts = us
  | [], [], _, _, _, _ => rfl
  | [], u :: us, b, _, _, h => by cases u <;> simp [wr_n, wr_e, wr_d, wr_l] at h
  | t :: ts, [], b, _, _, h => by cases t <;> simp [wr_n, wr_e, wr_d, wr_l] at h
  | .e :: r, .e :: r', b, ht, hu, h => by
    rw [wr_e, wr_e] at h
    rw [ord_eq (H := H) (M := M) U r r' true ht.tail hu.tail (by simpa using h)]
  | .e :: r, .d :: r', b, ht, hu, h => by simp [wr_e, wr_d] at h
  | .e :: r, .l i :: r', b, ht, hu, h => by
    have := U.1 i (hu i (.head _))
    rw [wr_e, wr_l] at h
    injection h with h _; omega
  | .d :: r, .e :: r', b, ht, hu, h => by simp [wr_e, wr_d] at h
  | .d :: r, .d :: r', b, ht, hu, h => by
    rw [wr_d, wr_d] at h
    rw [ord_eq (H := H) (M := M) U r r' false ht.tail hu.tail (by simpa using h)]
  | .d :: r, .l i :: r', b, ht, hu, h => by
    have := U.1 i (hu i (.head _))
    rw [wr_d, wr_l] at h
    injection h with h _; omega
  | .l i :: r, .e :: r', b, ht, hu, h => by
    have := U.1 i (ht i (.head _))
    rw [wr_e, wr_l] at h
    injection h with h _; omega
  | .l i :: r, .d :: r', b, ht, hu, h => by
    have := U.1 i (ht i (.head _))
    rw [wr_d, wr_l] at h
    injection h with h _; omega
  | .l i :: r, .l j :: r', b, ht, hu, h => by
    have hi := ht i (.head _)
    have hj := hu j (.head _)
    rw [wr_l, wr_l] at h
    injection h with h1 h2
    have hij : i = j := by
      rcases Nat.lt_trichotomy i j with q | q | q
      · have := U.2 i j hi hj q; omega
      · exact q
      · have := U.2 j i hj hi q; omega
    rw [hij, ord_eq (H := H) (M := M) U r r' false ht.tail hu.tail h2]
/-- the place of a text -/
def plc (H M : List Int) (ts : List Tk) : Int := pre H (snt true ts) + rnk H M true ts
theorem plc_len {H M : List Int} {k : Nat} (G : Good H M k) {ts us : List Tk} (ht : LtOk k ts) (hu : LtOk k us) (h7 : snt true us ≤ 7) (h : snt true ts < snt true us) : plc H M ts < plc H M us := by
  have a := rnk_lt G ts true ht (by omega)
  have b := rnk_lt G us true hu h7
  have c := pre_succ G (n := snt true ts) (by omega)
  have d := pre_mono G (n := snt true ts + 1) (m := snt true us) (by omega) (by omega)
  have e : cnt H M true (snt true ts) = H.getD (snt true ts) 0 := by unfold cnt; rw [if_pos rfl]
  unfold plc; omega
/-- the three questions of the tuples' order, answered by the places -/
theorem ask_len {H M : List Int} {k : Nat} (G : Good H M k) {ts us : List Tk} (ht : LtOk k ts) (hu : LtOk k us) (h7 : snt true ts ≤ 7) (h7' : snt true us ≤ 7) (h : snt true ts ≠ snt true us) :
    decide ((snt true ts : Int) < snt true us) = decide (plc H M ts < plc H M us) := by
  rcases Nat.lt_or_gt_of_ne h with q | q
  · have := plc_len G ht hu h7' q
    rw [decide_eq_true (by omega), decide_eq_true this]
  · have := plc_len G hu ht h7 q
    rw [decide_eq_false (by omega), decide_eq_false (by omega)]
theorem ask_wr {H M : List Int} {k : Nat} {le : Str} (G : Good H M k) (U : LeUp le k) {ts us : List Tk} (ht : LtOk k ts) (hu : LtOk k us) (h7 : snt true ts ≤ 7) (h : snt true ts = snt true us) (hw : wr le true ts ≠ wr le true us) :
    decide (wr le true ts < wr le true us) = decide (plc H M ts < plc H M us) := by
  by_cases q : wr le true ts < wr le true us
  · have := ord_lt G U ts us true ht hu h h7 q
    rw [decide_eq_true q, decide_eq_true (by unfold plc; rw [h]; omega)]
  · have q' : wr le true us < wr le true ts := by
      rcases List.le_iff_lt_or_eq.mp (List.not_lt.mp q) with a | a
      · exact a
      · exact absurd a.symm hw
    have := ord_lt G U us ts true hu ht h.symm (by omega) q'
    rw [decide_eq_false q, decide_eq_false (by unfold plc; rw [h]; omega)]
end Mine
end
section
open PySem PySem.StrLaws PySem.Builtin PySem.Builtin.Str
set_option maxRecDepth 100000
set_option Elab.async false
set_option linter.unusedVariables false
set_option linter.unusedSimpArgs false
namespace Mine
/-! ## splitting what was joined -/
def jn (y : List Nat) : List Nat → List (List Nat) → List Nat
  | r, [] => r
  | r, r' :: R => r ++ (y ++ jn y r' R)
theorem at_iff {X Y : List Nat} {i : Nat} : At ⟨X.toArray⟩ ⟨Y.toArray⟩ X.length i ↔ i + Y.length ≤ X.length ∧ (X.drop i).take Y.length = Y := by
  unfold At
  rw [subAt_eq]
  simp [Str.length]
theorem at_of {X Y Z : List Nat} {i : Nat} (h : X.drop i = Y ++ Z) (hi : i ≤ X.length) : At ⟨X.toArray⟩ ⟨Y.toArray⟩ X.length i := by
  rw [at_iff]
  have e : (X.drop i).length = Y.length + Z.length := by rw [h]; simp
  rw [List.length_drop] at e
  exact ⟨by omega, by rw [h]; simp⟩
theorem at_head {X Y r Z : List Nat} {c a i : Nat} (hY : Y.head? = some c) (hX : X.drop a = r ++ Z) (h0 : a ≤ i) (h1 : i < a + r.length) (h : At ⟨X.toArray⟩ ⟨Y.toArray⟩ X.length i) : c ∈ r := by
  rw [at_iff] at h
  have e : (X.drop i).head? = some c := by
    rw [← h.2] at hY
    rw [List.head?_take] at hY
    split at hY
    · cases hY
    · exact hY
  have e2 : X.drop i = r.drop (i - a) ++ Z := by
    have : X.drop i = (X.drop a).drop (i - a) := by rw [List.drop_drop]; congr 1; omega
    rw [this, hX, List.drop_append_of_le_length (by omega)]
  rw [e2] at e
  cases q : r.drop (i - a) with
  | nil => have := congrArg List.length q; simp at this; omega
  | cons z zs =>
    rw [q] at e
    simp at e
    subst e
    exact List.mem_of_mem_drop (i := i - a) (by rw [q]; exact .head _)
theorem parts_jn {X Y : List Nat} {c : Nat} (hY : Y.head? = some c) : ∀ (cuts : List Nat) (a f : Nat) (r : List Nat) (R : List (List Nat)), a ≤ X.length → ChainG ⟨X.toArray⟩ ⟨Y.toArray⟩ X.length a cuts f → (∀ k, f ≤ k → ¬ At ⟨X.toArray⟩ ⟨Y.toArray⟩ X.length k) →
    X.drop a = jn Y r R → (∀ q ∈ r :: R, c ∉ q) → partsFrom ⟨X.toArray⟩ Y.length a cuts = (r :: R).map fun q => ⟨q.toArray⟩
  | [], a, f, r, R, ha, hc, hn, hX, hf => by
    have e : f = a := hc
    subst e
    cases R with
    | nil =>
      have hX : X.drop f = r := hX
      show [strSub ⟨X.toArray⟩ f X.toArray.size] = [⟨r.toArray⟩]
      congr 1
      apply Str.ext'
      apply Array.toList_inj.mp
      rw [strSub_toList]
      show (X.drop f).take (X.toArray.size - f) = r
      rw [List.size_toArray, List.take_of_length_le (by simp), hX]
    | cons r' R =>
      have hX : X.drop f = r ++ (Y ++ jn Y r' R) := hX
      have hl := congrArg List.length hX
      rw [List.length_drop, List.length_append] at hl
      have hd : X.drop (f + r.length) = Y ++ jn Y r' R := by rw [← List.drop_drop, hX]; simp
      have hy : 0 < Y.length := by cases Y with
        | nil => cases hY
        | cons _ _ => simp
      have hl2 := congrArg List.length hd
      rw [List.length_drop, List.length_append] at hl2
      exact absurd (at_of hd (by omega)) (hn _ (by omega))
  | k :: cuts, a, f, r, R, ha, hc, hn, hX, hf => by
    obtain ⟨h1, h2, h3, h4⟩ := hc
    cases R with
    | nil =>
      have hX : X.drop a = r ++ [] := by rw [List.append_nil]; exact hX
      have hl := congrArg List.length hX
      rw [List.length_drop, List.length_append] at hl
      have hy : 0 < Y.length := by cases Y with
        | nil => cases hY
        | cons _ _ => simp
      have hk := (at_iff.mp h2).1
      exact absurd (at_head hY hX h1 (by simp at hl; omega) h2) (hf r (.head _))
    | cons r' R =>
      have hX : X.drop a = r ++ (Y ++ jn Y r' R) := hX
      have hd : X.drop (a + r.length) = Y ++ jn Y r' R := by rw [← List.drop_drop, hX]; simp
      have hl := congrArg List.length hX
      simp only [List.length_drop, List.length_append] at hl
      have hk : k = a + r.length := by
        rcases Nat.lt_trichotomy k (a + r.length) with q | q | q
        · exact absurd (at_head hY hX h1 q h2) (hf r (.head _))
        · exact q
        · exact absurd (at_of hd (by omega)) (h3 _ (by omega) q)
      subst hk
      have hd2 : X.drop (a + r.length + Y.length) = jn Y r' R := by rw [← List.drop_drop, hd]; simp
      have ih := parts_jn hY cuts _ f r' R (by omega) (show ChainG ⟨X.toArray⟩ ⟨Y.toArray⟩ X.length (a + r.length + Y.length) cuts f from h4) hn hd2 (fun q hq => hf q (.tail _ hq))
      show strSub ⟨X.toArray⟩ a (a + r.length) :: partsFrom ⟨X.toArray⟩ Y.length (a + r.length + Y.length) cuts = _
      rw [ih]
      show _ = (⟨r.toArray⟩ : Str) :: _
      congr 1
      apply Str.ext'
      apply Array.toList_inj.mp
      rw [strSub_toList]
      show (X.drop a).take (a + r.length - a) = r
      rw [hX, show a + r.length - a = r.length by omega]; simp
theorem split_jn {Y : List Nat} {c : Nat} {r : List Nat} {R : List (List Nat)} (hY : Y.head? = some c) (hk : ∀ z ∈ Y, z < 256) (hf : ∀ q ∈ r :: R, c ∉ q) :
    Txt.split ⟨(jn Y r R).toArray⟩ ⟨Y.toArray⟩ = (r :: R).map fun q => ⟨q.toArray⟩ := by
  have hy : 1 ≤ (⟨Y.toArray⟩ : Str).length := by cases Y with
    | nil => cases hY
    | cons _ _ => simp [Str.length]
  generalize hX : jn Y r R = X
  obtain ⟨f, hG, hn⟩ := occ_tight ⟨X.toArray⟩ ⟨Y.toArray⟩ hy
  have hp := parts_jn (X := X) hY _ 0 f r R (Nat.zero_le _) hG hn (by simp [hX]) hf
  have hw : ∀ cuts, cuts = [] → partsFrom ⟨X.toArray⟩ Y.length 0 cuts = [⟨X.toArray⟩] := fun cuts e => by
    subst e
    show [strSub ⟨X.toArray⟩ 0 (⟨X.toArray⟩ : Str).length] = _
    rw [sub_whole]
  unfold Txt.split
  split
  · rename_i h
    rw [← hw _ ?_, ← hp]
    have hlt : (⟨X.toArray⟩ : Str).length < (⟨Y.toArray⟩ : Str).length := by
      rw [Bool.or_eq_true, decide_eq_true_eq, decide_eq_true_eq] at h
      rcases h with h | h
      · exact h
      · have e : PySem.Builtin.Str.strKind ⟨Y.toArray⟩ = 1 := by
          unfold PySem.Builtin.Str.strKind
          rw [if_pos (by simpa using hk)]
        rw [e] at h
        unfold PySem.Builtin.Str.strKind at h
        split at h
        · omega
        · split at h <;> omega
    cases q : occurrences ⟨X.toArray⟩ ⟨Y.toArray⟩ 0 (⟨X.toArray⟩ : Str).length ((⟨X.toArray⟩ : Str).length + 1) with
    | nil => rfl
    | cons k cs =>
      rw [q] at hG
      have := hG.2.1.1
      omega
  · split
    · rename_i h
      rw [← hw _ (List.isEmpty_iff.mp h), hp]
    · rw [partsBetween_eq]
      exact (show partsFrom _ Y.toArray.size 0 _ = _ by rw [show Y.toArray.size = Y.length by simp]; exact hp)
/-! ## the rows of a text -/
def hc (c : Nat) : List Nat × List (List Nat) → List Nat × List (List Nat) := fun p => (c :: p.1, p.2)
/-- the rows of the text itself -/
def rwT (le : Str) : List Tk → List Nat × List (List Nat)
  | [] => ([], [])
  | .e :: r => ([], (rwT le r).1 :: (rwT le r).2)
  | .d :: r => hc 46 (rwT le r)
  | .l i :: r => hc (le.cps.toList.getD i 0) (rwT le r)
/-- the rows of what is sent -/
def rwW (le : Str) : Bool → List Tk → List Nat × List (List Nat)
  | _, [] => ([], [])
  | _, .e :: r => ([], (rwW le true r).1 :: (rwW le true r).2)
  | true, .d :: r => hc 46 (hc 46 (rwW le false r))
  | false, .d :: r => hc 46 (rwW le false r)
  | _, .l i :: r => hc (le.cps.toList.getD i 0) (rwW le false r)
theorem jn_hc (y : List Nat) (c : Nat) (p : List Nat × List (List Nat)) : jn y (hc c p).1 (hc c p).2 = c :: jn y p.1 p.2 := by
  obtain ⟨r, R⟩ := p
  cases R <;> rfl
theorem jn_T (en le : Str) : ∀ ts, jn en.cps.toList (rwT le ts).1 (rwT le ts).2 = txt en le ts
  | [] => rfl
  | .e :: r => by
    show [] ++ (en.cps.toList ++ jn en.cps.toList (rwT le r).1 (rwT le r).2) = _
    rw [jn_T en le r]; rfl
  | .d :: r => by rw [rwT, jn_hc, jn_T en le r]; rfl
  | .l i :: r => by rw [rwT, jn_hc, jn_T en le r]; rfl
theorem jn_W (le : Str) : ∀ ts b, jn [13, 10] (rwW le b ts).1 (rwW le b ts).2 = wr le b ts
  | [], b => by cases b <;> rfl
  | .e :: r, b => by
    have e : rwW le b (.e :: r) = ([], (rwW le true r).1 :: (rwW le true r).2) := by cases b <;> rfl
    rw [e, wr_e]
    show [] ++ ([13, 10] ++ jn [13, 10] (rwW le true r).1 (rwW le true r).2) = _
    rw [jn_W le r true]; rfl
  | .d :: r, true => by
    show jn _ (hc 46 (hc 46 (rwW le false r))).1 (hc 46 (hc 46 (rwW le false r))).2 = _
    rw [jn_hc, jn_hc, jn_W le r false]; rfl
  | .d :: r, false => by
    show jn _ (hc 46 (rwW le false r)).1 (hc 46 (rwW le false r)).2 = _
    rw [jn_hc, jn_W le r false]; rfl
  | .l i :: r, b => by
    have e : rwW le b (.l i :: r) = hc (le.cps.toList.getD i 0) (rwW le false r) := by cases b <;> rfl
    rw [e, jn_hc, jn_W le r false, wr_l]
theorem free_T {le : Str} (hl : LeOk le) {c : Nat} (h : c = 10 ∨ c = 13) : ∀ ts, ∀ q ∈ (rwT le ts).1 :: (rwT le ts).2, c ∉ q
  | [], q, hq => by simp [rwT] at hq; subst hq; simp
  | .e :: r, q, hq => by
    rcases List.mem_cons.mp hq with rfl | hq
    · simp [rwT]
    · exact free_T hl h r q hq
  | .d :: r, q, hq => by
    rcases List.mem_cons.mp hq with rfl | hq
    · intro hm
      rcases List.mem_cons.mp hm with e | hm
      · omega
      · exact free_T hl h r _ (.head _) hm
    · exact free_T hl h r q (.tail _ hq)
  | .l i :: r, q, hq => by
    rcases List.mem_cons.mp hq with rfl | hq
    · intro hm
      rcases List.mem_cons.mp hm with e | hm
      · have := hl i; omega
      · exact free_T hl h r _ (.head _) hm
    · exact free_T hl h r q (.tail _ hq)
/-- a row as it is read: the first dot is dropped -/
def und (q : List Nat) : List Nat := if q.take 1 = [46] then q.drop 1 else q
theorem hc_rest (c : Nat) (p : List Nat × List (List Nat)) : (hc c p).2 = p.2 := rfl
theorem rows_und {le : Str} (hl : LeOk le) : ∀ ts, ((rwW le false ts).1 = (rwT le ts).1 ∧ (rwW le false ts).2.map und = (rwT le ts).2) ∧ (und (rwW le true ts).1 = (rwT le ts).1 ∧ (rwW le true ts).2.map und = (rwT le ts).2)
  | [] => by simp [rwW, rwT, und]
  | .e :: r => by
    obtain ⟨⟨a1, a2⟩, b1, b2⟩ := rows_und hl r
    simp [rwW, rwT, und, b2, ← b1]
  | .d :: r => by
    obtain ⟨⟨a1, a2⟩, b1, b2⟩ := rows_und hl r
    simp [rwW, rwT, hc, und, a1, a2]
  | .l i :: r => by
    obtain ⟨⟨a1, a2⟩, b1, b2⟩ := rows_und hl r
    have := (hl i).2.2
    simp only [rwW, rwT, hc, a1, a2, true_and, and_true]
    unfold und
    rw [if_neg]
    simp only [List.take_succ_cons, List.take_zero, List.cons.injEq, and_true]
    exact this
theorem free_W {le : Str} (hl : LeOk le) : ∀ ts b, ∀ q ∈ (rwW le b ts).1 :: (rwW le b ts).2, 13 ∉ q
  | [], b, q, hq => by cases b <;> (simp [rwW] at hq; subst hq; simp)
  | .e :: r, b, q, hq => by
    have e : rwW le b (.e :: r) = ([], (rwW le true r).1 :: (rwW le true r).2) := by cases b <;> rfl
    rw [e] at hq
    rcases List.mem_cons.mp hq with rfl | hq
    · simp
    · exact free_W hl r true q hq
  | .d :: r, true, q, hq => by
    rcases List.mem_cons.mp hq with rfl | hq
    · intro hm
      rcases List.mem_cons.mp hm with e | hm
      · omega
      rcases List.mem_cons.mp hm with e | hm
      · omega
      · exact free_W hl r false _ (.head _) hm
    · exact free_W hl r false q (.tail _ hq)
  | .d :: r, false, q, hq => by
    rcases List.mem_cons.mp hq with rfl | hq
    · intro hm
      rcases List.mem_cons.mp hm with e | hm
      · omega
      · exact free_W hl r false _ (.head _) hm
    · exact free_W hl r false q (.tail _ hq)
  | .l i :: r, b, q, hq => by
    have e : rwW le b (.l i :: r) = hc (le.cps.toList.getD i 0) (rwW le false r) := by cases b <;> rfl
    rw [e] at hq
    rcases List.mem_cons.mp hq with rfl | hq
    · intro hm
      rcases List.mem_cons.mp hm with e | hm
      · have := hl i; omega
      · exact free_W hl r false _ (.head _) hm
    · exact free_W hl r false q (.tail _ hq)
/-- the rows of the text -/
def rowsT (le : Str) (ts : List Tk) : List (List Nat) := (rwT le ts).1 :: (rwT le ts).2
def rowsW (le : Str) (ts : List Tk) : List (List Nat) := (rwW le true ts).1 :: (rwW le true ts).2
theorem split_T {en le : Str} (hl : LeOk le) (he : EnOk en) (ts : List Tk) : Txt.split ⟨(txt en le ts).toArray⟩ en = (rowsT le ts).map fun q => ⟨q.toArray⟩ := by
  have e : en = ⟨en.cps.toList.toArray⟩ := by cases en; simp
  rw [← jn_T]
  have key : ∀ Y c, en.cps.toList = Y → Y.head? = some c → (∀ z ∈ Y, z < 256) → (c = 10 ∨ c = 13) → Txt.split ⟨(jn en.cps.toList (rwT le ts).1 (rwT le ts).2).toArray⟩ en = (rowsT le ts).map fun q => ⟨q.toArray⟩ := by
    intro Y c eY h1 h2 h3
    have := split_jn (Y := Y) (c := c) (r := (rwT le ts).1) (R := (rwT le ts).2) h1 h2 (free_T hl h3 ts)
    rw [← eY] at this
    rw [← e] at this
    exact this
  rcases he with q | q | q
  · exact key _ 10 q rfl (by simp) (.inl rfl)
  · exact key _ 13 q rfl (by simp) (.inr rfl)
  · exact key _ 13 q rfl (by simp) (.inr rfl)
theorem split_W {le : Str} (hl : LeOk le) (ts : List Tk) : Txt.split ⟨(wr le true ts).toArray⟩ crlf = (rowsW le ts).map fun q => ⟨q.toArray⟩ := by
  rw [← jn_W]
  exact split_jn (Y := [13, 10]) (c := 13) rfl (by simp) (free_W hl ts true)
theorem und_rows {le : Str} (hl : LeOk le) (ts : List Tk) : (rowsW le ts).map und = rowsT le ts := by
  have := rows_und hl ts
  simp only [rowsW, rowsT, List.map_cons, this]
end Mine
end
section
open PySem PySem.W PyProof.Rows
set_option maxRecDepth 100000
set_option Elab.async false
set_option linter.unusedVariables false
namespace Mine
/-! ## the tree of questions that the sort asks -/
def AllT {α : Type} (P : Nat → Nat → Prop) (R : α → Prop) : KasT α → Prop
  | .ret a => R a
  | .ask i j k => P i j ∧ ∀ b, AllT P R (k b)
theorem AllT.bind {α β : Type} {P : Nat → Nat → Prop} {R : α → Prop} {S : β → Prop} {f : α → KasT β} (hf : ∀ a, R a → AllT P S (f a)) : ∀ {t : KasT α}, AllT P R t → AllT P S (t.bind f)
  | .ret a, h => hf a h
  | .ask i j k, h => ⟨h.1, fun b => AllT.bind hf (h.2 b)⟩
def runT {α : Type} (f : Nat → Nat → Bool) : KasT α → α
  | .ret a => a
  | .ask i j k => runT f (k (f i j))
theorem AllT.run {α : Type} {P : Nat → Nat → Prop} {R : α → Prop} (f : Nat → Nat → Bool) : ∀ {t : KasT α}, AllT P R t → R (runT f t)
  | .ret a, h => h
  | .ask i j k, h => AllT.run (P := P) f (t := k (f i j)) (h.2 (f i j))
theorem run_wp {α : Type} {P : Nat → Nat → Prop} {R : α → Prop} {cmp : Nat → Nat → (Bool → Shared → Prop) → Shared → Prop} {f : Nat → Nat → Bool} {I : Shared → Prop} {Q : α → Shared → Prop}
    (hc : ∀ i j (C : Bool → Shared → Prop) s, P i j → I s → (∀ s', I s' → C (f i j) s') → cmp i j C s) : ∀ {t : KasT α} {s : Shared}, AllT P R t → I s → (∀ s', I s' → Q (runT f t) s') → t.kasWp cmp Q s
  | .ret a, s, _, hs, h => h s hs
  | .ask i j k, s, ht, hs, h => hc i j _ s ht.1 hs fun s' hs' => run_wp hc (ht.2 (f i j)) hs' h
def Below (n : Nat) (p : Array Nat) : Prop := p.size = n ∧ ∀ x ∈ p, x < n
theorem Below.get {n : Nat} {p : Array Nat} (h : Below n p) (hn : 0 < n) (i : Nat) : p.getD i 0 < n := by
  by_cases hi : i < p.size
  · have e : p.getD i 0 = p[i] := by simp [Array.getD, hi]
    rw [e]; exact h.2 _ (Array.getElem_mem hi)
  · have e : p.getD i 0 = 0 := by simp [Array.getD, hi]
    rw [e]; exact hn
theorem Below.perm {n : Nat} {p q : Array Nat} (h : Below n p) (e : q.Perm p) : Below n q :=
  ⟨e.size_eq.trans h.1, fun x hx => h.2 x (e.mem_iff.mp hx)⟩
theorem Below.rev {n : Nat} {p : Array Nat} (h : Below n p) (i j : Nat) : Below n (kas_rev p i j) := h.perm (mirror_perm _ _ _ _)
theorem Below.bub {n : Nat} {p : Array Nat} (h : Below n p) (k d : Nat) : Below n (bubble p k d) := h.perm (bubble_perm _ _ _)
section
variable {n : Nat} (hn : 0 < n)
include hn
abbrev Pn (n : Nat) : Nat → Nat → Prop := fun i j => i < n ∧ j < n
theorem at_asc {p : Array Nat} (h : Below n p) : ∀ (f a : Nat), AllT (Pn n) (fun _ => True) (kas_asc p f a)
  | 0, _ => trivial
  | f + 1, a => ⟨⟨h.get hn _, h.get hn _⟩, fun c => by
    dsimp only
    split
    · trivial
    · exact at_asc h f (a + 1)⟩
theorem at_desc : ∀ (f : Nat) {p : Array Nat} (_ : Below n p) (a q : Nat), AllT (Pn n) (fun r => Below n r.1) (kas_desc f p a q)
  | 0, _, h, _, _ => h
  | f + 1, p, h, a, q => ⟨⟨h.get hn _, h.get hn _⟩, fun c => by
    dsimp only
    split
    · split
      · exact at_desc f (h.rev _ _) _ _
      · exact at_desc f h _ _
    · exact ⟨⟨h.get hn _, h.get hn _⟩, fun d => by
        dsimp only
        split
        · exact h
        · exact at_desc f h _ _⟩⟩
theorem at_tail3 {p : Array Nat} (h : Below n p) (a r : Nat) : AllT (Pn n) (fun r => Below n r.2) (kas_tail3 a r p) := by
  unfold kas_tail3
  refine AllT.bind (R := fun _ => True) (fun m _ => ?_) (at_asc hn (h.rev _ _) _ _)
  exact h.rev 0 a
theorem at_descPart {p : Array Nat} (h : Below n p) (a r : Nat) : AllT (Pn n) (fun r => Below n r.2) (kas_descPart a r p) := by
  unfold kas_descPart
  refine AllT.bind (R := fun r => Below n r.1) (fun m hm => ?_) (at_desc hn _ h _ _)
  split
  · exact at_tail3 hn (hm.rev _ _) _ _
  · exact at_tail3 hn hm _ _
theorem at_count {p : Array Nat} (h : Below n p) (r : Nat) : AllT (Pn n) (fun r => Below n r.2) (kas_count r p) := by
  unfold kas_count
  refine AllT.bind (R := fun _ => True) (fun m _ => ?_) (at_asc hn h _ _)
  split
  · exact h
  · split
    · exact ⟨⟨h.get hn _, h.get hn _⟩, fun c => by
        dsimp only
        split
        · exact h
        · exact at_descPart hn (h.rev _ _) _ _⟩
    · exact at_descPart hn h _ _
theorem at_place {p : Array Nat} (h : Below n p) (k : Nat) : ∀ (f l r : Nat), AllT (Pn n) (fun _ => True) (kas_place p k f l r)
  | 0, _, _ => trivial
  | f + 1, l, r => by
    unfold kas_place
    split
    · trivial
    · exact ⟨⟨h.get hn _, h.get hn _⟩, fun c => by
        dsimp only
        split
        · exact at_place h k f _ _
        · exact at_place h k f _ _⟩
theorem at_bin : ∀ (f : Nat) {p : Array Nat} (_ : Below n p) (k : Nat), AllT (Pn n) (Below n) (kas_bin f p k)
  | 0, _, h, _ => h
  | f + 1, p, h, k => AllT.bind (R := fun _ => True) (fun l _ => at_bin f (h.bub _ _) _) (at_place hn h k k 0 k)
theorem at_sort : AllT (Pn n) (Below n) (kas_sort n) := by
  unfold kas_sort
  refine AllT.bind (R := fun r => Below n r.2) (fun r h => ?_) (at_count hn ⟨by simp, fun x hx => by simpa using hx⟩ n)
  split
  · exact at_bin hn _ h _
  · exact h
end
/-- the order that the sort gives, where it is answered by f -/
def sortP (f : Nat → Nat → Bool) (n : Nat) : Array Nat := runT f (kas_sort n)
theorem sortP_below {n : Nat} (hn : 0 < n) (f : Nat → Nat → Bool) : Below n (sortP f n) := (at_sort hn).run f
end Mine
end
section
open PySem PySem.W PySem.W.X PyProof.Rows
set_option maxRecDepth 100000
set_option Elab.async false
set_option linter.unusedVariables false
set_option linter.unusedSimpArgs false
namespace Mine
theorem ints_getD {vs : List Value} {xs : List Int} (h : IntsAre vs xs) {i : Nat} (hi : i < xs.length) : ∃ t, vs.getD i Value.none = .int (xs.getD i 0) t := by
  obtain ⟨t, e⟩ := ints_get h hi
  exact ⟨t, by rw [List.getD_eq_getElem?_getD, e]; rfl⟩
theorem ints_mem {vs : List Value} {xs : List Int} (h : IntsAre vs xs) : ∀ v ∈ vs, ∃ n t, v = .int n t := by
  induction h with
  | nil => intro v hv; cases hv
  | cons n t _ ih =>
    intro v hv
    rcases List.mem_cons.mp hv with rfl | hv
    · exact ⟨n, t, rfl⟩
    · exact ih v hv
/-- what is picked from ints is ints -/
theorem ints_pick {vs : List Value} {xs : List Int} (h : IntsAre vs xs) : ∀ (p : List Nat), (∀ i ∈ p, i < xs.length) → IntsAre (p.map fun i => vs.getD i Value.none) (p.map fun i => xs.getD i 0)
  | [], _ => .nil
  | i :: p, hp => by
    obtain ⟨t, e⟩ := ints_getD h (hp i (.head _))
    rw [List.map_cons, List.map_cons, e]
    exact .cons _ _ (ints_pick h p fun j hj => hp j (.tail _ hj))
section
variable {w : World} {A : Around} {E : Value → Shared → Prop} {h₀ hp : Heap} {g : Array GenState} {d : Drawn} {tk : Nat} {os : OsState} {L : Addr} {l : List (Str × Value)} {own : List (Addr × Obj)} {env : Env} {Q : Value → Shared → Prop}
/-- sorted of a list whose questions are answered by f, the state kept -/
theorem f_sorted {a : Addr} {vs : List Value} {f : Nat → Nat → Bool} {κ : SortKind} (J : In w h₀ L l own hp) (hl : hp.IsList a vs.toArray) (h2 : 2 ≤ vs.length) (h64 : vs.length < 64)
    (hk : ∀ h' (Q : SortKind → Shared → Prop), In w h₀ L l own h' → Q κ ⟨h', g, d, tk, os⟩ → wpAny (model pg w) A.in1.in1 (keyKind' vs.toArray) Q (fun _ _ => False) ⟨h', g, d, tk, os⟩)
    (hc : ∀ h' i j (C : Bool → Shared → Prop), i < vs.length → j < vs.length → In w h₀ L l own h' → C (f i j) ⟨h', g, d, tk, os⟩ → wpAny (model pg w) A.in1.in1 (keyLt' κ (vs.getD i Value.none) (vs.getD j Value.none)) C (fun _ _ => False) ⟨h', g, d, tk, os⟩)
    (h : ∀ h' D c, hp.objs.size ≤ D ∨ 138 ≤ D → In w h₀ L l ((D, listOf ((sortP f vs.length).toList.map fun i => vs.getD i Value.none).toArray c) :: own) h' → Q (.ref D) ⟨h', g, d, tk, os⟩) :
    wpAny (model pg w) A (call (.builtin "sorted") [.ref a]) Q E ⟨hp, g, d, tk, os⟩ := by
  obtain ⟨m, hn, hm⟩ := J.ns
  refine kat_sorted (s := ⟨hp, g, d, tk, os⟩) (fr_of hn) (allN_news hp L) hl h2 h64 ?_
  intro D e1 h' F N hD
  have h138 : 138 ≤ D := by
    have := hD _ (mem_allN (L := L) (h := hp) (b := 137) (Nat.ne_of_lt (Nat.lt_of_lt_of_le (by decide) J.low)) (J.lp.k 137 _ rfl))
    exact this
  have J' : In w h₀ L l own h' := J.back (ex := [(D, seqObj "list" #[] e1)]) hm F N
  refine hk h' _ J' ?_
  refine run_wp (P := Pn vs.length) (R := Below vs.length) (f := f) (I := fun s => s = ⟨h', g, d, tk, os⟩) ?_ (at_sort (by omega)) rfl ?_
  · intro i j C s hij hs hC
    subst hs
    exact hc h' i j C hij.1 hij.2 J' (hC _ rfl)
  · intro s hs
    subst hs
    have hne : ∀ p ∈ allN hp L, p.1 ≠ D := fun p hp' => Nat.ne_of_lt (hD p hp')
    refine KasFin.intro (news := (D, seqObj "list" #[] e1) :: allN hp L) F N (.head hne) ?_
    intro h'' c F' N'
    exact h h'' D c (.inr h138) (J.back1 hm h138 F' N')
theorem f_sorti {a : Addr} {vs : List Value} {xs : List Int} (J : In w h₀ L l own hp) (hl : hp.IsList a vs.toArray) (hi : IntsAre vs xs) (h2 : 2 ≤ vs.length) (h64 : vs.length < 64)
    (h : ∀ h' D c, In w h₀ L l ((D, listOf ((sortP (fun i j => decide (xs.getD i 0 < xs.getD j 0)) vs.length).toList.map fun i => vs.getD i Value.none).toArray c) :: own) h' → Q (.ref D) ⟨h', g, d, tk, os⟩) :
    wpAny (model pg w) A (call (.builtin "sorted") [.ref a]) Q E ⟨hp, g, d, tk, os⟩ := by
  refine f_sorted (κ := oneType') J hl h2 h64 ?_ ?_ (fun h' D c _ => h h' D c)
  · intro h' Q J' hq
    refine kas_kind (T := .type "int") h2 (fun v hv => ?_) rfl rfl hq
    obtain ⟨n, t, rfl⟩ := ints_mem hi v hv
    exact Looks.of_pure rfl
  · intro h' i j C hi' hj' J' hC
    have hlen := hi.length
    obtain ⟨t, e⟩ := ints_getD hi (i := i) (by omega)
    obtain ⟨u, e'⟩ := ints_getD hi (i := j) (by omega)
    rw [e, e']
    exact kat_lt_int hC
end
/-! ## the tuples that were heard -/
/-- the i-th heard: an address, two tokens, a token of the wire -/
structure Hd where
  a : Addr
  o : Obj
  ts : List Tk
def HdOk (H M : List Int) (k : Nat) (le : Str) (q : Hd) : Prop :=
  LtOk k q.ts ∧ snt true q.ts ≤ 7 ∧ q.o.cls = .type "tuple" ∧ ∃ t u v n, q.o.data = .seq #[.int (snt true q.ts : Int) t, .str ⟨(wr le true q.ts).toArray⟩ u, .int (plc H M q.ts) v] n
section
variable {w : World} {A : Around} {E : Value → Shared → Prop} {h₀ hp : Heap} {g : Array GenState} {d : Drawn} {tk : Nat} {os : OsState} {L : Addr} {l : List (Str × Value)} {own : List (Addr × Obj)} {env : Env} {Q : Value → Shared → Prop}
theorem tups_of {H M : List Int} {k : Nat} {le : Str} : ∀ (hs : List Hd), (∀ q ∈ hs, HdOk H M k le q) → (∀ q ∈ hs, hp.get? q.a = some q.o) → ∃ fs, KatTups hp (hs.map fun q => .ref q.a) fs ∧ fs.length = hs.length ∧ ∀ v ∈ fs, ∃ n t, v = .int n t
  | [], _, _ => ⟨[], KatTups.nil, rfl, fun _ h => nomatch h⟩
  | q :: hs, h1, h2 => by
    obtain ⟨fs, a, b, c⟩ := tups_of hs (fun q hq => h1 q (.tail _ hq)) (fun q hq => h2 q (.tail _ hq))
    obtain ⟨_, _, hc, t, u, v, n, hd⟩ := h1 q (.head _)
    refine ⟨.int (snt true q.ts : Int) t :: fs, KatTups.cons (h2 q (.head _)) hc hd rfl a, by simp [b], fun x hx => ?_⟩
    rcases List.mem_cons.mp hx with rfl | hx
    · exact ⟨_, _, rfl⟩
    · exact c x hx
theorem lt_heard {H M : List Int} {k : Nat} {le : Str} (G : Good H M k) (U : LeUp le k) {x y : Hd} {Q : Bool → Shared → Prop} {s : Shared} (hx : HdOk H M k le x) (hy : HdOk H M k le y) (gx : s.heap.get? x.a = some x.o) (gy : s.heap.get? y.a = some y.o)
    (h : Q (decide (plc H M x.ts < plc H M y.ts)) s) : wpAny (model pg w) A (keyLt' (tuples' true) (.ref x.a) (.ref y.a)) Q E s := by
  obtain ⟨lx, sx, _, t1, u1, v1, n1, dx⟩ := hx
  obtain ⟨ly, sy, _, t2, u2, v2, n2, dy⟩ := hy
  refine kat_lt gx dx gy dy ?_
  show KatLex pg w A true (decide (3 < 3)) Q [(.int (snt true x.ts : Int) t1, .int (snt true y.ts : Int) t2), (.str ⟨(wr le true x.ts).toArray⟩ u1, .str ⟨(wr le true y.ts).toArray⟩ u2), (.int (plc H M x.ts) v1, .int (plc H M y.ts) v2)] 0 s
  refine kat_cons (wpAny_eqBool_int ?_)
  by_cases e1 : snt true x.ts = snt true y.ts
  · rw [show ((snt true x.ts : Int) == (snt true y.ts : Int)) = true by rw [e1]; exact beq_self_eq_true _]
    refine kat_yes (kat_cons (wpAny_eqBool_str ?_))
    by_cases e2 : wr le true x.ts = wr le true y.ts
    · have e3 := ord_eq (H := H) (M := M) U _ _ true lx ly e2
      rw [show decide ((⟨(wr le true x.ts).toArray⟩ : Str) = ⟨(wr le true y.ts).toArray⟩) = true by rw [e2]; simp]
      refine kat_yes (kat_cons (wpAny_eqBool_int ?_))
      rw [e3, beq_self_eq_true]
      refine kat_yes (kat_nil ?_)
      rw [e3] at h
      rw [decide_eq_false (by omega)] at h
      exact h
    · rw [show decide ((⟨(wr le true x.ts).toArray⟩ : Str) = ⟨(wr le true y.ts).toArray⟩) = false by rw [decide_eq_false]; intro q; injection q with q; exact e2 (by simpa using q)]
      refine kat_no ?_
      show wpAny _ _ (oneLt' false _ _) _ _ _
      refine kat_one _ _ (PySem.P.lt_str ?_)
      show Q (decide (wr le true x.ts < wr le true y.ts)) s
      rw [ask_wr G U lx ly sx e1 e2]
      exact h
  · rw [show ((snt true x.ts : Int) == (snt true y.ts : Int)) = false by rw [beq_eq_false_iff_ne]; omega]
    refine kat_no ?_
    show wpAny _ _ (oneLt' true _ _) _ _ _
    refine oneLt_int ?_
    rw [ask_len G lx ly sx sy e1]
    exact h
theorem getD_map {hs : List Hd} {i : Nat} (h : i < hs.length) : (hs.map fun q => Value.ref q.a).getD i Value.none = .ref hs[i].a := by
  rw [List.getD_eq_getElem?_getD, List.getElem?_map, List.getElem?_eq_getElem h]; rfl
theorem f_sorth {a : Addr} {hs : List Hd} {H M : List Int} {k : Nat} {le : Str} (G : Good H M k) (U : LeUp le k) (J : In w h₀ L l own hp) (hl : hp.IsList a (hs.map fun q => Value.ref q.a).toArray) (ho : ∀ q ∈ hs, HdOk H M k le q) (hw : ∀ q ∈ hs, (q.a, q.o) ∈ own) (h2 : 2 ≤ hs.length) (h64 : hs.length < 64)
    (h : ∀ h' D c, In w h₀ L l ((D, listOf ((sortP (fun i j => decide ((hs.map fun q => plc H M q.ts).getD i 0 < (hs.map fun q => plc H M q.ts).getD j 0)) hs.length).toList.map fun i => (hs.map fun q => Value.ref q.a).getD i Value.none).toArray c) :: own) h' → Q (.ref D) ⟨h', g, d, tk, os⟩) :
    wpAny (model pg w) A (call (.builtin "sorted") [.ref a]) Q E ⟨hp, g, d, tk, os⟩ := by
  have hlen : (hs.map fun q => Value.ref q.a).length = hs.length := by simp
  refine f_sorted (κ := tuples' true) (f := fun i j => decide ((hs.map fun q => plc H M q.ts).getD i 0 < (hs.map fun q => plc H M q.ts).getD j 0)) J hl (by omega) (by omega) ?_ ?_ (fun h' D c _ J' => h h' D c (by rw [hlen] at J'; exact J'))
  · intro h' Q J' hq
    obtain ⟨fs, t, n, ty⟩ := tups_of (hp := h') hs ho (fun q hq => (J'.own _ (hw q hq)).1)
    refine kat_kind (T := .type "int") t (by omega) (fun v hv => ?_) rfl hq
    obtain ⟨n, t, rfl⟩ := ty v hv
    exact Looks.of_pure rfl
  · intro h' i j C hi hj J' hC
    rw [hlen] at hi hj
    rw [getD_map hi, getD_map hj]
    refine lt_heard G U (ho _ (List.getElem_mem hi)) (ho _ (List.getElem_mem hj)) (J'.own _ (hw _ (List.getElem_mem hi))).1 (J'.own _ (hw _ (List.getElem_mem hj))).1 ?_
    have e : ∀ {i} (h : i < hs.length), (hs.map fun q => plc H M q.ts).getD i 0 = plc H M hs[i].ts := fun h => by
      rw [List.getD_eq_getElem?_getD, List.getElem?_map, List.getElem?_eq_getElem h]; rfl
    rw [← e hi, ← e hj]
    exact hC
end
end Mine
end
section
open PySem PySem.W PySem.W.X PyProof.Rows
set_option maxRecDepth 100000
set_option Elab.async false
set_option linter.unusedVariables false
set_option linter.unusedSimpArgs false
namespace Mine
/-! ## lists walked: an iterator's object -/
def Lit (o : Obj) (a : Addr) (j : Nat) : Prop := o.cls = .type "list_iterator" ∧ o.data = .fields #[.ref a, .int j 0]
section
variable {w : World} {A : Around} {E : Value → Shared → Prop} {h₀ hp : Heap} {g : Array GenState} {d : Drawn} {tk : Nat} {os : OsState} {L : Addr} {l : List (Str × Value)} {own : List (Addr × Obj)} {env : Env}
theorem f_liter {a : Addr} {vs : List Value} {Q : Value → Shared → Prop} (J : In w h₀ L l own hp) (hl : hp.IsList a vs.toArray) (h : ∀ I o h', hp.objs.size ≤ I → Lit o a 0 → In w h₀ L l ((I, o) :: own) h' → Q (.ref I) ⟨h', g, d, tk, os⟩) :
    wpAny (model pg w) A (pyIter (.ref a)) Q E ⟨hp, g, d, tk, os⟩ :=
  wpAny_pyIter_list (s := ⟨hp, g, d, tk, os⟩) hl (h _ _ _ (Nat.le_refl _) ⟨rfl, rfl⟩ (J.push rfl))
theorem lit_fields {o : Obj} {a : Addr} {j : Nat} (x : Lit o a j) : (o.cls ≠ .none) ∧ ∀ vs q t, o.data = .fields vs → vs[1]? ≠ some (.str q t) := by
  refine ⟨by rw [x.1]; exact (fun z => nomatch z), fun vs q t e => ?_⟩
  rw [x.2] at e
  injection e with e
  subst e
  exact fun z => nomatch z
theorem f_lnext {I a : Addr} {o : Obj} {j : Nat} {vs : List Value} {x : Value} {Q : Option Value → Shared → Prop} (J : In w h₀ L l ((I, o) :: own) hp) (hI : 138 ≤ I) (h0 : h₀.objs.size ≤ I) (ho : ∀ p ∈ own, p.1 ≠ I) (hit : Lit o a j) (hl : hp.IsList a vs.toArray) (hx : vs[j]? = some x)
    (h : ∀ h' o', Lit o' a (j + 1) → In w h₀ L l ((I, o') :: own) h' → Q (some x) ⟨h', g, d, tk, os⟩) : wpAny (model pg w) A (pyNext (.ref I)) Q E ⟨hp, g, d, tk, os⟩ := by
  refine wpAny_pyNext_list_item (s := ⟨hp, g, d, tk, os⟩) ⟨o, (J.own _ (.head _)).1, hit.1, hit.2⟩ hl (x := x) (by simpa using hx) fun h' hi hs => ?_
  obtain ⟨o', e, c1, c2⟩ := hi
  exact h h' o' ⟨c1, c2⟩ (J.chg (lit_fields hit).1 (lit_fields hit).2 hI h0 ho (fun b o hb e => (hs.2 b hb).trans e) e)
theorem f_lend {I a : Addr} {o : Obj} {j : Nat} {vs : List Value} {Q : Option Value → Shared → Prop} (hh : A.handled = none) (J : In w h₀ L l ((I, o) :: own) hp) (hI : 138 ≤ I) (h0 : h₀.objs.size ≤ I) (ho : ∀ p ∈ own, p.1 ≠ I) (hit : Lit o a j) (hl : hp.IsList a vs.toArray) (hx : vs[j]? = none)
    (h : ∀ h', In w h₀ L l own h' → Q none ⟨h', g, d, tk, os⟩) : wpAny (model pg w) A (pyNext (.ref I)) Q E ⟨hp, g, d, tk, os⟩ := by
  refine wpAny_pyNext_list_end (s := ⟨hp, g, d, tk, os⟩) hh ⟨o, (J.own _ (.head _)).1, hit.1, hit.2⟩ hl (by simpa using hx) fun h' hs => ?_
  exact h h' (J.drop (lit_fields hit).1 (lit_fields hit).2 hI h0 ho (fun b o hb e => hs b o hb e))
end
/-! ## a comprehension over a list -/
section
variable {w : World} {A : Around} {E : Value → Shared → Prop} {h₀ hp : Heap} {g : Array GenState} {d : Drawn} {tk : Nat} {os : OsState} {L : Addr} {l : List (Str × Value)} {own : List (Addr × Obj)} {env : Env}
/-- the turns of a comprehension over a list, once it is at hand -/
theorem f_compw {elt : Expr} {x : Str} {scope : Scope} {cl : List (Str × Addr)} {a : Addr} {vs : List Value} {F : Value → Value → Prop} (hh : A.handled = none) (J : In w h₀ L l own hp) (hl : hp.IsList a vs.toArray) (hsz : vs.length ≤ 1000000)
    (he : ∀ C v s₃ E', v ∈ vs → In w {} C [(x, v)] own s₃.heap → wpAny (model pg w) A (eval elt (compEnvC scope cl C env)) (fun y s₄ => F v y ∧ Keeps s₃ s₄) E' s₃) {Q : Value → Shared → Prop}
    (h : ∀ D h' tk' ys n, In w h₀ L l ((D, lob ys n) :: own) h' → hp.objs.size ≤ D ∨ True → Paired F vs ys → Q (.ref D) ⟨h', g, d, tk', os⟩) :
    wpAny (model pg w) A (pyIter (.ref a)) (fun it s₂ => ∃ I fp wr n P St, it = .ref I ∧ Walks pg w A I fp wr n P St ∧ n ≤ sizeLine ∧ St 0 s₂.heap ∧ (∀ b ∈ fp, b < s₂.heap.objs.size) ∧
      QuietOnC pg w A env scope cl x [] elt wr P (fun _ => true) F s₂ ∧
      (∀ D h' tk ys (vs : List Value), s₂.heap.get? D = none → h'.IsList D ys → h'.PlainList D ys → vs.length = n → (∀ j v, vs[j]? = some v → P j v) → Paired F (vs.filter fun _ => true) ys.toList →
        (∀ b o, b ∉ wr → s₂.heap.get? b = some o → h'.get? b = some o) → Q (.ref D) { s₂ with heap := h', toks := tk })) E ⟨hp, g, d, tk, os⟩ := by
  have hal : a < hp.objs.size := let ⟨_, e, _⟩ := hl; Heap.lt_size e
  refine wpAny_pyIter_list (s := ⟨hp, g, d, tk, os⟩) hl ?_
  refine ⟨hp.objs.size, _, _, vs.toArray.size, _, _, rfl, Walks.list hh _ a (Nat.ne_of_lt hal) vs.toArray, by rw [List.size_toArray, sizeLine_eq]; omega, ⟨⟨_, Heap.get?_push_size _ rfl, rfl, rfl⟩, hl.push _⟩, ?_, ?_, ?_⟩
  · intro b hb
    have hs : (hp.push { cls := .type "list_iterator", data := .fields #[.ref a, .int 0 0] }).objs.size = hp.objs.size + 1 := Heap.size_push ..
    show b < (hp.push { cls := .type "list_iterator", data := .fields #[.ref a, .int 0 0] }).objs.size
    rw [hs]
    rcases List.mem_cons.mp hb with rfl | hb
    · exact Nat.lt_succ_self _
    · rw [List.mem_singleton.mp hb]; exact Nat.lt_succ_of_lt hal
  · refine ⟨fun C i v s₃ m₃ E' hC hP hn₃ hm₃ hk htk => pu_any ⟨rfl, s₃.heap, s₃.toks, rfl, fun _ _ e => e⟩, fun C i v s₃ m₃ E' hC hP _ hn₃ hm₃ hk htk => ?_⟩
    have k3 : ∀ b o, hp.get? b = some o → s₃.heap.get? b = some o := fun b o e => hk b o (fun hm => by have := List.mem_singleton.mp hm; exact absurd (Heap.lt_size e) (by rw [this]; exact Nat.lt_irrefl _)) (Heap.get?_push_of_some _ e)
    have hC' : hp.objs.size + 1 ≤ C := by
      have hs : (hp.push { cls := .type "list_iterator", data := .fields #[.ref a, .int 0 0] }).objs.size = hp.objs.size + 1 := Heap.size_push ..
      rw [← hs]; exact hC
    have h138 := J.lp.size
    refine he C v s₃ E' ?_ (In.read (J.lp.keeps k3) hn₃ (fun z u hx => ?_) (Nat.le_trans h138 (Nat.le_of_succ_le hC')) fun p hp' => ?_)
    · exact List.mem_of_getElem? (i := i) (by simpa using hP)
    · unfold lkp at hx
      split at hx
      · rename_i q; rw [sq_iff.mp q]; cases hx; exact hm₃
      · cases hx
    · have e := J.own p hp'
      exact ⟨k3 _ _ e.1, Nat.ne_of_lt (Nat.lt_of_lt_of_le (Nat.lt_succ_of_lt (Heap.lt_size e.1)) hC'), e.2.2⟩
  · intro D h' tk' ys us hD _ hpl hlen hP hF hk
    have hk' : ∀ b o, hp.get? b = some o → h'.get? b = some o := fun b o e => hk b o (fun hm => by have := List.mem_singleton.mp hm; exact absurd (Heap.lt_size e) (by rw [this]; exact Nat.lt_irrefl _)) (Heap.get?_push_of_some _ e)
    obtain ⟨n, e⟩ := hpl
    have eu : us = vs := by
      apply List.ext_getElem?
      intro i
      by_cases hi : i < us.length
      · have := hP i us[i] (List.getElem?_eq_getElem hi)
        rw [List.getElem?_eq_getElem hi, ← this]; simp
      · rw [List.getElem?_eq_none (by omega), List.getElem?_eq_none (by rw [List.size_toArray] at hlen; omega)]
    subst eu
    rw [List.filter_eq_self.mpr (fun _ _ => rfl)] at hF
    have hDL : D ≠ L := by
      rintro rfl
      obtain ⟨m, ⟨o, es, ep, ho, _⟩, _⟩ := J.ns
      have := (Heap.get?_push_of_some { cls := .type "list_iterator", data := .fields #[.ref a, .int 0 0] } ho)
      exact absurd (hD.symm.trans this) (fun z => nomatch z)
    have hDT := (J.lp.push { cls := .type "list_iterator", data := .fields #[.ref a, .int 0 0] }).fresh hD
    refine h D h' tk' ys.toList n ((J.keepAll hk').more (a := D) (by rw [e]) hDL hDT) (.inr trivial) hF
/-- a comprehension that reads and builds -/
theorem f_comp {elt iter : Expr} {x : Str} {px : Pos} {scope : Scope} {cl : List (Str × Addr)} {pos : Pos} {F : Value → Value → Prop} {Q : Value → Shared → Prop} (hh : A.handled = none)
    (hclos : closureFor scope env = pure cl) (hcell : ∀ y ∈ scope.names, y.2 ≠ .cell) (hkind : scope.kind = .function) (hnames : ∀ y ∈ scope.names, y.2 = .local → scope.names.lookup y.1 = some .local) (hx : scope.names.lookup x = some .local)
    (hs : ∀ x, foldedSetIterable iter env x = pure x)
    (h : wpAny (model pg w) A (eval iter env) (fun xv s₁ => ∃ a vs h' tk' l own, xv = .ref a ∧ s₁ = ⟨h', g, d, tk', os⟩ ∧ In w h₀ L l own h' ∧ h'.IsList a vs.toArray ∧ vs.length ≤ 1000000 ∧
      (∀ C v s₃ E', v ∈ vs → In w {} C [(x, v)] own s₃.heap → wpAny (model pg w) A (eval elt (compEnvC scope cl C env)) (fun y s₄ => F v y ∧ Keeps s₃ s₄) E' s₃) ∧
      (∀ D h' tk' ys n, In w h₀ L l ((D, lob ys n) :: own) h' → Paired F vs ys → Q (.ref D) ⟨h', g, d, tk', os⟩)) E ⟨hp, g, d, tk, os⟩) :
    wpAny (model pg w) A (eval (.ListComp elt [⟨.Name x px, iter, [], 0⟩] scope pos) env) Q E ⟨hp, g, d, tk, os⟩ := by
  refine wpAny_ListComp_free (fun _ => true) F hclos hcell hkind hnames hx (wpAny_mono h ?_ fun _ _ e => e) hs
  rintro _ _ ⟨a, vs, h', tk', l, own, rfl, rfl, J, hl, hsz, he, hq⟩
  exact f_compw hh J hl hsz he (fun D h' tk' ys n J _ hF => hq D h' tk' ys n J hF)
end
end Mine
end
section
open PySem PySem.W PySem.W.X PyProof.Rows
set_option maxRecDepth 100000
set_option Elab.async false
set_option linter.unusedVariables false
set_option linter.unusedSimpArgs false
namespace Mine
section
variable {w : World} {A : Around} {E : Value → Shared → Prop} {h₀ hp : Heap} {g : Array GenState} {d : Drawn} {tk : Nat} {os : OsState} {L : Addr} {l : List (Str × Value)} {own : List (Addr × Obj)} {env : Env} {x y : Str} {t u : Tok}
theorem getMethod_split {pl : Sem Bool} {Q : Value × List Value → Shared → Prop} {s : Shared} (h : Q (.builtin "str.split", [.str x t]) s) : wpAny (model pg w) A (getMethod (.str x t) ⟨#[115, 112, 108, 105, 116]⟩ pl) Q E s :=
  getMethod_builtin (T := "str") (typeIs_str _ _ _) PySem.F.plainAttrs_str PySem.F.slot_str_split PySem.F.type_str_split (fun a e => nomatch e) h
theorem f_split {rows : List (List Nat)} {Q : Value → Shared → Prop} (J : In w h₀ L l own hp) (hy : (y.length == 0) = false) (hx : x.length ≤ 1000) (hr : Txt.split x y = rows.map fun q => ⟨q.toArray⟩) (hrl : rows.length ≤ 1000)
    (h : ∀ D h' tk' vs, In w h₀ L l own h' → h'.IsList D vs.toArray → StrsAre vs (rows.map fun q => ⟨q.toArray⟩) → Q (.ref D) ⟨h', g, d, tk', os⟩) :
    wpAny (model pg w) A (call (.builtin "str.split") [.str x t, .str y u]) Q E ⟨hp, g, d, tk, os⟩ := by
  refine PySem.SCH.split1 (s := ⟨hp, g, d, tk, os⟩) (P := fun h => In w h₀ L l own h) (fun h ob J => J.pushed) J hy ?_ (by rw [sizeLine_eq]; omega) ?_
  · intro D ll h' k e J' hl
    refine h D h' k (strValues ll) J' hl ?_
    rw [← hr, ← e]
    exact strsAre_of_values ll
  · rw [StrLaws.partsBetween_eq]
    have : ∀ (cuts : List Nat) a, (StrLaws.partsFrom x y.length a cuts).length = cuts.length + 1 := by
      intro cuts
      induction cuts with
      | nil => intro a; rfl
      | cons c r ih => intro a; show (StrLaws.partsFrom x y.length (c + y.length) r).length + 1 = _; rw [ih]; rfl
    rw [this]
    have := StrLaws.occ_length_le x y 0 x.length (x.length + 1)
    rw [sizeLine_eq]
    omega
end
/-! ## two lists of texts compared -/
theorem canLayAll0_strs : ∀ xs : List Str, (∀ x ∈ xs, PyData.strOk x = true) → PyData.canLayAll0 (xs.map PyData.str) = true
  | [], _ => by simp [PyData.canLayAll0]
  | n :: r, h => by simp [PyData.canLayAll0, PyData.canLay0, h n (.head _), canLayAll0_strs r fun x hx => h x (.tail _ hx)]
theorem depthAll_strs : ∀ xs : List Str, PyData.depthAll (xs.map PyData.str) ≤ 1
  | [] => by simp [PyData.depthAll]
  | n :: r => by
    have := depthAll_strs r
    simp only [List.map_cons, PyData.depthAll, PyData.depth]
    omega
theorem shaped_strs (xs : List Str) (h : ∀ x ∈ xs, PyData.strOk x = true) : PySem.SeqAt.shaped (.list (xs.map PyData.str)) = true := by
  have h1 := depthAll_strs xs
  have h2 : PyData.depth (.list (xs.map PyData.str)) ≤ 64 := by simp only [PyData.depth]; omega
  show (PyData.canLay0 (.list (xs.map PyData.str)) && decide (PyData.depth (.list (xs.map PyData.str)) ≤ 64)) = true
  rw [Bool.and_eq_true]
  exact ⟨by simp only [PyData.canLay0]; exact canLayAll0_strs xs h, decide_eq_true h2⟩
theorem noMix_strs : ∀ xs ys : List Str, PySem.SeqAt.noMixAll (xs.map PyData.str) (ys.map PyData.str) = true
  | [], [] => by simp [PySem.SeqAt.noMixAll]
  | [], _ :: _ => by simp [PySem.SeqAt.noMixAll]
  | _ :: _, [] => by simp [PySem.SeqAt.noMixAll]
  | _ :: r, _ :: q => by simp [PySem.SeqAt.noMixAll, PySem.SeqAt.noMix, noMix_strs r q]
theorem same_strs : ∀ xs : List Str, PySem.Spec.sameAll (xs.map PyData.str) (xs.map PyData.str) = true
  | [] => by simp [PySem.Spec.sameAll]
  | n :: r => by simp only [List.map_cons, PySem.Spec.sameAll, PySem.Spec.same, same_strs r]; simp
theorem reads_of_strs {h : Heap} {a : Addr} {vs : List Value} {xs : List Str} (hl : h.IsList a vs.toArray) (hi : StrsAre vs xs) : Reads h (.ref a) (.list (xs.map PyData.str)) [a] := by
  obtain ⟨o, ho, hc, n, hd⟩ := hl
  exact Reads.list ho hc hd (by simpa using strs_readAll h hi)
/-- two lists of the same texts -/
theorem f_nestrs {w : World} {A : Around} {E : Value → Shared → Prop} {s : Shared} {a b : Addr} {vs us : List Value} {xs : List Str} {Q : Value → Shared → Prop} (hl : s.heap.IsList a vs.toArray) (hi : StrsAre vs xs) (hl' : s.heap.IsList b us.toArray) (hi' : StrsAre us xs) (hu : A.units + 64 < cLine)
    (hok : ∀ x ∈ xs, PyData.strOk x = true) (h : Q (.bool false) s) : wpAny (model pg w) A (compareOp .NotEq (.ref a) (.ref b)) Q E s :=
  ne_dataH_same (reads_of_strs hl hi) (reads_of_strs hl' hi') (shaped_strs xs hok) (shaped_strs xs hok) hu (by simp only [PySem.SeqAt.noMix]; exact noMix_strs xs xs) (by simp only [PySem.Spec.same]; rw [same_strs]; exact h)
/-! ## a row as it is read -/
theorem slice_to1 (q : List Nat) : Txt.slice ⟨q.toArray⟩ none (some 1) = ⟨(q.take 1).toArray⟩ := by
  cases q with
  | nil => decide
  | cons c r =>
    have := eq_of_beq (slice_closes_toL (x := ⟨(c :: r).toArray⟩) (j := 1) (by decide) (by show (1 : Int) ≤ ((c :: r).toArray.size : Nat); simp; omega))
    rw [this]; simp
theorem slice_from1 (c : Nat) (r : List Nat) : Txt.slice ⟨(c :: r).toArray⟩ (some 1) none = ⟨r.toArray⟩ := by
  rw [slice_from_eq (x := ⟨(c :: r).toArray⟩) (i := 1) (b := ((c :: r).toArray.size : Nat)) (by decide) (by show (1 : Int) ≤ ((c :: r).toArray.size : Nat); simp; omega) rfl]
  congr 2
  simp
section
variable {w : World} {A : Around} {E : Value → Shared → Prop} {s : Shared} {x : Str} {t u : Tok} {Q : Value → Shared → Prop}
theorem s_to {value slice : Expr} {j : Int} {z : Str} (hz : Txt.slice x none (some j) = z) (hsz : x.length ≤ 1000) (h : ∀ h' t' k, (∀ b o, s.heap.get? b = some o → h'.get? b = some o) → Q (.str z t') { s with heap := h', toks := k })
    (hs : subscripted slice false (.str x t) (.ref s.heap.objs.size) = operate [.ref s.heap.objs.size, .str x t] (getItem (.str x t) (.ref s.heap.objs.size)) := by with_unfolding_all rfl) :
    wpAny (model pg w) A (subscriptTail value slice (.str x t) (.ref s.heap.objs.size)) Q E { s with heap := s.heap.push { cls := .type "slice", data := .fields #[.none, .int j u, .none] } } := by
  subst hz
  obtain ⟨T, id, a, b, c⟩ := SBH.sliceItem_ns (prog := pg) (w := w) (A := A) (E := E) (s := s) (x := x) (t := t) (j := j) (uj := u) (P := fun h => ∀ b o, s.heap.get? b = some o → h.get? b = some o) (Q := Q) (fun h ob k b o e => Heap.get?_push_of_some _ (k b o e)) (fun _ _ e => e) (fun h' t' k p => h h' t' k p) (by rw [sizeLine_eq]; omega)
  exact tail_any b a c hs
theorem s_from {value slice : Expr} {j : Int} {z : Str} (hz : Txt.slice x (some j) none = z) (hsz : x.length ≤ 1000) (h : ∀ h' t' k, (∀ b o, s.heap.get? b = some o → h'.get? b = some o) → Q (.str z t') { s with heap := h', toks := k })
    (hs : subscripted slice false (.str x t) (.ref s.heap.objs.size) = operate [.ref s.heap.objs.size, .str x t] (getItem (.str x t) (.ref s.heap.objs.size)) := by with_unfolding_all rfl) :
    wpAny (model pg w) A (subscriptTail value slice (.str x t) (.ref s.heap.objs.size)) Q E { s with heap := s.heap.push { cls := .type "slice", data := .fields #[.int j u, .none, .none] } } := by
  subst hz
  obtain ⟨T, id, a, b, c⟩ := SBH.sliceItem_sn (prog := pg) (w := w) (A := A) (E := E) (s := s) (x := x) (t := t) (i := j) (ui := u) (P := fun h => ∀ b o, s.heap.get? b = some o → h.get? b = some o) (Q := Q) (fun h ob k b o e => Heap.get?_push_of_some _ (k b o e)) (fun _ _ e => e) (fun h' t' k p => h h' t' k p) (by rw [sizeLine_eq]; omega)
  exact tail_any b a c hs
end
/-- what a row becomes -/
def RowF (v y : Value) : Prop := ∃ q t u, v = .str ⟨q⟩ t ∧ y = .str ⟨(und q.toList).toArray⟩ u
theorem rowF_strs : ∀ {vs ys : List Value} {rows : List (List Nat)}, Paired RowF vs ys → StrsAre vs (rows.map fun q => ⟨q.toArray⟩) → StrsAre ys ((rows.map und).map fun q => ⟨q.toArray⟩)
  | _, _, [], .nil, _ => .nil
  | _, _, r :: rows, .nil, h => nomatch h
  | _, _, [], .cons _ _, h => nomatch h
  | _, _, r :: rows, .cons hf hp, h => by
    obtain ⟨q, t, u, e1, e2⟩ := hf
    subst e1; subst e2
    cases h with
    | cons n t' h => exact .cons _ _ (rowF_strs hp h)
/-- every sign of the rows -/
theorem rows_all {p : Nat → Prop} {le : Str} (h46 : p 46) (hl : ∀ i, p (le.cps.toList.getD i 0)) : ∀ ts, ∀ q ∈ (rwT le ts).1 :: (rwT le ts).2, ∀ c ∈ q, p c
  | [], q, hq, c, hc => by simp [rwT] at hq; subst hq; simp at hc
  | .e :: r, q, hq, c, hc => by
    rcases List.mem_cons.mp hq with rfl | hq
    · simp [rwT] at hc
    · exact rows_all h46 hl r q hq c hc
  | .d :: r, q, hq, c, hm => by
    rcases List.mem_cons.mp hq with rfl | hq
    · rcases List.mem_cons.mp hm with rfl | hm
      · exact h46
      · exact rows_all h46 hl r _ (.head _) c hm
    · exact rows_all h46 hl r q (.tail _ hq) c hm
  | .l i :: r, q, hq, c, hm => by
    rcases List.mem_cons.mp hq with rfl | hq
    · rcases List.mem_cons.mp hm with rfl | hm
      · exact hl i
      · exact rows_all h46 hl r _ (.head _) c hm
    · exact rows_all h46 hl r q (.tail _ hq) c hm
theorem rows_len (le : Str) : ∀ ts, (rowsT le ts).length ≤ ts.length + 1
  | [] => by simp [rowsT, rwT]
  | .e :: r => by have := rows_len le r; simp [rowsT, rwT] at this ⊢; omega
  | .d :: r => by have := rows_len le r; simp [rowsT, rwT, hc] at this ⊢; omega
  | .l i :: r => by have := rows_len le r; simp [rowsT, rwT, hc] at this ⊢; omega
theorem snt_len : ∀ (ts : List Tk) (b : Bool), ts.length ≤ snt b ts
  | [], b => by simp
  | .e :: r, b => by
    have := snt_len r true
    have e : snt b (.e :: r) = 2 + snt true r := by cases b <;> rfl
    simp; omega
  | .d :: r, b => by
    have := snt_len r false
    have e : snt b (.d :: r) = cst b + snt false r := by cases b <;> rfl
    have c1 : 1 ≤ cst b := by unfold cst; split <;> omega
    simp; omega
  | .l i :: r, b => by
    have := snt_len r false
    have e : snt b (.l i :: r) = 1 + snt false r := by cases b <;> rfl
    simp; omega
theorem txt_len2 {en le : Str} (h : en.cps.size ≤ 2) : ∀ ts : List Tk, (txt en le ts).length ≤ 2 * ts.length
  | [] => by simp [txt]
  | .e :: r => by have := txt_len2 (le := le) h r; simp [txt]; omega
  | .d :: r => by have := txt_len2 (le := le) h r; simp [txt]; omega
  | .l i :: r => by have := txt_len2 (le := le) h r; simp [txt]; omega
end Mine
end
section
open PySem PySem.W PySem.W.X PyProof.Rows
set_option maxRecDepth 100000
set_option Elab.async false
set_option linter.unusedVariables false
set_option linter.unusedSimpArgs false
namespace Mine
noncomputable abbrev envW (w : World) (L : Addr) : Env := callEnvC (fdOf (hd.zo_154 w.params)) L 137
/-- a list's object -/
def LO (o : Obj) (vs : List Value) : Prop := o.cls = .type "list" ∧ ∃ n, o.data = .seq vs.toArray n
theorem In.lo {w : World} {h₀ h : Heap} {L a : Addr} {o : Obj} {vs : List Value} {l : List (Str × Value)} {own : List (Addr × Obj)} (J : In w h₀ L l own h) (hm : (a, o) ∈ own) (x : LO o vs) : h.IsList a vs.toArray := ⟨o, (J.own _ hm).1, x.1, x.2⟩
theorem strs_mem : ∀ {vs : List Value} {xs : List Str}, StrsAre vs xs → ∀ v ∈ vs, ∃ x t, x ∈ xs ∧ v = .str x t
  | _, _, .nil, v, hv => nomatch hv
  | _, _, .cons y t r, v, hv => by
    rcases List.mem_cons.mp hv with rfl | hv
    · exact ⟨y, t, .head _, rfl⟩
    · obtain ⟨x, t, a, b⟩ := strs_mem r v hv
      exact ⟨x, t, .tail _ a, b⟩
theorem cps_beq {x y : List Nat} : (x == y) = true ↔ x = y := beq_iff_eq
section
variable {w : World} {A : Around} {E : Value → Shared → Prop} {own : List (Addr × Obj)} {C : Addr} {s : Shared} {scope : Scope} {env : Env}
/-- one row, read -/
theorem row_elt {p1 p2 p3 p4 p5 p6 p7 p8 p9 p10 p11 p12 : Pos} {k1 k2 k3 : Nat} {cenv : Env} {v : Value} {rows : List (List Nat)} (J : In w {} C [(n_row, v)] own s.heap) (hv : ∃ (x : Str) (t : Tok), x ∈ rows.map (fun q => (⟨q.toArray⟩ : Str)) ∧ v = .str x t) (hr : ∀ q ∈ rows, q.length ≤ 1000)
    (hk : cenv.scope.kind = .function) (hl : cenv.kindOf n_row = some .local) (hL : cenv.locals = C) :
    wpAny (model pg w) A (eval (.IfExp (.Compare (.Subscript (.Name n_row p1) (.Slice none (some (.Constant (.int 1) k1 p2)) none p3) p4) [.Eq] [.Constant (.str ⟨⟨[46]⟩⟩) k2 p5] p6) (.Subscript (.Name n_row p7) (.Slice (some (.Constant (.int 1) k3 p8)) none none p9) p10) (.Name n_row p11) p12) cenv)
      (fun y s₄ => RowF v y ∧ Keeps s s₄) E s := by
  obtain ⟨x, t, hx, rfl⟩ := hv
  obtain ⟨q, hq, rfl⟩ := List.mem_map.mp hx
  have hql := hr q hq
  have hsz : (⟨q.toArray⟩ : Str).length ≤ 1000 := by show q.toArray.size ≤ _; rw [List.size_toArray]; exact hql
  refine IfExp_ (wpAny_isTrue_Compare1 (Subscript_ (r_name J rfl (wpAny_Slice (evalPart_none_step (evalPart_some_step (wpAny_Constant_int (evalPart_none_step ?_))))) hk hl hL)))
  refine s_to (s := { s with toks := s.toks + 1 }) (slice_to1 q) hsz ?_
  intro h1 t1 k k1
  refine Calls.Constant_str (PySem.P.eq_str (wpAny_truthy_bool ?_))
  show (if ((q.take 1 : List Nat) == [46]) then _ else _)
  have J1 := J.keepAll k1
  by_cases h46 : q.take 1 = [46]
  · rw [if_pos (cps_beq.mpr h46)]
    obtain ⟨c, r, rfl⟩ : ∃ c r, q = c :: r := by
      cases q with
      | nil => cases h46
      | cons c r => exact ⟨c, r, rfl⟩
    refine Subscript_ (r_name (s := { s with heap := h1, toks := k + 1 }) J1 rfl (wpAny_Slice (evalPart_some_step (wpAny_Constant_int (evalPart_none_step (evalPart_none_step ?_))))) hk hl hL)
    refine s_from (s := { s with heap := h1, toks := k + 1 + 1 }) (slice_from1 c r) hsz ?_
    intro h2 t2 k2 k2'
    refine ⟨⟨(c :: r).toArray, t, t2, rfl, ?_⟩, h2, k2, rfl, fun b o e => k2' b o (k1 b o e)⟩
    unfold und
    rw [if_pos (by simpa using h46)]
    rfl
  · rw [if_neg (fun z => h46 (cps_beq.mp z))]
    refine r_name (s := { s with heap := h1, toks := k + 1 }) J1 rfl ?_ hk hl hL
    refine ⟨⟨q.toArray, t, t, rfl, ?_⟩, h1, _, rfl, fun b o e => k1 b o e⟩
    unfold und
    rw [if_neg (by simpa using h46)]
end
end Mine
end
section
open PySem PySem.W PySem.W.X PyProof.Rows
set_option maxRecDepth 100000
set_option Elab.async false
set_option linter.unusedVariables false
set_option linter.unusedSimpArgs false
namespace Mine
section
variable {w : World} {A : Around} {E : Value → Shared → Prop} {h₀ hp : Heap} {g : Array GenState} {d : Drawn} {tk : Nat} {os : OsState} {L : Addr} {env : Env}
/-- a comprehension over a list, bound to a name -/
theorem f_compA {elt iter : Expr} {x y : Str} {px py : Pos} {scope : Scope} {cl : List (Str × Addr)} {pos spos : Pos} {F : Value → Value → Prop} {Q : Flow → Shared → Prop} (hh : A.handled = none)
    (hsw : swapsWith (.ListComp elt [⟨.Name x px, iter, [], 0⟩] scope pos) (some (.Name y py)) spos.line env = pure true)
    (hclos : closureFor scope env = pure cl) (hcell : ∀ y ∈ scope.names, y.2 ≠ .cell) (hkind : scope.kind = .function) (hnames : ∀ y ∈ scope.names, y.2 = .local → scope.names.lookup y.1 = some .local) (hx : scope.names.lookup x = some .local)
    (hy : env.kindOf y = some .local) (hp' : (env.scope.kind == .class || (env.scope.kind == .module && env.locals != env.globals)) = false) (hL : env.locals = L)
    (hs : ∀ x, foldedSetIterable iter env x = pure x)
    (h : wpAny (model pg w) A (eval iter env) (fun xv s₁ => ∃ a vs h' tk' l own, xv = .ref a ∧ s₁ = ⟨h', g, d, tk', os⟩ ∧ In w h₀ L l own h' ∧ h'.IsList a vs.toArray ∧ vs.length ≤ 1000000 ∧
      (∀ C v s₃ E', v ∈ vs → In w {} C [(x, v)] own s₃.heap → wpAny (model pg w) A (eval elt (compEnvC scope cl C env)) (fun y s₄ => F v y ∧ Keeps s₃ s₄) E' s₃) ∧
      (∀ D h' tk' ys n, In w h₀ L ((y, .ref D) :: l) ((D, lob ys n) :: own) h' → Paired F vs ys → Q .next ⟨h', g, d, tk', os⟩)) E ⟨hp, g, d, tk, os⟩) :
    wpAny (model pg w) A (exec (.Assign [.Name y py] (.ListComp elt [⟨.Name x px, iter, [], 0⟩] scope pos) spos) env) Q E ⟨hp, g, d, tk, os⟩ := by
  subst hL
  refine wpAny_Assign_ListComp_free (fun _ => true) F hsw hclos hcell hkind hnames hx hy hp' (wpAny_mono h ?_ fun _ _ e => e) hs
  rintro _ _ ⟨a, vs, h1, tk1, l, own, rfl, rfl, J, hl, hsz, he, hq⟩
  have hal : a < h1.objs.size := let ⟨_, e, _⟩ := hl; Heap.lt_size e
  refine wpAny_pyIter_list (s := ⟨h1, g, d, tk1, os⟩) hl ?_
  obtain ⟨m, hn, Hm⟩ := J.ns
  have hlt := J.lt
  refine ⟨h1.objs.size, _, _, vs.toArray.size, _, _, m, rfl, Walks.list hh _ a (Nat.ne_of_lt hal) vs.toArray, by rw [List.size_toArray, sizeLine_eq]; omega, ⟨⟨_, Heap.get?_push_size _ rfl, rfl, rfl⟩, hl.push _⟩, ?_, ?_, hn.push _, ?_, ?_⟩
  · intro b hb
    have hs : (h1.push { cls := .type "list_iterator", data := .fields #[.ref a, .int 0 0] }).objs.size = h1.objs.size + 1 := Heap.size_push ..
    show b < (h1.push { cls := .type "list_iterator", data := .fields #[.ref a, .int 0 0] }).objs.size
    rw [hs]
    rcases List.mem_cons.mp hb with rfl | hb
    · exact Nat.lt_succ_self _
    · rw [List.mem_singleton.mp hb]; exact Nat.lt_succ_of_lt hal
  · intro hm; have := List.mem_singleton.mp hm; exact absurd this (Nat.ne_of_lt hlt)
  · refine ⟨fun C i v s₃ m₃ E' hC hP hn₃ hm₃ hk htk => pu_any ⟨rfl, s₃.heap, s₃.toks, rfl, fun _ _ e => e⟩, fun C i v s₃ m₃ E' hC hP _ hn₃ hm₃ hk htk => ?_⟩
    have k3 : ∀ b o, h1.get? b = some o → s₃.heap.get? b = some o := fun b o e => hk b o (fun hm => by have := List.mem_singleton.mp hm; exact absurd (Heap.lt_size e) (by rw [this]; exact Nat.lt_irrefl _)) (Heap.get?_push_of_some _ e)
    have hC' : h1.objs.size + 1 ≤ C := by
      have hs : (h1.push { cls := .type "list_iterator", data := .fields #[.ref a, .int 0 0] }).objs.size = h1.objs.size + 1 := Heap.size_push ..
      rw [← hs]; exact hC
    have h138 := J.lp.size
    refine he C v s₃ E' ?_ (In.read (J.lp.keeps k3) hn₃ (fun z u hx => ?_) (Nat.le_trans h138 (Nat.le_of_succ_le hC')) fun p hp' => ?_)
    · exact List.mem_of_getElem? (i := i) (by simpa using hP)
    · unfold lkp at hx
      split at hx
      · rename_i q; rw [sq_iff.mp q]; cases hx; exact hm₃
      · cases hx
    · have e := J.own p hp'
      exact ⟨k3 _ _ e.1, Nat.ne_of_lt (Nat.lt_of_lt_of_le (Nat.lt_succ_of_lt (Heap.lt_size e.1)) hC'), e.2.2⟩
  · intro D h' tk' ys us hD hlD hpl hlen hP hF hns hk
    have hk' : ∀ b o, b ≠ env.locals → h1.get? b = some o → h'.get? b = some o := fun b o hb e => hk b o hb (fun hm => by have := List.mem_singleton.mp hm; exact absurd (Heap.lt_size e) (by rw [this]; exact Nat.lt_irrefl _)) (Heap.get?_push_of_some _ e)
    obtain ⟨n, e⟩ := hpl
    have eu : us = vs := by
      apply List.ext_getElem?
      intro i
      by_cases hi : i < us.length
      · have := hP i us[i] (List.getElem?_eq_getElem hi)
        rw [List.getElem?_eq_getElem hi, ← this]; simp
      · rw [List.getElem?_eq_none (by omega), List.getElem?_eq_none (by rw [List.size_toArray] at hlen; omega)]
    subst eu
    rw [List.filter_eq_self.mpr (fun _ _ => rfl)] at hF
    have hDL : D ≠ env.locals := by
      rintro rfl
      obtain ⟨o, es, ep, ho, _⟩ := hn
      have := (Heap.get?_push_of_some { cls := .type "list_iterator", data := .fields #[.ref a, .int 0 0] } ho)
      exact absurd (hD.symm.trans this) (fun z => nomatch z)
    have hDT := (J.lp.push { cls := .type "list_iterator", data := .fields #[.ref a, .int 0 0] }).fresh hD
    refine hq D h' tk' ys.toList n ((J.after (l' := (y, .ref D) :: l) hk' hns (Hm.put _ _)).more (a := D) (by rw [e]) hDL hDT) hF
end
end Mine
end
section
open PySem PySem.W PySem.W.X PyProof.Rows
set_option maxRecDepth 100000
set_option Elab.async false
set_option linter.unusedVariables false
set_option linter.unusedSimpArgs false
namespace Mine
/-- what the activation of law holds when the loop begins -/
structure LawB (L : Addr) (H M ps : List Int) (Df Dm Di Dd Dp : Addr) (bo : List (Addr × Obj)) : Prop where
  cell : ∃ oc, (L + 1, oc) ∈ bo ∧ oc.data = .cell (some (.ref Dd))
  front : ∃ o vs, (Df, o) ∈ bo ∧ LO o vs ∧ IntsAre vs H
  middle : ∃ o vs, (Dm, o) ∈ bo ∧ LO o vs ∧ IntsAre vs M
  mids : ∃ o vs, (Di, o) ∈ bo ∧ LO o vs ∧ IntsAre vs M
  heads : ∃ o vs, (Dd, o) ∈ bo ∧ LO o vs ∧ IntsAre vs H
  places : ∃ o vs, (Dp, o) ∈ bo ∧ LO o vs ∧ IntsAre vs ps
abbrev LL (Df Dm Di Dp Dh : Addr) (le en : Str) (t2 t3 : Tok) : List (Str × Value) :=
  [(n_heard, .ref Dh), (n_places, .ref Dp), (n_mids, .ref Di), (n_middle, .ref Dm), (n_front, .ref Df), (n_letters, .str le t2), (n_end, .str en t3)]
abbrev ho (hs : List Hd) : List (Addr × Obj) := hs.map fun q => (q.a, q.o)
abbrev hr (hs : List Hd) : List Value := hs.map fun q => Value.ref q.a
theorem toks_len {k : Nat} {ts : List Tk} {b : Bool} (h : snt b ts ≤ 7) : ts.length ≤ 7 := Nat.le_trans (snt_len ts b) h
theorem f_tupO {w : World} {A : Around} {E : Value → Shared → Prop} {h₀ hp : Heap} {g : Array GenState} {d : Drawn} {tk : Nat} {os : OsState} {L : Addr} {l : List (Str × Value)} {own : List (Addr × Obj)} {Q : Value → Shared → Prop} {vs : List Value} (J : In w h₀ L l own hp) (hsz : vs.length ≤ 1000000)
    (h : ∀ h' a o, hp.objs.size ≤ a → o.cls = .type "tuple" → (∃ n, o.data = .seq vs.toArray n) → In w h₀ L l ((a, o) :: own) h' → Q (.ref a) ⟨h', g, d, tk, os⟩) :
    wpAny (model pg w) A (newTuple vs) Q E ⟨hp, g, d, tk, os⟩ := f_tupC J hsz fun h' a ha J => h h' a _ ha rfl ⟨_, rfl⟩ J
theorem strs_length : ∀ {vs : List Value} {xs : List Str}, StrsAre vs xs → vs.length = xs.length
  | _, _, .nil => rfl
  | _, _, .cons _ _ r => by simp [strs_length r]
theorem en_len {en : Str} (h : EnOk en) : (en.length == 0) = false := by
  have : en.length = en.cps.toList.length := by simp [Str.length]
  rcases h with e | e | e <;> rw [this, e] <;> rfl
theorem rowsW_len (le : Str) (ts : List Tk) : (rowsW le ts).length ≤ ts.length + 1 := by
  have : ∀ (ts : List Tk) (b : Bool), (rwW le b ts).2.length ≤ ts.length := by
    intro ts
    induction ts with
    | nil => intro b; cases b <;> simp [rwW]
    | cons t r ih =>
      intro b
      have h1 := ih true
      have h2 := ih false
      cases t <;> cases b <;> simp [rwW, hc] <;> omega
  have := this ts true
  simp [rowsW]; omega
theorem hrows {le : Str} {ts : List Tk} (h : snt true ts ≤ 7) : ∀ q ∈ rowsW le ts, q.length ≤ 1000 := by
  have key : ∀ (ts : List Tk) (b : Bool), ∀ q ∈ (rwW le b ts).1 :: (rwW le b ts).2, q.length ≤ snt b ts := by
    intro ts
    induction ts with
    | nil => intro b q hq; cases b <;> (simp [rwW] at hq; subst hq; simp)
    | cons t r ih =>
      intro b q hq
      have h1 := ih true
      have h2 := ih false
      cases t with
      | e =>
        have e1 : rwW le b (.e :: r) = ([], (rwW le true r).1 :: (rwW le true r).2) := by cases b <;> rfl
        have e2 : snt b (.e :: r) = 2 + snt true r := by cases b <;> rfl
        rw [e1] at hq
        rcases List.mem_cons.mp hq with rfl | hq
        · simp
        · have := h1 q hq; omega
      | d =>
        have e2 : snt b (.d :: r) = cst b + snt false r := by cases b <;> rfl
        have e3 := h2 _ (.head _)
        cases b with
        | true =>
          rcases List.mem_cons.mp hq with rfl | hq
          · rw [e2]; simp [rwW, hc, cst]; omega
          · have := h2 q (.tail _ hq); rw [e2]; omega
        | false =>
          rcases List.mem_cons.mp hq with rfl | hq
          · rw [e2]; simp [rwW, hc, cst]; omega
          · have := h2 q (.tail _ hq); rw [e2]; omega
      | l i =>
        have e1 : rwW le b (.l i :: r) = hc (le.cps.toList.getD i 0) (rwW le false r) := by cases b <;> rfl
        have e2 : snt b (.l i :: r) = 1 + snt false r := by cases b <;> rfl
        have e3 := h2 _ (.head _)
        rw [e1] at hq
        rcases List.mem_cons.mp hq with rfl | hq
        · rw [e2]; simp [hc]; omega
        · have := h2 q (.tail _ hq); omega
  intro q hq
  have := key ts true q hq; omega
set_option maxHeartbeats 4000000
theorem law_loop {w : World} {A : Around} (hA : Rm A 40) {h₀ : Heap} {L I Df Dm Di Dd Dp Dh : Addr} {le en : Str} {t2 t3 : Tok} {H M : List Int} {k : Nat} (G : Good H M k) (U : LeUp le k) (hle : le.cps.size = k) (hlo : LeOk le) (hlb : ∀ i, le.cps.toList.getD i 0 < 0x110000) (hfo : FindOk le k) (he : EnOk en)
    {ps : List Int} (hps : ∀ i, i < ps.length → 0 ≤ ps.getD i 0 ∧ ps.getD i 0 < pre H 8) (hpl : ps.length ≤ 1000) {bo : List (Addr × Obj)} (B : LawB L H M ps Df Dm Di Dd Dp bo) (hbI : ∀ p ∈ bo, p.1 ≠ I) (hbD : ∀ p ∈ bo, p.1 ≠ Dh)
    (hI : 138 ≤ I) (hI0 : h₀.objs.size ≤ I) (hD : 138 ≤ Dh) (hD0 : h₀.objs.size ≤ Dh) (hDI : Dh < I)
    {R : Result → Shared → Prop} {g : Array GenState} {d : Drawn} {os : OsState}
    (hend : ∀ h' tk hs kh, hs.length = ps.length → (∀ q ∈ hs, HdOk H M k le q) → hs.map (fun q => plc H M q.ts) = ps → In w h₀ L [(n_heard, .ref Dh), (n_places, .ref Dp)] ((Dh, lob (hr hs) kh) :: (ho hs ++ bo)) h' → R (.ok .next) ⟨h', g, d, tk, os⟩)
    {h : Heap} {tk : Nat} {o : Obj} {kh : Nat} (hit : Lit o Dp 0) (J : In w h₀ L (LL Df Dm Di Dp Dh le en t2 t3) ((I, o) :: (Dh, lob [] kh) :: bo) h) :
    codeAny (model pg w) A (.forLoop (foT (bdOf (hd.zo_154 w.params))) (.ref I) (foB (bdOf (hd.zo_154 w.params))) [] (envW w L)) R ⟨h, g, d, tk, os⟩ := by
  refine codeAny_forLoop (fun m s' => ∃ h' tk j hs o kh, s' = ⟨h', g, d, tk, os⟩ ∧ j ≤ ps.length ∧ m = ps.length - j ∧ Lit o Dp j ∧ hs.length = j ∧ (∀ q ∈ hs, HdOk H M k le q) ∧ hs.map (fun q => plc H M q.ts) = ps.take j ∧ (∀ q ∈ hs, I < q.a) ∧
    In w h₀ L (LL Df Dm Di Dp Dh le en t2 t3) ((I, o) :: (Dh, lob (hr hs) kh) :: (ho hs ++ bo)) h') ?_ ps.length
    ⟨h, tk, 0, [], o, kh, rfl, by omega, by omega, hit, rfl, fun _ h => (nomatch h), by simp, fun _ h => (nomatch h), J⟩
  clear J hit kh o tk h
  rintro m _ ⟨h, tk, j, hs, o, kh, rfl, hj, hmj, hit, hsl, hok, hpc, hqI, J⟩
  obtain ⟨oc, hmc, hdc⟩ := B.cell
  obtain ⟨of, fv, hmf, hof, hfi⟩ := B.front
  obtain ⟨om, mv, hmm, hom, hmi⟩ := B.middle
  obtain ⟨oi, iv, hmd, hoi, hii⟩ := B.mids
  obtain ⟨od, dv, hmh, hod, hdi⟩ := B.heads
  obtain ⟨op, pv, hmp, hop, hpi⟩ := B.places
  have hoI : ∀ p ∈ ((Dh, lob (hr hs) kh) :: (ho hs ++ bo)), p.1 ≠ I := ne_cons (Nat.ne_of_lt hDI) fun p hp => by
    rcases List.mem_append.mp hp with hp | hp
    · obtain ⟨q, hq, rfl⟩ := List.mem_map.mp hp
      exact Nat.ne_of_gt (hqI q hq)
    · exact hbI p hp
  have inb : ∀ {x : Addr × Obj} {y : Addr × Obj}, x ∈ bo → x ∈ y :: (Dh, lob (hr hs) kh) :: (ho hs ++ bo) := fun hx => .tail _ (.tail _ (List.mem_append_right _ hx))
  have hpvl : pv.length = ps.length := IntsAre.length hpi
  by_cases hlt : j < ps.length
  rotate_left
  · have e : j = ps.length := by omega
    refine f_lend hA.hd J hI hI0 hoI hit (J.lo (inb hmp) hop) (List.getElem?_eq_none (by omega)) ?_
    intro h1 J
    refine wpAny_execs_nil (hend _ _ hs kh (by omega) hok (by rw [hpc, e, List.take_of_length_le (Nat.le_refl _)]) (J.has fun m H => H.c rfl (H.c rfl .n)))
  obtain ⟨tp, ep⟩ := ints_get hpi hlt
  obtain ⟨p0, p1⟩ := hps j hlt
  refine f_lnext J hI hI0 hoI hit (J.lo (inb hmp) hop) ep ?_
  intro h1 o1 hit1 J
  refine wpAny_assign_Name (f_store J ?_)
  intro h2 J
  generalize hP : ps.getD j 0 = place at *
  -- the text
  refine wpAny_execs_cons (wpAny_Assign_Name (wpAny_Call_NameR (r_glob J rfl (f_callee (o := hd.zo_142 w.params) (fd := fdOf (hd.zo_142 w.params)) rfl (Calls.spliced_cons (r_name J rfl (Calls.spliced_cons (r_cell J rfl (inb hmc) hdc (Calls.spliced_cons (r_name J rfl (Calls.spliced_cons (r_name J rfl (Calls.spliced_cons (r_name J rfl (Calls.spliced_nil ⟨J.lp.k 125 _ rfl, ?_⟩)))))))))))))))
  have hen : en.cps.size ≤ 2 := by rw [← Array.length_toList]; rcases he with e | e | e <;> rw [e] <;> decide
  refine text_spec (div_spec w) J.lp (hA.le (by decide)) (J.lo (inb hmh) hod) hdi (J.lo (inb hmd) hoi) hii G hen hle p0 p1 ?_
  intro room h3 tk3 u3 hroom lo up k3 P3
  have J := J.grow k3 P3
  obtain ⟨a1, a2, a3⟩ := toks_all G room true (place - pre H room) hroom (by omega) (by have := pre_succ G hroom; simp only [cnt, if_true]; omega)
  generalize toks H M 8 true room (place - pre H room) = ts at *
  have hs7 : snt true ts ≤ 7 := by omega
  have hplc : plc H M ts = place := by unfold plc; rw [a1, a2]; omega
  have htl := toks_len (k := k) hs7
  refine f_store J ?_
  intro h4 J
  -- what is sent
  refine wpAny_execs_cons (wpAny_Assign_Name (wpAny_Call_NameR (r_glob J rfl (f_callee (o := hd.zo_116 w.params) (fd := fdOf (hd.zo_116 w.params)) rfl (Calls.spliced_cons (r_name J rfl (Calls.spliced_nil ⟨J.lp.k 99 _ rfl, ?_⟩)))))))
  refine quote_spec J.lp hA he hlo (by omega) ?_
  intro h5 tk5 u5 k5 P5
  have J := J.grow k5 P5
  refine f_store J ?_
  intro h6 J
  -- the place of what is sent
  refine wpAny_execs_cons (wpAny_If (wpAny_isTrue_Compare1 (wpAny_Call_NameR (r_glob J rfl (f_callee (o := hd.zo_149 w.params) (fd := fdOf (hd.zo_149 w.params)) rfl (Calls.spliced_cons (r_name J rfl (Calls.spliced_cons (r_name J rfl (Calls.spliced_cons (r_name J rfl (Calls.spliced_cons (r_name J rfl (Calls.spliced_nil ⟨J.lp.k 132 _ rfl, ?_⟩))))))))))))))
  refine place_spec J.lp (hA.le (n := 40) (m := 39 + 1) (by decide)) G hle hlo hfo (J.lo (inb hmf) hof) hfi (J.lo (inb hmm) hom) hmi a3 hs7 ?_
  rw [show pre H (snt true ts) + rnk H M true ts = place from hplc]
  intro u7 h7 tk7 k7 P7
  have J := J.grow k7 P7
  refine r_name J rfl (PyProof.Rows.ne_int (wpAny_truthy_bool ?_))
  rw [if_neg (by simp)]
  refine wpAny_execs_nil ?_
  -- the rows
  have hwl := wr_len le ts true
  have hrw : ∀ q ∈ rowsW le ts, q.length ≤ 1000 := hrows hs7
  refine wpAny_execs_cons (wpAny_If (wpAny_isTrue_Compare1 (f_comp (h₀ := h₀) (L := L) (x := n_row) (F := RowF) hA.hd rfl (by decide) rfl (by decide) rfl (fun _ => rfl) ?_)))
  refine MethodCall_ (r_name J rfl (getMethod_split (callWith_method1 (Calls.spliced_cons (f_strc (k := 0) (pos := default) (Calls.spliced_nil ?_))))))
  refine f_split (rows := rowsW le ts) J rfl (by show (wr le true ts).toArray.size ≤ _; rw [List.size_toArray]; omega) (split_W hlo ts) (by have := rowsW_len le ts; omega) ?_
  intro a8 h8 tk8 vs8 J hl8 hi8
  refine ⟨a8, vs8, h8, tk8, _, _, rfl, rfl, J, hl8, ?_, ?_, ?_⟩
  · have := strs_length hi8; rw [List.length_map] at this; have := rowsW_len le ts; omega
  · intro C v s₃ E' hv J3
    exact row_elt J3 (strs_mem hi8 v hv) hrw rfl rfl rfl
  intro D9 h9 tk9 ys n9 J hF
  have hi9 := rowF_strs hF hi8
  rw [und_rows hlo ts] at hi9
  refine MethodCall_ (r_name J rfl (getMethod_split (callWith_method1 (Calls.spliced_cons (r_name J rfl (Calls.spliced_nil ?_))))))
  refine f_split (rows := rowsT le ts) J (en_len he) (by show (txt en le ts).toArray.size ≤ _; rw [List.size_toArray]; have := txt_len2 (le := le) hen ts; omega) (split_T hlo he ts) (by have := rows_len le ts; omega) ?_
  intro a10 h10 tk10 vs10 J hl10 hi10
  have hl9 : h10.IsList D9 ys.toArray := ⟨_, (J.own _ (.head _)).1, rfl, _, rfl⟩
  refine f_nestrs (s := ⟨h10, g, d, tk10, os⟩) hl9 hi9 hl10 hi10 (by have := hA.un; omega) ?_ (wpAny_truthy_bool ?_)
  · intro x hx
    obtain ⟨q, hq, rfl⟩ := List.mem_map.mp hx
    have := rows_all (p := fun c => c < 0x110000) (le := le) (by decide) hlb ts q hq
    show (q.toArray).all (· < 0x110000) = true
    simpa using this
  rw [if_neg (by simp)]
  refine wpAny_execs_nil ?_
  -- it is heard
  have J : In w h₀ L _ ((Dh, lob (hr hs) kh) :: (I, o1) :: (ho hs ++ bo)) h10 := J.sub fun p hp => by
    rcases List.mem_cons.mp hp with rfl | hp
    · exact .tail _ (.tail _ (.head _))
    · rcases List.mem_cons.mp hp with rfl | hp
      · exact .tail _ (.head _)
      · exact .tail _ (.tail _ (.tail _ hp))
  have bI := Heap.lt_size (J.own _ (.tail _ (.head _))).1
  refine wpAny_execs_cons (wpAny_Expr (MethodCall_ (r_name J rfl (Calls.getMethod_list_append (J.own _ (.head _)).1 rfl rfl (callWith_method1 (Calls.spliced_cons ?_))))))
  refine Tuple_ (k := 0) (Calls.spliced_cons (wpAny_Call_NameR (r_built J rfl rfl (PyProof.Rows.callWith_builtin1 (Calls.spliced_cons (r_name J rfl (Calls.spliced_nil (f_lens (by rw [List.size_toArray]; omega) ?_))))))))
  intro tk11
  rw [show (({ cps := (wr le true ts).toArray } : Str).cps.size) = snt true ts by rw [← hwl]; exact List.size_toArray]
  refine Calls.spliced_cons (r_name J rfl (Calls.spliced_cons (r_name J rfl (Calls.spliced_nil (f_tupO J (show (3 : Nat) ≤ 1000000 by decide) ?_)))))
  intro h12 a12 o12 ha12 c12 d12 J
  have hIa : I < a12 := Nat.lt_of_lt_of_le bI ha12
  have J := J.swap1
  refine Calls.spliced_nil (f_append J hD hD0 (ne_cons (Nat.ne_of_gt (Nat.lt_trans hDI hIa)) (ne_cons (Nat.ne_of_gt hDI) fun p hp => ?_)) (by simp [hsl]; omega) ?_)
  · rcases List.mem_append.mp hp with hp | hp
    · obtain ⟨q, hq, rfl⟩ := List.mem_map.mp hp
      exact Nat.ne_of_gt (Nat.lt_trans hDI (hqI q hq))
    · exact hbD p hp
  intro h13 kh13 J
  have e1 : hr (hs ++ [⟨a12, o12, ts⟩]) = hr hs ++ [.ref a12] := List.map_append ..
  refine wpAny_execs_nil ⟨ps.length - (j + 1), by omega, h13, _, j + 1, hs ++ [⟨a12, o12, ts⟩], o1, kh13, rfl, by omega, rfl, hit1, by simp [hsl], ?_, ?_, ?_, ?_⟩
  · intro q hq
    rcases List.mem_append.mp hq with hq | hq
    · exact hok q hq
    · rw [List.mem_singleton.mp hq]
      obtain ⟨n12, d12⟩ := d12
      rw [← hplc] at d12
      exact ⟨a3, hs7, c12, _, _, _, _, d12⟩
  · rw [List.map_append, hpc, take_snoc ps hlt, hP]
    show _ ++ [plc H M ts] = _
    rw [hplc]
  · intro q hq
    rcases List.mem_append.mp hq with hq | hq
    · exact hqI q hq
    · rw [List.mem_singleton.mp hq]; exact hIa
  · rw [e1]
    refine (J.has fun m H => H.c rfl (H.c rfl (H.c rfl (H.c rfl (H.c rfl (H.c rfl (H.c rfl .n))))))).sub fun p hp => ?_
    rcases List.mem_cons.mp hp with rfl | hp
    · exact .tail _ (.tail _ (.head _))
    · rcases List.mem_cons.mp hp with rfl | hp
      · exact .head _
      · rcases List.mem_append.mp hp with hp | hp
        · obtain ⟨q, hq, rfl⟩ := List.mem_map.mp hp
          rcases List.mem_append.mp hq with hq | hq
          · exact .tail _ (.tail _ (.tail _ (List.mem_append_left _ (List.mem_map_of_mem hq))))
          · rw [List.mem_singleton.mp hq]
            exact .tail _ (.head _)
        · exact .tail _ (.tail _ (.tail _ (List.mem_append_right _ hp)))
end Mine
end
section
open PySem PySem.W PySem.W.X PyProof.Rows
set_option maxRecDepth 100000
set_option Elab.async false
set_option linter.unusedVariables false
set_option linter.unusedSimpArgs false
namespace Mine
/-! ## plain: ends, letters, places -/
def enOf (r : Int) : Str := if r = 0 then ⟨#[10]⟩ else if r = 1 then ⟨#[13]⟩ else ⟨#[13, 10]⟩
theorem enOf_ok (r : Int) : EnOk (enOf r) := by
  unfold enOf EnOk
  split
  · exact .inl rfl
  · split
    · exact .inr (.inl rfl)
    · exact .inr (.inr rfl)
def leOf (k : Nat) : Str := if k = 1 then ⟨#[65]⟩ else ⟨#[65, 122]⟩
theorem leOf_get {k : Nat} (i : Nat) : (leOf k).cps.toList.getD i 0 = 65 ∨ (leOf k).cps.toList.getD i 0 = 122 ∨ (leOf k).cps.toList.getD i 0 = 0 := by
  unfold leOf
  split
  · match i with
    | 0 => exact .inl rfl
    | n + 1 => exact .inr (.inr rfl)
  · match i with
    | 0 => exact .inl rfl
    | 1 => exact .inr (.inl rfl)
    | n + 2 => exact .inr (.inr rfl)
theorem leOf_ok {k : Nat} : LeOk (leOf k) := fun i => by rcases leOf_get (k := k) i with e | e | e <;> rw [e] <;> decide
theorem leOf_lb {k : Nat} : ∀ i, (leOf k).cps.toList.getD i 0 < 0x110000 := fun i => by rcases leOf_get (k := k) i with e | e | e <;> rw [e] <;> decide
theorem leOf_size {k : Nat} (h : k = 1 ∨ k = 2) : (leOf k).cps.size = k := by rcases h with rfl | rfl <;> rfl
theorem leOf_find {k : Nat} (h : k = 1 ∨ k = 2) : FindOk (leOf k) k := by
  rcases h with rfl | rfl
  · intro i hi
    obtain rfl : i = 0 := by omega
    decide +kernel
  · intro i hi
    rcases (show i = 0 ∨ i = 1 by omega) with rfl | rfl <;> decide +kernel
theorem leOf_up {k : Nat} (h : k = 1 ∨ k = 2) : LeUp (leOf k) k := by
  rcases h with rfl | rfl
  · exact ⟨by decide, fun i j hi hj h => by omega⟩
  · refine ⟨by decide, fun i j hi hj h => ?_⟩
    obtain rfl : i = 0 := by omega
    obtain rfl : j = 1 := by omega
    decide
theorem leOf_slice {k : Nat} (h : k = 1 ∨ k = 2) : Txt.slice ⟨#[65, 122]⟩ none (some (k : Int)) = leOf k := by rcases h with rfl | rfl <;> decide +kernel
theorem pre8_pos {k : Nat} (h : k = 1 ∨ k = 2) : 0 < pre (HT k) 8 := by rcases h with rfl | rfl <;> decide
theorem pre8_sum {k : Nat} (h : k = 1 ∨ k = 2) : (HT k).sum = pre (HT k) 8 := by rcases h with rfl | rfl <;> rfl
/-! ## rules -/
section
variable {w : World} {A : Around} {E : Value → Shared → Prop} {h₀ hp : Heap} {g : Array GenState} {d : Drawn} {tk : Nat} {os : OsState} {L : Addr} {l : List (Str × Value)} {own : List (Addr × Obj)} {env : Env} {Q : Value → Shared → Prop} {a b : Int} {t u : Tok}
/-- a slice up to a place that may lie past the end -/
theorem f_uptoW {value slice : Expr} {l : Addr} {vs : List Value} {xs : List Int} {n : Int} {u : Tok} (hl : hp.IsList l vs.toArray) (hi : IntsAre vs xs) (h0 : 0 ≤ n) (h2 : n ≤ 1000) (hsz : xs.length ≤ 1000)
    (h : ∀ a h' ws, (∀ b o, hp.get? b = some o → h'.get? b = some o) → h'.IsList a ws.toArray → IntsAre ws (xs.take n.toNat) → hp.objs.size ≤ a → Q (.ref a) ⟨h', g, d, tk, os⟩)
    (hs : subscripted slice false (.ref l) (.ref hp.objs.size) = operate [.ref hp.objs.size, .ref l] (getItem (.ref l) (.ref hp.objs.size)) := by with_unfolding_all rfl)
    (ht : ∀ r, letTemporaryGo value (.ref l) r = pure () := by intro _; with_unfolding_all rfl) :
    wpAny (model pg w) A (subscriptTail value slice (.ref l) (.ref hp.objs.size)) Q E ⟨hp.push { cls := .type "slice", data := .fields #[.none, .int n u, .none] }, g, d, tk, os⟩ := by
  refine subscriptTail_ops (Heap.IsList.typeIs (s := ⟨hp.push { cls := .type "slice", data := .fields #[.none, .int n u, .none] }, g, d, tk, os⟩) (hl.push _)) list_getitem_lookup
    (wpAny_getItem_list_slice (hl.push _) (Heap.IsSliceOf.new ..) .none (.int _ _) .none (by simp) ?_ (by rw [List.size_toArray, IntsAre.length hi, sizeLine_eq]; omega)) hs ht
  refine h _ _ (slicePick vs.toArray none (some n) none).toList (fun b o e => Heap.get?_push_of_some _ (Heap.get?_push_of_some _ e)) ?_ (slice_ints_uptoW hi h0) ?_
  · exact ⟨_, Heap.get?_push_size _ rfl, rfl, _, rfl⟩
  · show hp.objs.size ≤ (hp.push _).objs.size
    rw [Heap.size_push]; exact Nat.le_succ _
/-- two lists of ints, one behind the other -/
theorem f_addl {c e : Addr} {vs us : List Value} {xs ys : List Int} (J : In w h₀ L l own hp) (hl : hp.IsList c vs.toArray) (hi : IntsAre vs xs) (hl' : hp.IsList e us.toArray) (hi' : IntsAre us ys) (hsz : xs.length + ys.length ≤ 10000)
    (h : ∀ h' a, In w h₀ L l ((a, { cls := .type "list", data := .seq (vs ++ us).toArray }) :: own) h' → IntsAre (vs ++ us) (xs ++ ys) → Q (.ref a) ⟨h', g, d, tk, os⟩) :
    wpAny (model pg w) A (binaryOp .Add (.ref c) (.ref e)) Q E ⟨hp, g, d, tk, os⟩ := by
  obtain ⟨m, hn, hm⟩ := J.ns
  refine add_lists_ints (s := ⟨hp, g, d, tk, os⟩) (fr_of hn) (allN_news hp L) hl hl' hi hi' ?_ (by rw [sizeLine_eq]; omega)
  intro h' F N hI
  exact h h' _ (J.back1 hm J.lp.size F N) hI
theorem In.moreL {D : Addr} {vs : List Value} (J : In w h₀ L l own hp) (hl : hp.IsList D vs.toArray) (hD : L < D) : ∃ o, LO o vs ∧ In w h₀ L l ((D, o) :: own) hp := by
  obtain ⟨o, e, hc, hd⟩ := hl
  have h138 : 138 ≤ D := Nat.le_trans J.low (Nat.le_of_lt hD)
  exact ⟨o, ⟨hc, hd⟩, J.more e (Nat.ne_of_gt hD) ⟨ne47 h138, ne54 h138⟩⟩
end
theorem paired_mod {S : Int} : ∀ {vs ys : List Value} {xs : List Int}, Paired (fun (v y : Value) => ∃ (n : Int) (t u : Tok), v = .int n t ∧ y = .int (n.fmod S) u) vs ys → IntsAre vs xs → IntsAre ys (xs.map fun x => x.fmod S)
  | [], _, _, h, hi => by cases h; cases hi; exact .nil
  | v :: vs, _, _, h, hi => by
    cases hi with
    | cons n t hi =>
      cases h with
      | cons hF hr =>
        obtain ⟨n', t', u, e1, e2⟩ := hF
        cases e1; subst e2
        exact .cons _ _ (paired_mod hr hi)
theorem mod_bd {S : Int} (hS : 0 < S) (xs : List Int) {i : Nat} (h : i < (xs.map fun x => x.fmod S).length) : 0 ≤ (xs.map fun x => x.fmod S).getD i 0 ∧ (xs.map fun x => x.fmod S).getD i 0 < S := by
  rw [List.getD_eq_getElem?_getD, List.getElem?_eq_getElem h]
  simp only [List.getElem_map, Option.getD_some]
  rw [Int.fmod_eq_emod_of_nonneg _ (by omega)]
  exact ⟨Int.emod_nonneg _ (by omega), Int.emod_lt_of_pos _ hS⟩
theorem paired_pick {ps : List Int} {hs : List Hd} {F : Value → Value → Prop} (hF : ∀ i, i < hs.length → ∀ y, F ((hr hs).getD i .none) y → ∃ u, y = .int (ps.getD i 0) u) : ∀ (p : List Nat) {ys : List Value}, (∀ i ∈ p, i < hs.length) → Paired F (p.map fun i => (hr hs).getD i .none) ys → IntsAre ys (p.map fun i => ps.getD i 0)
  | [], ys, _, h => by cases h; exact .nil
  | i :: p, ys, hp, h => by
    cases h with
    | cons a b =>
      obtain ⟨u, rfl⟩ := hF i (hp i (.head _)) _ a
      exact .cons _ _ (paired_pick hF p (fun j hj => hp j (.tail _ hj)) b)
end Mine
end
section
open PySem PySem.W PySem.W.X PyProof.Rows
set_option maxRecDepth 100000
set_option Elab.async false
set_option linter.unusedVariables false
set_option linter.unusedSimpArgs false
namespace Mine
set_option maxHeartbeats 4000000
theorem law_spec {w : World} {A : Around} {E : Value → Shared → Prop} {s : Shared} (P : LP w s.heap) (hA : Rm A 41) {Ds : Addr} {sv : List Value} {xs : List Int} (hl : s.heap.IsList Ds sv.toArray) (hi : IntsAre sv xs) (hx : xs.length ≤ 63) {Q : Value → Shared → Prop}
    (h : ∀ h' tk, Kp s.heap h' → LP w h' → Q (.bool true) ⟨h', s.gens, s.drawn, tk, s.os⟩) :
    wpAny (model pg w) A (call (.ref 137) [.ref Ds]) Q E s := by
  refine wpAny_call ?_
  refine codeAny_call_cells (fd := fdOf (hd.zo_154 w.params)) (body := bdOf (hd.zo_154 w.params)) (binds := [(n_script, .ref Ds)]) hA.room (P.k 137 _ rfl) rfl P.noLimit ⟨136, _, _, _, rfl, P.k 136 _ rfl, rfl, rfl⟩ rfl rfl rfl
    (List.forall_mem_cons.mpr ⟨.inl rfl, fun _ h => nomatch h⟩) (fun s₁ X => ?_)
  obtain ⟨h₁, tk, e, _⟩ := X.toInCall.done
  subst e
  obtain ⟨oc, hoc, hdc⟩ := X.cell n_heads (s.heap.objs.size + 1) rfl
  have hdc : oc.data = .cell none := hdc
  have hz := P.size
  have J : In w s.heap s.heap.objs.size [(n_script, .ref Ds)] [(s.heap.objs.size + 1, oc)] h₁ :=
    ⟨P.keeps X.toInCall.keep, ⟨_, X.toInCall.ns, HB.loc rfl ((Has.n).put _ _)⟩, Kp.of X.toInCall.keep, Nat.le_refl _, P.size, fun p hp => by
      rw [List.mem_singleton.mp hp]; exact ⟨hoc, nsz (k := 0) hz⟩⟩
  clear X hoc
  have hAd := hA.deeper (n := 40) (callEnvC (fdOf (hd.zo_154 w.params)) s.heap.objs.size 137)
  generalize hLe : s.heap.objs.size = L at *
  -- the end
  refine wpAny_execs_cons (wpAny_Assign_Name (Subscript_ (Tuple_ (k := 0) (Calls.spliced_cons (f_strc (k := 0) (pos := default) (Calls.spliced_cons (f_strc (k := 0) (pos := default) (Calls.spliced_cons (f_strc (k := 0) (pos := default) (Calls.spliced_nil (f_tupC J (show (3 : Nat) ≤ 1000000 by decide) ?_)))))))))))
  intro h2 p hp J
  refine wpAny_BinOp (wpAny_Call_NameR (r_built J rfl rfl (PyProof.Rows.callWith_builtin1 (Calls.spliced_cons (r_name J rfl (Calls.spliced_nil (f_sum hAd.hd (J.list P hl) hi ?_)))))))
  intro h3 tk3 t3 k3
  have J := J.keepAll k3
  refine f_int (f_mod (by decide) ?_)
  generalize hS : xs.sum = S
  have hr0 : 0 ≤ S.fmod 3 := by rw [Int.fmod_eq_emod_of_nonneg _ (by decide)]; omega
  have hr3 : S.fmod 3 < 3 := by rw [Int.fmod_eq_emod_of_nonneg _ (by decide)]; omega
  have hq : ((S.fdiv 3).fmod 2 = 0) ∨ ((S.fdiv 3).fmod 2 = 1) := by rw [Int.fmod_eq_emod_of_nonneg _ (by decide)]; omega
  generalize S.fmod 3 = r at *
  obtain ⟨ten, hten⟩ : ∃ ten : Tok, ([Value.str (⟨⟨[10]⟩⟩ : Str) tk, .str (⟨⟨[13]⟩⟩ : Str) (tk + 1), .str (⟨⟨[13, 10]⟩⟩ : Str) (tk + 1 + 1)] : List Value)[r.toNat]? = some (.str (enOf r) ten) := by
    rcases (show r = 0 ∨ r = 1 ∨ r = 2 by omega) with rfl | rfl | rfl
    · exact ⟨_, rfl⟩
    · exact ⟨_, rfl⟩
    · exact ⟨_, rfl⟩
  refine item_tupleT (s := ⟨h3, _, _, _, _⟩) ⟨_, (J.own _ (.head _)).1, rfl, _, rfl⟩ (by omega) (by omega) (seqIndex_at (n := 3) hr0 (by omega)) hten (f_store J ?_)
  intro h4 J
  -- the letters
  refine wpAny_execs_cons (wpAny_Assign_Name (Subscript_ (f_strc (k := 0) (pos := default) (wpAny_Slice (evalPart_none_step (evalPart_some_step ?_))))))
  refine wpAny_BinOp (f_int (wpAny_BinOp (wpAny_BinOp (wpAny_Call_NameR (r_built J rfl rfl (PyProof.Rows.callWith_builtin1 (Calls.spliced_cons (r_name J rfl (Calls.spliced_nil (f_sum hAd.hd (J.list P hl) hi ?_))))))))))
  intro h5 tk5 t5 k5
  have J := J.keepAll k5
  rw [hS]
  refine f_int (f_fdiv (by decide) (pylong_small _ (by decide)) (f_int (f_mod (by decide) (f_add (evalPart_none_step ?_)))))
  obtain ⟨k, hk, hkz⟩ : ∃ k : Nat, (k = 1 ∨ k = 2) ∧ (1 : Int) + (S.fdiv 3).fmod 2 = (k : Int) := by
    rcases hq with e | e <;> rw [e]
    · exact ⟨1, .inl rfl, rfl⟩
    · exact ⟨2, .inr rfl, rfl⟩
  rw [hkz]
  clear hq hkz hS
  refine s_to (s := ⟨h5, _, _, _, _⟩) (leOf_slice hk) (by decide) ?_
  intro h6 t6 tk6 k6
  have J := J.keepAll k6
  refine f_store J ?_
  intro h7 J
  -- the tables
  have G := good hk
  have hle := leOf_size hk
  have b1 := Heap.lt_size (J.own _ (.tail _ (.head _))).1
  refine wpAny_execs_cons (Assign_Tuple (wpAny_Call_NameR (r_glob J rfl (f_callee (o := hd.zo_123 w.params) (fd := fdOf (hd.zo_123 w.params)) rfl (Calls.spliced_cons (r_name J rfl (Calls.spliced_cons (f_int (k := 0) (pos := default) (Calls.spliced_nil ⟨J.lp.k 106 _ rfl, ?_⟩)))))))))
  refine tab_spec J.lp (hAd.le (n := 40) (m := 39 + 1) (by decide)) G hle ?_
  intro pt Df Dm fv mv h8 tk8 k8 P8 hT hlf hfi hlm hmi hDf hDm
  have J := (J.sub (own' := [(L + 1, oc)]) fun p hp => .tail _ hp).grow k8 P8
  have hDf : L + 1 < Df := Nat.lt_of_lt_of_le b1 hDf
  have hDm : L + 1 < Dm := Nat.lt_of_lt_of_le b1 hDm
  obtain ⟨om, hom, J⟩ := J.moreL hlm (Nat.lt_of_succ_lt hDm)
  obtain ⟨of, hof, J⟩ := J.moreL hlf (Nat.lt_of_succ_lt hDf)
  refine assign_Tuple_tuple hAd.hd hT rfl rfl ?_
  intro h9 hx9
  have J := J.ext hx9
  refine assignInOrder_cons (assign_Name (f_store J ?_))
  intro h10 J
  refine assignInOrder_cons (assign_Name (f_store J ?_))
  intro h11 J
  refine assignInOrder_nil ?_
  -- the digits
  have b2 := Heap.lt_size (J.own _ (.tail _ (.tail _ (.head _)))).1
  refine wpAny_execs_cons (wpAny_Assign_Name (wpAny_Call_NameR (r_glob J rfl (f_callee (o := hd.zo_130 w.params) (fd := fdOf (hd.zo_130 w.params)) rfl (Calls.spliced_cons (r_name J rfl (Calls.spliced_cons (f_int (k := 0) (pos := default) (Calls.spliced_nil ⟨J.lp.k 113 _ rfl, ?_⟩)))))))))
  refine dig_spec J.lp (hAd.le (by decide)) hk hle ?_
  intro Di iv h12 tk12 k12 P12 hli hii hDi
  have J := J.grow k12 P12
  have hDi : L + 1 < Di := Nat.lt_of_lt_of_le b2 hDi
  obtain ⟨oi, hoi, J⟩ := J.moreL hli (Nat.lt_of_succ_lt hDi)
  refine f_store J ?_
  intro h13 J
  -- the heads
  have b3 := Heap.lt_size (J.own _ (.tail _ (.tail _ (.tail _ (.head _))))).1
  refine wpAny_execs_cons (wpAny_Assign_Name (wpAny_Call_NameR (r_glob J rfl (f_callee (o := hd.zo_137 w.params) (fd := fdOf (hd.zo_137 w.params)) rfl (Calls.spliced_cons (r_name J rfl (Calls.spliced_nil ⟨J.lp.k 120 _ rfl, ?_⟩)))))))
  refine head_spec J.lp (hAd.le (n := 40) (m := 39 + 1) (by decide)) (hdOf hk) (J.lo (.head _) hoi) hii ?_
  intro Dd dv h14 tk14 k14 P14 hld hdi hDd
  have J := J.grow k14 P14
  have hDd : L + 1 < Dd := Nat.lt_of_lt_of_le b3 hDd
  obtain ⟨od, hod, J⟩ := J.moreL hld (Nat.lt_of_succ_lt hDd)
  have J := J.swap4
  refine f_storec J hdc rfl (by rw [hLe]; exact Nat.le_succ _) (Nat.le_succ_of_le hz) (ne_cons (Nat.ne_of_gt hDd) (ne_cons (Nat.ne_of_gt hDi) (ne_cons (Nat.ne_of_gt hDf) (ne_cons (Nat.ne_of_gt hDm) ne_nil)))) ?_
  intro h15 oc' hdc' J
  -- the two tables agree
  refine wpAny_execs_cons (wpAny_If (isTrue_or (wpAny_isTrue_Compare1 (r_name J rfl (r_name J rfl (ne_intsK (s := ⟨h15, _, _, _, _⟩) (J.lo (.tail _ (.tail _ (.head _))) hoi) hii (J.lo (.tail _ (.tail _ (.tail _ (.tail _ (.head _))))) hom) hmi (by have := hAd.un; omega) (wpAny_truthy_bool ?_)))))))
  rw [if_neg (by simp)]
  refine isTrue_or (wpAny_isTrue_Compare1 (r_cell J rfl (.head _) hdc' (r_name J rfl (ne_intsK (s := ⟨h15, _, _, _, _⟩) (J.lo (.tail _ (.head _)) hod) hdi (J.lo (.tail _ (.tail _ (.tail _ (.head _)))) hof) hfi (by have := hAd.un; omega) (wpAny_truthy_bool ?_)))))
  rw [if_neg (by simp)]
  refine isTrue_or_nil ?_
  rw [if_neg (by simp)]
  refine wpAny_execs_nil ?_
  -- the places
  have b15 := Heap.lt_size (J.own _ (.head _)).1
  have hS0 := pre8_pos hk
  refine wpAny_execs_cons (f_compA (h₀ := s.heap) (L := L) (x := n_x) (F := fun v y => ∃ (n : Int) (t u : Tok), v = .int n t ∧ y = .int (n.fmod (pre (HT k) 8)) u) hAd.hd rfl rfl (by decide) rfl (by decide) rfl rfl rfl rfl (fun _ => rfl) ?_)
  refine wpAny_BinOp (Subscript_ (r_name J rfl (wpAny_Slice (evalPart_none_step (evalPart_some_step (f_int (evalPart_none_step ?_)))))))
  refine f_uptoW (J.list P hl) hi (by decide) (by decide) (by omega) ?_
  intro a16 h16 ws16 k16 hl16 hi16 ha16
  have J := J.keepAll k16
  obtain ⟨o16, ho16, J⟩ := J.moreL hl16 (Nat.lt_of_lt_of_le (Nat.lt_of_succ_lt b15) ha16)
  refine List_ (Calls.spliced_cons (f_int (k := 0) (pos := default) (Calls.spliced_cons (f_int (k := 0) (pos := default) (Calls.spliced_cons (UnaryOp_ (f_int (k := 0) (pos := default) (f_neg (Calls.spliced_nil (f_list J (show (3 : Nat) ≤ 1000000 by decide) ?_))))))))))
  intro h17 a17 J
  refine f_addl J (J.lo (.tail _ (.head _)) ho16) hi16 ⟨_, (J.own _ (.head _)).1, rfl, _, rfl⟩ (.cons _ _ (.cons _ _ (.cons _ _ .nil))) (by rw [List.length_take]; simp; omega) ?_
  intro h18 a18 J hi18
  have hxl : (xs.take (10 : Int).toNat ++ ([88, 89, -1] : List Int)).length = min 10 xs.length + 3 := by simp
  have hvl := IntsAre.length hi18
  refine ⟨a18, _, h18, _, _, _, rfl, rfl, J, ⟨_, (J.own _ (.head _)).1, rfl, _, rfl⟩, by omega, ?_, ?_⟩
  · intro C v s₃ E' hv J3
    obtain ⟨n, t, rfl⟩ := ints_mem hi18 v hv
    refine wpAny_BinOp (r_name J3 rfl (wpAny_Call_NameR (r_built J3 rfl rfl (PyProof.Rows.callWith_builtin1 (Calls.spliced_cons (r_cell J3 rfl (.tail _ (.tail _ (.tail _ (.head _)))) hdc' (Calls.spliced_nil (r_sum hAd.hd (J3.lo (.tail _ (.tail _ (.tail _ (.tail _ (.head _))))) hod) hdi ?_))))))))
    intro h19 tk19 t19 k19
    rw [pre8_sum hk]
    refine PyProof.Rows.mod_int (by omega) ?_
    exact ⟨⟨n, t, _, rfl, rfl⟩, h19, _, rfl, k19⟩
  intro Dp h20 tk20 ys np J hF
  have hpi := paired_mod hF hi18
  have hbd := fun i hi => mod_bd hS0 (xs.take (10 : Int).toNat ++ ([88, 89, -1] : List Int)) (i := i) hi
  have hpl : ((xs.take (10 : Int).toNat ++ ([88, 89, -1] : List Int)).map fun x : Int => x.fmod (pre (HT k) 8)).length = min 10 xs.length + 3 := by rw [List.length_map, hxl]
  generalize ((xs.take (10 : Int).toNat ++ ([88, 89, -1] : List Int)).map fun x : Int => x.fmod (pre (HT k) 8)) = ps at *
  have J : In w s.heap L _ [(Dp, lob ys np), (L + 1, oc'), (Dd, od), (Di, oi), (Df, of), (Dm, om)] h20 := J.sub fun p hp => by
    rcases List.mem_cons.mp hp with rfl | hp
    · exact .head _
    · exact .tail _ (.tail _ (.tail _ (.tail _ hp)))
  clear hF hi18 hi16 hl16 ho16 k16 hvl hxl
  -- what is heard
  have bb : ∀ p ∈ [(Dp, lob ys np), (L + 1, oc'), (Dd, od), (Di, oi), (Df, of), (Dm, om)], p.1 < h20.objs.size := fun p hp => Heap.lt_size (J.own p hp).1
  refine wpAny_execs_cons (wpAny_Assign_Name (List_ (Calls.spliced_nil (f_listC J (show (0 : Nat) ≤ 1000000 by decide) ?_))))
  intro h21 Dh hDh J
  refine f_store J ?_
  intro h22 J
  have bh := Heap.lt_size (J.own _ (.head _)).1
  have bb : ∀ p ∈ [(Dp, lob ys np), (L + 1, oc'), (Dd, od), (Di, oi), (Df, of), (Dm, om)], p.1 < Dh := fun p hp => Nat.lt_of_lt_of_le (bb p hp) hDh
  have hLD : L + 1 < Dh := bb (L + 1, oc') (.tail _ (.head _))
  refine wpAny_execs_cons (wpAny_For (r_name J rfl (f_liter J ⟨_, (J.own _ (.tail _ (.head _))).1, rfl, _, rfl⟩ ?_)))
  intro I o h23 hI hit J
  have hDI : Dh < I := Nat.lt_of_lt_of_le bh hI
  have hLI : L + 1 < I := Nat.lt_trans hLD hDI
  have l1 : ∀ {x : Addr}, L + 1 < x → 138 ≤ x ∧ s.heap.objs.size ≤ x := fun hx => ⟨Nat.le_trans hz (Nat.le_of_lt (Nat.lt_of_succ_lt hx)), by rw [hLe]; exact Nat.le_of_lt (Nat.lt_of_succ_lt hx)⟩
  refine law_loop hAd G (leOf_up hk) hle leOf_ok leOf_lb (leOf_find hk) (enOf_ok r) (fun i hi => hbd i hi) (by omega) (bo := [(Dp, lob ys np), (L + 1, oc'), (Dd, od), (Di, oi), (Df, of), (Dm, om)])
    ⟨⟨oc', .tail _ (.head _), hdc'⟩, ⟨of, fv, .tail _ (.tail _ (.tail _ (.tail _ (.head _)))), hof, hfi⟩, ⟨om, mv, .tail _ (.tail _ (.tail _ (.tail _ (.tail _ (.head _))))), hom, hmi⟩, ⟨oi, iv, .tail _ (.tail _ (.tail _ (.head _))), hoi, hii⟩, ⟨od, dv, .tail _ (.tail _ (.head _)), hod, hdi⟩, ⟨lob ys np, ys, .head _, ⟨rfl, _, rfl⟩, hpi⟩⟩
    (fun p hp => Nat.ne_of_lt (Nat.lt_trans (bb p hp) hDI)) (fun p hp => Nat.ne_of_lt (bb p hp)) (l1 hLI).1 (l1 hLI).2 (l1 hLD).1 (l1 hLD).2 hDI (hend := ?_) hit (J.has fun m H => H.c rfl (H.c rfl (H.c rfl (H.c rfl (H.c rfl (H.c rfl (H.c rfl .n)))))))
  intro h24 tk24 hs kh hsl hok hpc J
  -- the order
  have hyl := IntsAre.length hpi
  have hb := sortP_below (n := hs.length) (by omega) (fun i j => decide (ps.getD i 0 < ps.getD j 0))
  have hpb : ∀ i ∈ (sortP (fun i j => decide (ps.getD i 0 < ps.getD j 0)) hs.length).toList, i < hs.length := fun i hi => hb.2 i (by simpa using hi)
  have hpz : (sortP (fun i j => decide (ps.getD i 0 < ps.getD j 0)) hs.length).toList.length = hs.length := by rw [Array.length_toList]; exact hb.1
  refine wpAny_execs_cons (wpAny_Return_some (wpAny_Compare1 (f_comp (h₀ := s.heap) (L := L) (x := n_one) (F := fun v y => ∃ (q : Hd) (u : Tok), q ∈ hs ∧ v = .ref q.a ∧ y = .int (plc (HT k) (MT k) q.ts) u) hAd.hd rfl (by decide) rfl (by decide) rfl (fun _ => rfl) ?_)))
  refine wpAny_Call_NameR (r_built J rfl rfl (PyProof.Rows.callWith_builtin1 (Calls.spliced_cons (r_name J rfl (Calls.spliced_nil (f_sorth G (leOf_up hk) J ⟨_, (J.own _ (.head _)).1, rfl, _, rfl⟩ hok (fun q hq => .tail _ (List.mem_append_left _ (List.mem_map_of_mem (f := fun q : Hd => (q.a, q.o)) hq))) (by omega) (by omega) ?_))))))
  rw [hpc]
  intro h25 D25 c25 J
  generalize hperm : sortP (fun i j => decide (ps.getD i 0 < ps.getD j 0)) hs.length = perm at *
  refine ⟨D25, _, h25, _, _, _, rfl, rfl, J, ⟨_, (J.own _ (.head _)).1, rfl, _, rfl⟩, by rw [List.length_map]; omega, ?_, ?_⟩
  · intro C v s₃ E' hv J3
    obtain ⟨i, hi, rfl⟩ := List.mem_map.mp hv
    have hih := hpb i hi
    rw [getD_map hih] at J3 ⊢
    have hqm := List.getElem_mem hih
    generalize hs[i] = q at *
    obtain ⟨_, _, cq, t1, u1, v1, n1, dq⟩ := hok q hqm
    have hq3 := (J3.own (q.a, q.o) (.tail _ (.tail _ (List.mem_append_left _ (List.mem_map_of_mem (f := fun q : Hd => (q.a, q.o)) hqm))))).1
    refine Subscript_ (r_name J3 rfl (wpAny_Constant_int (item_tupleT (l := [.int (snt true q.ts : Int) t1, .str ⟨(wr (leOf k) true q.ts).toArray⟩ u1, .int (plc (HT k) (MT k) q.ts) v1]) (j := 2) ⟨q.o, hq3, cq, n1, dq⟩ (by decide) (by decide) rfl rfl ?_)))
    exact ⟨⟨q, v1, hqm, rfl, rfl⟩, s₃.heap, _, rfl, fun _ _ e => e⟩
  intro D26 h26 tk26 ys26 n26 J hF
  have hi26 : IntsAre ys26 (perm.toList.map fun i => ps.getD i 0) := by
    refine paired_pick (hs := hs) ?_ perm.toList hpb hF
    rintro i hih y ⟨q, u, hq, e1, e2⟩
    refine ⟨u, ?_⟩
    rw [e2]
    have e3 := getD_map hih
    rw [e3] at e1
    injection e1 with e1
    have m1 := (J.own (q.a, q.o) (.tail _ (.tail _ (.tail _ (List.mem_append_left _ (List.mem_map_of_mem (f := fun q : Hd => (q.a, q.o)) hq)))))).1
    have m2 := (J.own (hs[i].a, hs[i].o) (.tail _ (.tail _ (.tail _ (List.mem_append_left _ (List.mem_map_of_mem (f := fun q : Hd => (q.a, q.o)) (List.getElem_mem hih))))))).1
    rw [show (hs[i].a, hs[i].o).1 = (q.a, q.o).1 from e1, m1] at m2
    injection m2 with m2
    obtain ⟨_, _, _, _, _, _, _, d1⟩ := hok q hq
    obtain ⟨_, _, _, _, _, _, _, d2⟩ := hok _ (List.getElem_mem hih)
    rw [show hs[i].o = q.o from m2.symm, d1] at d2
    injection d2 with d2 _
    have e4 : plc (HT k) (MT k) q.ts = plc (HT k) (MT k) hs[i].ts := by
      have e5 := congrArg Array.toList d2
      injection e5 with _ e5
      injection e5 with _ e5
      injection e5 with e5 _
      injection e5 with e5 _
    rw [e4, ← hpc, List.getD_eq_getElem?_getD, List.getElem?_map, List.getElem?_eq_getElem hih]
    rfl
  refine wpAny_Call_NameR (r_built J rfl rfl (PyProof.Rows.callWith_builtin1 (Calls.spliced_cons (r_name J rfl (Calls.spliced_nil (f_sorti (xs := ps) J ⟨_, (J.own _ (.tail _ (.tail _ (.tail _ (List.mem_append_right _ (.head _)))))).1, rfl, _, rfl⟩ hpi (by omega) (by omega) ?_))))))
  rw [show ys.length = hs.length by omega, hperm]
  intro h27 D27 c27 J
  have hi27 := ints_pick hpi perm.toList (fun i hi => by have := hpb i hi; omega)
  refine eq_intsK (s := ⟨h27, _, _, _, _⟩) (vs := ys26) ⟨_, (J.own _ (.tail _ (.head _))).1, rfl, _, rfl⟩ hi26 ⟨_, (J.own _ (.head _)).1, rfl, _, rfl⟩ hi27 (by have := hAd.un; omega) ?_
  rw [decide_eq_true rfl]
  exact h h27 _ J.keep J.lp
end Mine
end
section
open PySem PySem.W PySem.W.X PyProof.Rows
set_option maxRecDepth 100000
set_option Elab.async false
namespace Mine
theorem allIn_mem {h : Heap} : ∀ {K : Frag}, AllIn h K → ∀ p ∈ K, h.get? p.1 = some p.2
  | [], _, _, hp => nomatch hp
  | q :: K, A, p, hp => by
    rcases List.mem_cons.mp hp with rfl | hp
    · exact A.1
    · exact allIn_mem A.2 p hp
theorem lp_start {w : World} {s₀ : Shared} {h : Heap} (A : AllIn s₀.heap (Mine.hd.heap_154 w.params)) (k : ∀ b o, s₀.heap.get? b = some o → h.get? b = some o) : LP w h := by
  have A' := fun p hp => k _ _ (allIn_mem A p hp)
  refine ⟨fun a o e => ?_, ⟨#[], ?_, ?_, .inl rfl⟩, ⟨#[], ?_, ?_, .inl rfl⟩⟩
  · exact A' (a, o) (List.mem_filter.mp (lookup_mem e)).1
  · exact A' (47, tabObj #[]) (lookup_mem (K := Mine.hd.heap_154 w.params) (a := 47) rfl)
  · trivial
  · exact A' (54, tabObj #[]) (lookup_mem (K := Mine.hd.heap_154 w.params) (a := 54) rfl)
  · trivial
/-- the two code tables as they stood -/
theorem tables {w : World} {s₀ : Shared} {h : Heap} (A : AllIn s₀.heap (Mine.hd.heap_154 w.params)) (k : ∀ b o, s₀.heap.get? b = some o → h.get? b = some o) : h.get? 47 = some (tabObj #[]) ∧ h.get? 54 = some (tabObj #[]) ∧ isCodeTable h 47 ∧ isCodeTable h 54 := by
  have A' := fun p hp => k _ _ (allIn_mem A p hp)
  have t1 := A' (47, tabObj #[]) (lookup_mem (K := Mine.hd.heap_154 w.params) (a := 47) rfl)
  have t2 := A' (54, tabObj #[]) (lookup_mem (K := Mine.hd.heap_154 w.params) (a := 54) rfl)
  refine ⟨t1, t2, ?_, ?_⟩
  · exact ⟨51, Mine.hd.zo_74 w.params, _, A' (51, Mine.hd.zo_74 w.params) (lookup_mem (K := Mine.hd.heap_154 w.params) (a := 51) rfl), rfl, rfl, rfl⟩
  · exact ⟨58, Mine.hd.zo_81 w.params, _, A' (58, Mine.hd.zo_81 w.params) (lookup_mem (K := Mine.hd.heap_154 w.params) (a := 58) rfl), rfl, rfl, rfl⟩
theorem old_of {w : World} {h h' : Heap} (T : h.get? 47 = some (tabObj #[]) ∧ h.get? 54 = some (tabObj #[]) ∧ isCodeTable h 47 ∧ isCodeTable h 54) (P : LP w h') (k : Kp h h') : OldK h h' := by
  obtain ⟨t1, t2, c1, c2⟩ := T
  obtain ⟨p1, e1, _⟩ := P.t47
  obtain ⟨p2, e2, _⟩ := P.t54
  constructor
  · intro b o e
    by_cases b1 : b = 47
    · subst b1
      rw [t1] at e; cases e
      exact .inr (.inl ⟨c1, rfl, #[], p1, rfl, by rw [e1]; simp⟩)
    by_cases b2 : b = 54
    · subst b2
      rw [t2] at e; cases e
      exact .inr (.inl ⟨c2, rfl, #[], p2, rfl, by rw [e2]; simp⟩)
    exact .inl (k b o b1 b2 e)
  · intro b o e
    by_cases b1 : b = 47
    · subst b1; exact ⟨_, e1⟩
    by_cases b2 : b = 54
    · subst b2; exact ⟨_, e2⟩
    exact ⟨o, k b o b1 b2 e⟩
theorem ns_same {h : Heap} {a : Addr} {m m' : Str → Option Value} (x : h.Ns a m) (y : h.Ns a m') (n : Str) : m n = m' n := by
  obtain ⟨o, es, ep, ho, hd, _, hx⟩ := x
  obtain ⟨o', es', ep', ho', hd', _, hy⟩ := y
  rw [ho] at ho'; cases ho'
  rw [hd] at hd'; cases hd'
  rw [← hx, ← hy]
theorem main : PySem.Challenge.rw_pe0150_01.Holds := by
  refine Mine.hd ?_
  intro w s₀ s₁ mg mb G y fa o pm cd doc dV kV ho hd hcd hD hmg hg args vals as L hpre hlay hrd hwl hlo
  have Z := (z_facts (K := Mine.hd.heap_154) (fun _ => rfl) y)
  have P : LP w s₁.heap := lp_start Z.1 L.keeps
  have hfa : fa = 137 := by
    have e : some (Value.ref fa) = some (.ref 137) := (hmg.symm.trans (ns_same G.T.g P.glob _)).trans rfl
    injection e with e
    injection e with e
  have Ta := Mine.tables Z.1 L.keeps
  clear hmg ho hd hcd hD G y Z
  subst hfa
  wrow_args hpre hlay hrd hwl hlo
  rename_i xs x1 x2 x3 x4 x5 as1 as2 Ds sv as3 hl ra w1 r0 hI hr hc1 hc2
  refine law_spec P ⟨rfl, by decide, by decide⟩ hl hI (by omega) ?_
  intro h' tk k P'
  refine ⟨.inl ⟨_, .bool true, [], rfl, fun _ => rfl, ReadsW.bool true, (by wrow_post), fun _ => ⟨List.nodup_nil, fun _ hm => nomatch hm⟩⟩, old_of Ta P' k, rfl, ?_⟩
  show AllBare s₁.gens
  rw [hg]
  exact AllBare.empty
end Mine
end
set_option maxRecDepth 100000 in
set_option maxHeartbeats 8000000 in
theorem PySem.Challenge.cw_pe0150_01_holds : PySem.Challenge.rw_pe0150_01.Holds :=
  Mine.main
