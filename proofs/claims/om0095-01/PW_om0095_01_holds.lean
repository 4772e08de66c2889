import PyProof.Rows.All
import PyProof.SliceMore
import PyProof.ListIndexNeg
import KE.KEqDict
import Wide.All
import OpenK.AllK
import Wide.FinOn
import PySem.Challenge.RW_om0095_01
open PySem PySem.W PyProof.Rows PySem.Calls
set_option Elab.async false
set_option compiler.extract_closed false
set_option maxRecDepth 100000
set_option maxHeartbeats 8000000
set_option linter.unusedVariables false
set_option linter.unusedSimpArgs false
namespace Mine

/-- a value without its token -/
def er : Value → Value
  | .int i _ => .int i 0
  | .str x _ => .str x 0
  | v => v

abbrev I (n : Int) : Value := .int n 0
abbrev T (x : Str) : Value := .str x 0

theorem er_er (v : Value) : er (er v) = er v := by cases v <;> rfl
theorem er_int {v : Value} {i : Int} (h : er v = .int i 0) : ∃ t, v = .int i t := by
  cases v <;> simp [er] at h; subst h; exact ⟨_, rfl⟩
theorem er_str {v : Value} {i : Str} (h : er v = .str i 0) : ∃ t, v = .str i t := by
  cases v <;> simp [er] at h; subst h; exact ⟨_, rfl⟩
/-- for all values that are v but for the token -/
def All (v : Value) (Q : Value → Prop) : Prop := match v with
  | .int i _ => ∀ t, Q (.int i t)
  | .str x _ => ∀ t, Q (.str x t)
  | v => Q v
theorem All.of {v w : Value} {Q : Value → Prop} (h : All v Q) (e : er w = v) : Q w := by
  subst e; cases w <;> first | exact h _ | exact h

inductive MO where
  | list (xs : List Value)
  | tup (xs : List Value)
  | dict (kvs : List (Int × Value)) (ep : Nat)
  | set (xs : List Int)
  | frame (m : List (Str × Value))
  | cell (v : Option Value)
  | inst (C d : Addr)
  | attrs (m : List (Str × Value))
  | slots (C d : Addr) (vs : List (Option Value))
  | fl (cls : String) (fs : Array Value)
  | en (it : Addr) (i : Int)
  | raw (o : Obj)

abbrev MO.liter (l : Addr) (i : Nat) : MO := .fl "list_iterator" #[.ref l, .int i 0]
abbrev MO.titer (l : Addr) (i : Nat) : MO := .fl "tuple_iterator" #[.ref l, .int i 0]

def RelO (w : World) : MO → Obj → Prop
  | .list xs, ob => ∃ vs n, ob = { cls := .type "list", data := .seq vs n } ∧ vs.toList.map er = xs
  | .tup xs, ob => ∃ vs n, ob = { cls := .type "tuple", data := .seq vs n } ∧ vs.toList.map er = xs
  | .dict kvs n, ob => ∃ es, ob = { cls := .type "dict", data := .dict es n } ∧
      es.toList.map (fun e => (e.hash, er e.key, er e.val)) = kvs.map (fun p => (hashInt p.1, I p.1, p.2)) ∧ (kvs.map (·.1)).Nodup
  | .set xs, ob => ∃ es n t, ob = { cls := .type "set", data := .set es n t } ∧ (∀ e ∈ es.toList, ∃ k u, e = (hashInt k, .int k u)) ∧ (∀ k, k ∈ xs ↔ ∃ e ∈ es.toList, ∃ u, e.2 = .int k u) ∧
      es.size < scanBound ∧ t.fits es.size = true ∧ es.size = xs.length
  | .frame m, ob => ∃ es ep, ob.data = .dict es ep ∧ StrKeys es ∧ ∀ x v, m.lookup x = some v → (nsFind es x).map er = some v
  | .cell v, ob => ∃ v', ob.data = .cell v' ∧ v'.map er = v
  | .inst C d, ob => ob = instObj C d
  | .attrs m, ob => ∃ es n, ob = { cls := .type "dict", data := .dict es n } ∧
      es.toList.map (fun e => (e.hash, er e.key, er e.val)) = m.map (fun p => (PyData.keyHash w.params p.1, T p.1, p.2))
  | .slots C d vs, ob => ∃ sl, ob = { cls := .ref C, dict := some d, data := .plain, slots := sl } ∧ sl.toList.map (Option.map er) = vs
  | .fl c fs, ob => ob.cls = .type c ∧ ob.data = .fields fs
  | .en it i, ob => ∃ old, ob = { cls := .type "enumerate", data := .fields #[.none, .bool false, .ref it, rawInt i, .none, old] }
  | .raw o, ob => ob = o

abbrev Led := List (Addr × MO)

/-- an address that was not in use before -/
def Fresh (s₀ : Shared) (a : Addr) (o : MO) : Prop := s₀.heap.get? a = none ∧ 2 < a ∧ ∀ m, o = .frame m → s₀.heap.objs.size ≤ a
theorem Fresh.to {s₀ : Shared} {a : Addr} {o o' : MO} (h : Fresh s₀ a o) (hnf : ∀ m, o' ≠ .frame m := by intro m h; cases h) : Fresh s₀ a o' := ⟨h.1, h.2.1, fun m e => absurd e (hnf m)⟩
theorem Fresh.fr {s₀ : Shared} {a : Addr} {m m' : List (Str × Value)} (h : Fresh s₀ a (.frame m)) : Fresh s₀ a (.frame m') := ⟨h.1, h.2.1, fun _ _ => h.2.2 m rfl⟩

structure Sim (w : World) (s₀ : Shared) (L : Addr) (m : List (Str × Value)) (P : Led) (s : Shared) : Prop where
  eq : s.os = s₀.os ∧ s.gens = s₀.gens
  keep : ∀ b o, s₀.heap.get? b = some o → s.heap.get? b = some o
  led : ∀ p ∈ (L, MO.frame m) :: P, ∃ ob, s.heap.get? p.1 = some ob ∧ RelO w p.2 ob ∧ Fresh s₀ p.1 p.2
  nd : (((L, MO.frame m) :: P).map (·.1)).Nodup

inductive Upd (a : Addr) (o o' : MO) : Led → Led → Prop
  | head {P} : Upd a o o' ((a, o) :: P) ((a, o') :: P)
  | tail {x P P'} : Upd a o o' P P' → Upd a o o' (x :: P) (x :: P')
  | right {X Y Y'} : Upd a o o' Y Y' → Upd a o o' (X ++ Y) (X ++ Y')
  | left {X X' Y} : Upd a o o' X X' → Upd a o o' (X ++ Y) (X' ++ Y)

theorem Upd.split {a o o' P P'} (h : Upd a o o' P P') : ∃ X Y, P = X ++ (a, o) :: Y ∧ P' = X ++ (a, o') :: Y := by
  induction h with
  | @head P => exact ⟨[], P, rfl, rfl⟩
  | @tail x _ _ _ ih => obtain ⟨X, Y, rfl, rfl⟩ := ih; exact ⟨x :: X, Y, rfl, rfl⟩
  | @right X _ _ _ ih => obtain ⟨X', Y, rfl, rfl⟩ := ih; exact ⟨X ++ X', Y, by simp, by simp⟩
  | @left _ _ Y _ ih => obtain ⟨X', Y', rfl, rfl⟩ := ih; exact ⟨X', Y' ++ Y, by simp, by simp⟩
theorem Upd.mem {a o o' P P'} (h : Upd a o o' P P') : (a, o) ∈ P := by
  obtain ⟨X, Y, rfl, rfl⟩ := h.split; simp
section
variable {w : World} {s₀ s : Shared} {L : Addr} {m : List (Str × Value)} {P P' : Led}

theorem Sim.get (S : Sim w s₀ L m P s) {a o} (hm : (a, o) ∈ P) : ∃ ob, s.heap.get? a = some ob ∧ RelO w o ob ∧ Fresh s₀ a o := S.led (a, o) (.tail _ hm)
theorem Sim.ne (S : Sim w s₀ L m P s) {a o} (hm : (a, o) ∈ P) : a ≠ L := by
  have := S.nd
  simp only [List.map_cons, List.nodup_cons] at this
  rintro rfl
  exact this.1 (List.mem_map.mpr ⟨_, hm, rfl⟩)
theorem Sim.size (S : Sim w s₀ L m P s) : s₀.heap.objs.size ≤ s.heap.objs.size := by
  obtain ⟨ob, h1, _, h3⟩ := S.led _ (.head _)
  exact Nat.le_trans (h3.2.2 m rfl) (Nat.le_of_lt (Heap.lt_size h1))
theorem Sim.new (S : Sim w s₀ L m P s) {a : Addr} {o : MO} (hn : s.heap.objs.size ≤ a) : Fresh s₀ a o := by
  obtain ⟨ob, h1, _, h3⟩ := S.led _ (.head _)
  refine ⟨?_, Nat.lt_of_lt_of_le (Nat.lt_trans h3.2.1 (Heap.lt_size h1)) hn, fun _ _ => Nat.le_trans S.size hn⟩
  cases q : s₀.heap.get? a with
  | none => rfl
  | some o => exact absurd (Nat.lt_of_lt_of_le (Heap.lt_size (S.keep _ _ q)) hn) (Nat.lt_irrefl _)

theorem Sim.ext (S : Sim w s₀ L m P s) {h' tk} (k : ∀ b o, s.heap.get? b = some o → h'.get? b = some o) : Sim w s₀ L m P { s with heap := h', toks := tk } := by
  exact ⟨S.eq, fun b o e => k b o (S.keep b o e), fun p hp => let ⟨ob, a, b⟩ := S.led p hp; ⟨ob, k _ _ a, b⟩, S.nd⟩
theorem Sim.toks (S : Sim w s₀ L m P s) {tk} : Sim w s₀ L m P { s with toks := tk } := S.ext (h' := s.heap) fun _ _ e => e

theorem Sim.sub (S : Sim w s₀ L m P s) (hp : P'.Sublist P) : Sim w s₀ L m P' s :=
  ⟨S.eq, S.keep, fun p hm => S.led p ((List.mem_cons.mp hm).elim (fun e => e ▸ .head _) fun h => .tail _ (hp.subset h)), S.nd.sublist ((hp.cons_cons _).map _)⟩
theorem Sim.perm (S : Sim w s₀ L m P s) (hp : P.Perm P') : Sim w s₀ L m P' s :=
  ⟨S.eq, S.keep, fun p hm => S.led p ((List.mem_cons.mp hm).elim (fun e => e ▸ .head _) fun h => .tail _ (hp.mem_iff.mpr h)), (((hp.cons (L, MO.frame m)).map (·.1)).nodup_iff).mp S.nd⟩

/-- the state from a heap in which all but a new head stand as they stood -/
theorem Sim.push' (S : Sim w s₀ L m P s) {a : Addr} {o ob h' tk} (k : ∀ b o, s.heap.get? b = some o → h'.get? b = some o) (hn : s.heap.objs.size ≤ a) (ha : h'.get? a = some ob) (r : RelO w o ob) :
    Sim w s₀ L m ((a, o) :: P) { s with heap := h', toks := tk } := by
  have S' : Sim w s₀ L m P { s with heap := h', toks := tk } := S.ext k
  have fr : ∀ p ∈ (L, MO.frame m) :: P, p.1 ≠ a := fun p hp => by
    obtain ⟨ob', h1, _⟩ := S.led p hp
    exact Nat.ne_of_lt (Nat.lt_of_lt_of_le (Heap.lt_size h1) hn)
  refine ⟨S'.eq, S'.keep, fun p hp => ?_, ?_⟩
  · rcases List.mem_cons.mp hp with rfl | hp
    · exact S'.led _ (.head _)
    · rcases List.mem_cons.mp hp with rfl | hp
      · exact ⟨ob, ha, r, S.new hn⟩
      · exact S'.led _ (.tail _ hp)
  · have := S.nd
    simp only [List.map_cons, List.nodup_cons, List.mem_cons, not_or] at this ⊢
    refine ⟨⟨fr _ (.head _), this.1⟩, fun q => ?_, this.2⟩
    obtain ⟨p, hp, e⟩ := List.mem_map.mp q
    exact fr p (.tail _ hp) e
theorem Sim.push (S : Sim w s₀ L m P s) {o ob tk} (r : RelO w o ob) (hf : ob.isFreed = false := by rfl) :
    Sim w s₀ L m ((s.heap.objs.size, o) :: P) { s with heap := s.heap.push ob, toks := tk } :=
  S.push' (fun b o' e => Heap.get?_push_of_some _ e) (Nat.le_refl _) (Heap.get?_push_size _ hf) r

theorem Sim.other (S : Sim w s₀ L m P s) {a o X Y} (e : P = X ++ (a, o) :: Y) : ∀ p ∈ (L, MO.frame m) :: (X ++ Y), p.1 ≠ a := by
  subst e
  have nd := S.nd
  intro p hp e
  simp only [List.map_cons, List.map_append, List.nodup_cons, List.nodup_append, List.mem_append, List.mem_cons, not_or, List.mem_map] at nd
  rcases List.mem_cons.mp hp with rfl | hp
  · exact nd.1.2.1 e
  · rcases List.mem_append.mp hp with hp | hp
    · exact nd.2.2.2 _ ⟨p, hp, rfl⟩ _ (.inl rfl) e
    · exact nd.2.2.1.1 ⟨p, hp, e⟩

theorem Sim.upd' (S : Sim w s₀ L m P s) {a o o' h' tk} (U : Upd a o o' P P') (hs : Heap.ExtBut a s.heap h') {ob} (hb : h'.get? a = some ob) (r : RelO w o' ob) (hnf : ∀ m, o' ≠ .frame m := by intro m h; cases h) :
    Sim w s₀ L m P' { s with heap := h', toks := tk } := by
  obtain ⟨X, Y, rfl, rfl⟩ := U.split
  obtain ⟨ob₀, g1, g2, g3⟩ := S.get U.mem
  have other := S.other rfl
  refine ⟨S.eq, fun b ob' e => ?_, fun p hp => ?_, ?_⟩
  · have : b ≠ a := by rintro rfl; rw [g3.1] at e; cases e
    exact hs b _ this (S.keep b ob' e)
  · by_cases e : p = (a, o')
    · subst e; exact ⟨ob, hb, r, g3.to hnf⟩
    · have hp' : p ∈ (L, MO.frame m) :: (X ++ Y) := by
        rcases List.mem_cons.mp hp with rfl | hp
        · exact .head _
        · rcases List.mem_append.mp hp with hp | hp
          · exact .tail _ (List.mem_append.mpr (.inl hp))
          · rcases List.mem_cons.mp hp with rfl | hp
            · exact absurd rfl e
            · exact .tail _ (List.mem_append.mpr (.inr hp))
      have ne := other p hp'
      have hin : p ∈ (L, MO.frame m) :: (X ++ (a, o) :: Y) := by
        rcases List.mem_cons.mp hp' with rfl | hp'
        · exact .head _
        · refine .tail _ ?_
          rcases List.mem_append.mp hp' with q | q
          · exact List.mem_append.mpr (.inl q)
          · exact List.mem_append.mpr (.inr (.tail _ q))
      obtain ⟨ob', k1, k2⟩ := S.led p hin
      exact ⟨ob', hs _ _ ne k1, k2⟩
  · simpa using S.nd
theorem Sim.upd (S : Sim w s₀ L m P s) {a o o' h' tk} (U : Upd a o o' P P') (hs : Heap.SameBut a s.heap h') {ob} (hb : h'.get? a = some ob) (r : RelO w o' ob) (hnf : ∀ m, o' ≠ .frame m := by intro m h; cases h) :
    Sim w s₀ L m P' { s with heap := h', toks := tk } := S.upd' U hs.extBut hb r hnf
/-- an entry may be forgotten -/
theorem Sim.drop (S : Sim w s₀ L m (p :: P) s) : Sim w s₀ L m P s := S.sub (List.sublist_cons_self _ _)
theorem Sim.dropAt (S : Sim w s₀ L m P s) {a o h' tk X Y} (e : P = X ++ (a, o) :: Y) (hs : Heap.ExtBut a s.heap h') : Sim w s₀ L m (X ++ Y) { s with heap := h', toks := tk } := by
  subst e
  have other := S.other rfl
  obtain ⟨ob₀, g1, g2, g3⟩ := S.get (a := a) (o := o) (by simp)
  have S' := S.sub (P' := X ++ Y) (by simp)
  exact ⟨S.eq, fun b ob' e => hs b _ (by rintro rfl; rw [g3.1] at e; cases e) (S.keep b ob' e), fun p hp => let ⟨ob, h1, h2⟩ := S'.led p hp; ⟨ob, hs _ _ (other p hp) h1, h2⟩, S'.nd⟩
end
end Mine
namespace Mine

structure OK (A : Around) (d : Nat) : Prop where
  h : A.handled = none
  dep : A.depth + d ≤ 900
  un : A.units + 20 * d ≤ 9000
theorem OK.deeper {A d env} (k : OK A (d + 1)) : OK (A.deeper env) d := ⟨k.h, by have := k.dep; show A.depth + 1 + d ≤ 900; omega, by have := k.un; show A.units + 3 + 20 * d ≤ 9000; omega⟩
theorem OK.in1 {A d} (k : OK A (d + 1)) : OK A.in1 d := ⟨k.h, by have := k.dep; show A.depth + d ≤ 900; omega, by have := k.un; show A.units + 1 + 20 * d ≤ 9000; omega⟩
theorem OK.le {A d d'} (k : OK A d) (h : d' ≤ d) : OK A d' := ⟨k.h, by have := k.dep; omega, by have := k.un; omega⟩
theorem OK.room {A d} (k : OK A d) : A.depth < recursionLimit := by have := k.dep; show A.depth < 1000; omega
theorem OK.units {A d} (k : OK A d) : A.units < cLine := by have := k.un; show A.units < 9900; omega

structure Gr (K : Frag) (h : Heap) : Prop where
  X : K.In h
  T : ∃ p loose mg mb, TopRead p loose mg mb h

abbrev noE : Value → Shared → Prop := fun _ _ => False

section
variable {M : Model} {w : World} {K : Frag} {A : Around} {E : Value → Shared → Prop} {s₀ s : Shared} {L : Addr} {m : List (Str × Value)} {P P' : Led} {env : Env}

theorem Sim.ns (S : Sim w s₀ L m P s) : ∃ m', s.heap.Ns L m' ∧ ∀ x v, m.lookup x = some v → (m' x).map er = some v := by
  obtain ⟨ob, h1, ⟨es, ep, h2, h3, h4⟩, _⟩ := S.led _ (.head _)
  exact ⟨fun x => nsFind es x, ⟨ob, es, ep, h1, h2, h3, fun _ => rfl⟩, h4⟩

theorem Sim.K_in (S : Sim w s₀ L m P s) (G : Gr K s₀.heap) : K.In s.heap := G.X.keeps S.keep

theorem mem_of_lookup {x : Str} {v : Value} : ∀ {m : List (Str × Value)}, m.lookup x = some v → (x, v) ∈ m
  | [], e => by cases e
  | (y, u) :: r, e => by
    rw [List.lookup_cons] at e
    by_cases q : (x == y) = true
    · rw [q] at e; cases e; rw [beq_iff_eq] at q; subst q; exact .head _
    · simp only [Bool.not_eq_true] at q; rw [q] at e; exact .tail _ (mem_of_lookup e)

/-- a local's value -/
theorem name_local {x : Str} {pos : Pos} {v : Value} {Q : Value → Shared → Prop} (S : Sim w s₀ L m P s) (hv : m.lookup x = some v) (h : All v fun v' => Q v' s)
    (hL : env.locals = L := by rfl) (hk : env.scope.kind = .function := by rfl) (hx : env.kindOf x = some .local := by rfl) (hd : (x == ("__debug__" : Str)) = false := by decide) :
    wpAny M A (eval (.Name x pos) env) Q E s := by
  subst hL
  obtain ⟨m', hn, hm⟩ := S.ns
  have := hm x v hv
  cases hq : m' x with
  | none => rw [hq] at this; cases this
  | some v' =>
    rw [hq] at this
    exact wpAny_Name (wpAny_loadName_local hk hx hn hq (h.of (Option.some.inj this))) hd
theorem loadName_local {x : Str} {v : Value} {Q : Value → Shared → Prop} (S : Sim w s₀ L m P s) (hv : m.lookup x = some v) (h : All v fun v' => Q v' s)
    (hL : env.locals = L := by rfl) (hk : env.scope.kind = .function := by rfl) (hx : env.kindOf x = some .local := by rfl) :
    wpAny M A (loadName env x) Q E s := by
  subst hL
  obtain ⟨m', hn, hm⟩ := S.ns
  have := hm x v hv
  cases hq : m' x with
  | none => rw [hq] at this; cases this
  | some v' =>
    rw [hq] at this
    exact wpAny_loadName_local hk hx hn hq (h.of (Option.some.inj this))

theorem Sim.setL (S : Sim w s₀ L m P s) {h' tk} {m' : List (Str × Value)} {n : Str → Option Value} (hn : h'.Ns L n) (hs : Heap.SameBut L s.heap h') (hm : ∀ x v, m'.lookup x = some v → (n x).map er = some v) :
    Sim w s₀ L m' P { s with heap := h', toks := tk } := by
  obtain ⟨ob, es, ep, a1, a2, a3, a4⟩ := hn
  obtain ⟨_, g1, g2, g3⟩ := S.led _ (.head _)
  refine ⟨S.eq, fun b o e => ?_, fun p hp => ?_, S.nd⟩
  · have : b ≠ L := by rintro rfl; rw [g3.1] at e; cases e
    exact (hs.2 b this).trans (S.keep b o e)
  · rcases List.mem_cons.mp hp with rfl | hp
    · exact ⟨ob, a1, ⟨es, ep, a2, a3, fun x v e => by rw [a4]; exact hm x v e⟩, g3.fr⟩
    · obtain ⟨ob', k1, k2⟩ := S.led p (.tail _ hp)
      exact ⟨ob', (hs.2 _ (S.ne (a := p.1) (o := p.2) hp)).trans k1, k2⟩

theorem store_local {x : Str} {v : Value} {Q : Unit → Shared → Prop} (S : Sim w s₀ L m P s) (h : ∀ s', Sim w s₀ L ((x, er v) :: m) P s' → Q () s')
    (hL : env.locals = L := by rfl) (hk : env.scope.kind = .function := by rfl) (hx : env.kindOf x = some .local := by rfl) :
    wpAny M A (storeName env x v) Q E s := by
  subst hL
  obtain ⟨m', hn, hm⟩ := S.ns
  refine wpAny_storeName_local hx hn (fun h' hn' hs => h _ (S.setL hn' hs fun y u hy => ?_)) (by rw [hk]; rfl)
  rw [List.lookup_cons] at hy
  by_cases e : y = x
  · subst e; simp at hy; simp [hy]
  · have e' : (y == x) = false := beq_eq_false_iff_ne.mpr e
    rw [e'] at hy; simp only [e, if_false]; exact hm y u hy

theorem Sim.vars (S : Sim w s₀ L m P s) {m'} (h : ∀ p ∈ m', m.lookup p.1 = some p.2) : Sim w s₀ L m' P s := by
  refine ⟨S.eq, S.keep, fun p hp => ?_, S.nd⟩
  rcases List.mem_cons.mp hp with rfl | hp
  · obtain ⟨ob, h1, ⟨es, ep, h2, h3, h4⟩, h5⟩ := S.led _ (.head _)
    refine ⟨ob, h1, ⟨es, ep, h2, h3, fun x v e => h4 x v ?_⟩, h5.fr⟩
    have : (x, v) ∈ m' := mem_of_lookup e
    exact h _ this
  · exact S.led p (.tail _ hp)

theorem Sim.leave {L' m'} (S : Sim w s₀ L' m' ((L, .frame m) :: P) s) : Sim w s₀ L m P s :=
  ⟨S.eq, S.keep, fun p hp => S.led p (.tail _ hp), by have := S.nd; simp only [List.map_cons, List.nodup_cons] at this ⊢; exact this.2⟩

/-- a global of the text -/
theorem name_glob {x : Str} {pos : Pos} {v : Value} {Q : Value → Shared → Prop} (G : Gr K s₀.heap) (S : Sim w s₀ L m P s) (e : nsIn K mainGlobals x = some (some v)) (h : Q v s)
    (hg : env.globals = mainGlobals := by rfl) (hk : env.scope.kind = .function := by rfl) (hx : env.kindOf x = some .globalImplicit := by rfl) (hd : (x == ("__debug__" : Str)) = false := by decide) :
    wpAny M A (eval (.Name x pos) env) Q E s := by
  obtain ⟨p, l, mg, mb, T⟩ := G.T
  exact Name_function_global hk hx (loadGlobal_global (hg ▸ T.g.keeps S.keep) (mg_of G.X T.g e) h) hd
/-- a built-in -/
theorem name_boot {x : Str} {pos : Pos} {v : Value} {Q : Value → Shared → Prop} (G : Gr K s₀.heap) (S : Sim w s₀ L m P s) (e : nsIn K mainGlobals x = some none) (hv : bootBuiltins x = some v) (h : Q v s)
    (hn : x ≠ "__name__" := by decide) (hg : env.globals = mainGlobals := by rfl) (hb : env.builtins = builtinsNs := by rfl) (hk : env.scope.kind = .function := by rfl) (hx : env.kindOf x = some .globalImplicit := by rfl) (hd : (x == ("__debug__" : Str)) = false := by decide) :
    wpAny M A (eval (.Name x pos) env) Q E s := by
  obtain ⟨p, l, mg, mb, T⟩ := G.T
  exact Name_function_global hk hx (loadGlobal_builtin (hg ▸ T.g.keeps S.keep) (mg_none_of G.X T.g e) (hb ▸ T.b.keeps S.keep) ((T.builtins x hn).trans hv) h) hd

theorem Sim.cell (S : Sim w s₀ L m P s) {c v} (hc : (c, MO.cell (some v)) ∈ P) : ∃ v', s.heap.IsCell c (some v') ∧ er v' = v := by
  obtain ⟨ob, h1, ⟨v', h2, h3⟩, _⟩ := S.get hc
  cases v' with
  | none => cases h3
  | some v' => exact ⟨v', ⟨ob, h1, h2⟩, Option.some.inj h3⟩
theorem name_cell {x : Str} {pos : Pos} {c : Addr} {v : Value} {Q : Value → Shared → Prop} (S : Sim w s₀ L m P s) (hc : env.cells.lookup x = some c) (hm : (c, MO.cell (some v)) ∈ P) (h : All v fun v' => Q v' s)
    (hk : env.scope.kind = .function := by rfl) (hx : env.kindOf x = some .cell := by rfl) (hd : (x == ("__debug__" : Str)) = false := by decide) :
    wpAny M A (eval (.Name x pos) env) Q E s := by
  obtain ⟨v', h1, h2⟩ := S.cell hm
  exact wpAny_Name (wpAny_loadName_cell hk hx hc h1 (h.of h2)) hd
theorem name_free {x : Str} {pos : Pos} {c : Addr} {v : Value} {Q : Value → Shared → Prop} (S : Sim w s₀ L m P s) (hc : env.cells.lookup x = some c) (hm : (c, MO.cell (some v)) ∈ P) (h : All v fun v' => Q v' s)
    (hk : env.scope.kind = .function := by rfl) (hx : env.kindOf x = some .free := by rfl) (hd : (x == ("__debug__" : Str)) = false := by decide) (hn : (x == ("__classdict__" : Str)) = false := by decide) :
    wpAny M A (eval (.Name x pos) env) Q E s := by
  obtain ⟨v', h1, h2⟩ := S.cell hm
  exact wpAny_Name (wpAny_loadName_free hk hx hc h1 (h.of h2) hn) hd
theorem store_cell {x : Str} {c : Addr} {v₀ : Option Value} {v : Value} {Q : Unit → Shared → Prop} (S : Sim w s₀ L m P s) (hc : env.cells.lookup x = some c) (U : Upd c (.cell v₀) (.cell (some (er v))) P P') (h : ∀ s', Sim w s₀ L m P' s' → Q () s')
    (hk : env.scope.kind = .function := by rfl) (hx : env.kindOf x = some .cell := by rfl) :
    wpAny M A (storeName env x v) Q E s := by
  obtain ⟨ob, h1, ⟨v', h2, h3⟩, _⟩ := S.get U.mem
  refine wpAny_storeName_cell hk hx hc ⟨ob, h1, h2⟩ fun h' hv hs => ?_
  obtain ⟨o', e1, e2⟩ := hv
  exact h _ (S.upd U hs (tk := s.toks) e1 ⟨_, e2, rfl⟩)

/-- what a body gives back -/
def retv : Flow → Value
  | .ret v => v
  | _ => .none

theorem frame_new {h' : Heap} {binds : List (Str × Value)} {tk} (S : Sim w s₀ L m P s) (hn : h'.Ns s.heap.objs.size (fun x => binds.reverse.lookup x)) (k : ∀ b o, s.heap.get? b = some o → h'.get? b = some o) :
    Sim w s₀ s.heap.objs.size (binds.reverse.map fun p => (p.1, er p.2)) ((L, .frame m) :: P) { s with heap := h', toks := tk } := by
  have S' : Sim w s₀ L m P { s with heap := h', toks := tk } := S.ext k
  obtain ⟨ob, es, ep, a1, a2, a3, a4⟩ := hn
  have fr : ∀ p ∈ (L, MO.frame m) :: P, p.1 ≠ s.heap.objs.size := fun p hp => by
    obtain ⟨ob', h1, _⟩ := S.led p hp
    exact Nat.ne_of_lt (Heap.lt_size h1)
  refine ⟨S'.eq, S'.keep, fun p hp => ?_, ?_⟩
  · rcases List.mem_cons.mp hp with rfl | hp
    · refine ⟨ob, a1, ⟨es, ep, a2, a3, fun x v e => ?_⟩, ?_⟩
      · rw [a4]
        clear a4 a3 a2 a1
        generalize binds.reverse = l at e
        induction l with
        | nil => cases e
        | cons q r ih =>
          obtain ⟨y, u⟩ := q
          simp only [List.map_cons, List.lookup_cons] at e ⊢
          cases hxy : x == y with
          | true => rw [hxy] at e; simpa using e
          | false => rw [hxy] at e; exact ih e
      · exact S.new (Nat.le_refl _)
    · exact S'.led _ hp
  · have := S.nd
    rw [List.map_cons, List.nodup_cons]
    refine ⟨fun q => ?_, this⟩
    obtain ⟨p, hp, e⟩ := List.mem_map.mp q
    exact fr p hp e

end

section
variable {prog : Program} {w : World} {K : Frag} {A : Around} {s₀ s : Shared} {L : Addr} {m : List (Str × Value)} {P P' : Led} {d : Nat}
end
end Mine
namespace Mine
section
variable {prog : Program} {w : World} {K : Frag} {A : Around} {s₀ s : Shared} {L : Addr} {m : List (Str × Value)} {P P' : Led} {d : Nat}

theorem frame_newC {s' : Shared} {ml cm : Str → Option Value} {mL : List (Str × Value)} {cs : List (Str × Addr)} (S : Sim w s₀ L m P s) (x : InCallC s s.heap.objs.size ml cs cm s') (hnd : (cs.map (·.1)).Nodup)
    (hmL : ∀ p ∈ mL, (ml p.1).map er = some p.2) :
    Sim w s₀ s.heap.objs.size mL (cs.map (fun p => (p.2, MO.cell ((cm p.1).map er))) ++ (L, .frame m) :: P) s' := by
  obtain ⟨h', tk, rfl, k⟩ := x.done
  have S' : Sim w s₀ L m P { s with heap := h', toks := tk } := S.ext k
  obtain ⟨ob, es, ep, a1, a2, a3, a4⟩ := x.toInCall.ns
  have fr : ∀ p ∈ (L, MO.frame m) :: P, p.1 < s.heap.objs.size := fun p hp => by
    obtain ⟨ob', h1, _⟩ := S.led p hp
    exact Heap.lt_size h1
  have new : ∀ a {o : MO}, s.heap.objs.size ≤ a → Fresh s₀ a o := fun a _ ha => S.new ha
  have cabove : ∀ p ∈ cs, s.heap.objs.size < p.2 := fun p hp => x.above p.1 p.2 hp
  refine ⟨S'.eq, S'.keep, fun p hp => ?_, ?_⟩
  · rcases List.mem_cons.mp hp with rfl | hp
    · refine ⟨ob, a1, ⟨es, ep, a2, a3, fun y v e => ?_⟩, new _ (Nat.le_refl _)⟩
      rw [a4]; exact hmL _ (mem_of_lookup e)
    · rcases List.mem_append.mp hp with hp | hp
      · obtain ⟨q, hq, rfl⟩ := List.mem_map.mp hp
        obtain ⟨o, h1, h2⟩ := x.cell q.1 q.2 (lookup_of_mem_nodup hnd hq)
        exact ⟨o, h1, ⟨_, h2, rfl⟩, new _ (Nat.le_of_lt (cabove q hq))⟩
      · exact S'.led _ hp
  · simp only [List.map_cons, List.map_append, List.map_map, List.nodup_cons, List.nodup_append, List.mem_append, List.mem_cons, not_or]
    have nd := S.nd
    simp only [List.map_cons, List.nodup_cons] at nd
    refine ⟨⟨fun q => ?_, ?_, fun q => ?_⟩, ?_, nd, ?_⟩
    · obtain ⟨p, hp, e⟩ := List.mem_map.mp q
      exact absurd (cabove p hp) (by have e' : p.2 = s.heap.objs.size := e; rw [e']; exact Nat.lt_irrefl _)
    · exact (Nat.ne_of_lt (fr _ (.head _))).symm
    · obtain ⟨p, hp, e⟩ := List.mem_map.mp q
      exact absurd (fr p (.tail _ hp)) (by rw [e]; exact Nat.lt_irrefl _)
    · exact List.pairwise_map.mpr (x.apart.imp fun h => h)
    · intro a ha b hb
      obtain ⟨p, hp, e⟩ := List.mem_map.mp ha
      have h1 := cabove p hp
      have e' : p.2 = a := e
      have h2 : b < s.heap.objs.size := by
        rcases hb with rfl | hb
        · exact fr _ (.head _)
        · obtain ⟨q, hq, rfl⟩ := List.mem_map.mp hb
          exact fr q (.tail _ hq)
      intro q; rw [← q, ← e'] at h2; exact Nat.lt_asymm h1 h2

/-- a def of the text with cells -/
theorem call_defC {f : Addr} {args : List Value} {binds : List (Str × Value)} {fd : FuncData} {body : List Stmt} {o : Obj} {Q : Value → Shared → Prop} (mL : List (Str × Value)) (ce : Addr → Led)
    (G : Gr K s₀.heap) (k : OK A (d + 1)) (S : Sim w s₀ L m P s)
    (hf : K.lookup f = some o) (hd : o.data = .func fd) (hcd : codeIn K fd.code fd.qualname = true) (hb : fd.body = .stmts body) (hbind : bindArgs fd ⟨args, []⟩ = pure binds) (hcl : fd.closure = [])
    (hkind : (binds.all fun y => fd.scope.names.lookup y.1 == some .local || fd.scope.names.lookup y.1 == some .cell) = true)
    (hnd : ((cellsFrom 0 fd.scope.names []).map (·.1)).Nodup)
    (hmL : ∀ p ∈ mL, ((bindL (callEnvC fd 0 f).kindOf binds fun _ => none) p.1).map er = some p.2)
    (hce : ∀ L', (cellsFrom (L' + 1) fd.scope.names []).map (fun p => (p.2, MO.cell (((bindC (callEnvC fd 0 f).kindOf binds fun _ => none) p.1).map er))) = ce L')
    (h : ∀ L' s' A', Sim w s₀ L' mL (ce L' ++ (L, .frame m) :: P) s' → OK A' d →
      wpAny (model prog w) A' (execs body (callEnvC fd L' f)) (fun fl s'' => Q (retv fl) s'') noE s')
    (hco : fd.scope.isCoroutine = false := by rfl) (hgen : fd.scope.isGenerator = false := by rfl) (hk : fd.scope.kind = .function := by rfl) :
    wpAny (model prog w) A (call (.ref f) args) Q noE s := by
  have X := S.K_in G
  obtain ⟨p, l, mg, mb, T⟩ := G.T
  refine wpAny_call (codeAny_call_cells k.room (X _ _ hf) hd (T.nolimit.keeps S.keep) (codeRec_of X hcd) hb hbind hcl (kindsX hkind _) (fun s₁ x => ?_) hco hgen hk)
  have S₁ := frame_newC (mL := mL) S x (cellsFrom_names fd.scope.names 0 (s.heap.objs.size + 1) [] [] rfl ▸ hnd) hmL
  refine wpAny_mono (h _ _ _ (hce s.heap.objs.size ▸ S₁) k.deeper) (fun fl s' q => ?_) fun _ _ x => x.elim
  cases fl <;> exact q
end
end Mine
namespace Mine
section
variable {prog : Program} {w : World} {K : Frag} {A : Around} {E : Value → Shared → Prop} {s₀ s : Shared} {L : Addr} {m : List (Str × Value)} {P P' : Led} {d : Nat} {env : Env} {a b : Int} {t u : Tok} {Q : Value → Shared → Prop}
theorem c_int {i : Int} {k pos} (S : Sim w s₀ L m P s) (h : ∀ t s', Sim w s₀ L m P s' → Q (.int i t) s') : wpAny (model prog w) A (eval (.Constant (.int i) k pos) env) Q E s := wpAny_Constant_int (h _ _ S.toks)
theorem c_str {x : Str} {k pos} (S : Sim w s₀ L m P s) (h : ∀ t s', Sim w s₀ L m P s' → Q (.str x t) s') : wpAny (model prog w) A (eval (.Constant (.str x) k pos) env) Q E s := wpAny_Constant_str (h _ _ S.toks)
theorem o_add (S : Sim w s₀ L m P s) (h : ∀ t s', Sim w s₀ L m P s' → Q (.int (a + b) t) s') : wpAny (model prog w) A (binaryOp .Add (.int a t) (.int b u)) Q E s := PySem.P.add_int (h _ _ S.toks)
theorem o_mul (S : Sim w s₀ L m P s) (hm : IntMulOk a b) (h : ∀ t s', Sim w s₀ L m P s' → Q (.int (a * b) t) s') : wpAny (model prog w) A (binaryOp .Mult (.int a t) (.int b u)) Q E s := PySem.P.mul_int (h _ _ S.toks) hm
theorem o_mod (S : Sim w s₀ L m P s) (hb : b ≠ 0) (h : ∀ t s', Sim w s₀ L m P s' → Q (.int (a.fmod b) t) s') : wpAny (model prog w) A (binaryOp .Mod (.int a t) (.int b u)) Q E s := mod_int' hb (h _ _ S.toks)
theorem o_pow (S : Sim w s₀ L m P s) (hn : 0 ≤ b) (hsz : (Builtin.Int.intBits a : Int) * b ≤ 2 ^ 27) (h : ∀ t s', Sim w s₀ L m P s' → Q (.int (a ^ b.toNat) t) s') : wpAny (model prog w) A (binaryOp .Pow (.int a t) (.int b u)) Q E s := pow_int hn hsz (h _ _ S.toks)
theorem o_shl (S : Sim w s₀ L m P s) (hn : 0 ≤ b) (hn2 : b ≤ 1000000) (ha : a.natAbs < 2 ^ 64) (h : ∀ t s', Sim w s₀ L m P s' → Q (.int (a * 2 ^ b.toNat) t) s') : wpAny (model prog w) A (binaryOp .LShift (.int a t) (.int b u)) Q E s := lshift_int_small hn hn2 ha (h _ _ S.toks)
theorem o_shr (S : Sim w s₀ L m P s) (hn : 0 ≤ b) (h : ∀ t s', Sim w s₀ L m P s' → Q (.int (a.fdiv (2 ^ b.toNat)) t) s') : wpAny (model prog w) A (binaryOp .RShift (.int a t) (.int b u)) Q E s := rshift_int hn (h _ _ S.toks)
theorem o_and (S : Sim w s₀ L m P s) (h : ∀ t s', Sim w s₀ L m P s' → Q (.int (Builtin.bitAnd a b) t) s') : wpAny (model prog w) A (binaryOp .BitAnd (.int a t) (.int b u)) Q E s := and_int (h _ _ S.toks)
theorem o_xor (S : Sim w s₀ L m P s) (h : ∀ t s', Sim w s₀ L m P s' → Q (.int (Builtin.bitXor a b) t) s') : wpAny (model prog w) A (binaryOp .BitXor (.int a t) (.int b u)) Q E s := xor_int (h _ _ S.toks)
theorem o_iadd (S : Sim w s₀ L m P s) (h : ∀ t s', Sim w s₀ L m P s' → Q (.int (a + b) t) s') : wpAny (model prog w) A (inplaceOp .Add (.int a t) (.int b u)) Q E s := PySem.P.iadd_int (h _ _ S.toks)
theorem o_isub (S : Sim w s₀ L m P s) (h : ∀ t s', Sim w s₀ L m P s' → Q (.int (a - b) t) s') : wpAny (model prog w) A (inplaceOp .Sub (.int a t) (.int b u)) Q E s := PySem.P.isub_int (h _ _ S.toks)
theorem o_ixor (S : Sim w s₀ L m P s) (h : ∀ t s', Sim w s₀ L m P s' → Q (.int (Builtin.bitXor a b) t) s') : wpAny (model prog w) A (inplaceOp .BitXor (.int a t) (.int b u)) Q E s := ixor_int (h _ _ S.toks)
theorem o_neg (S : Sim w s₀ L m P s) (h : ∀ t s', Sim w s₀ L m P s' → Q (.int (-a) t) s') : wpAny (model prog w) A (unaryOp .USub (.int a t)) Q E s := PySem.P.neg_int (h _ _ S.toks)
end
end Mine
namespace Mine
section
variable {w : World} {K : Frag} {A : Around} {E : Value → Shared → Prop} {s₀ s : Shared} {L : Addr} {m : List (Str × Value)} {P P' : Led} {d : Nat} {env : Env}

theorem Sim.fr (S : Sim w s₀ L m P s) : ∃ m', Fr s₀.heap L s.heap m' ∧ ∀ x v, m.lookup x = some v → (m' x).map er = some v := by
  obtain ⟨m', hn, hm⟩ := S.ns
  obtain ⟨_, _, _, h3⟩ := S.led _ (.head _)
  exact ⟨m', ⟨hn, S.keep, h3.2.2 _ rfl⟩, hm⟩

/-- the ledger's own objects -/
inductive Are (w : World) : Led → List (Addr × Obj) → Prop
  | nil : Are w [] []
  | cons {a o ob P N} : RelO w o ob → Are w P N → Are w ((a, o) :: P) ((a, ob) :: N)
theorem Are.app {X Y N M} (h : Are w X N) (k : Are w Y M) : Are w (X ++ Y) (N ++ M) := by
  induction h with
  | nil => exact k
  | cons r _ ih => exact .cons r ih
theorem Are.fst {X N} (h : Are w X N) : N.map (·.1) = X.map (·.1) := by
  induction h with
  | nil => rfl
  | cons _ _ ih => simp [ih]
theorem Are.find {X N} (h : Are w X N) {p : Addr × MO} (hp : p ∈ X) : ∃ ob, (p.1, ob) ∈ N ∧ RelO w p.2 ob := by
  induction h with
  | nil => cases hp
  | @cons a o ob P N r _ ih =>
    rcases List.mem_cons.mp hp with rfl | hp
    · exact ⟨ob, .head _, r⟩
    · obtain ⟨ob, h1, h2⟩ := ih hp; exact ⟨ob, .tail _ h1, h2⟩
theorem are_of {h : Heap} : ∀ {P : Led}, (∀ p ∈ P, ∃ ob, h.get? p.1 = some ob ∧ RelO w p.2 ob) → ∃ N, Are w P N ∧ ∀ q ∈ N, h.get? q.1 = some q.2
  | [], _ => ⟨[], .nil, fun _ h => nomatch h⟩
  | (a, o) :: P, k => by
    obtain ⟨ob, h1, h2⟩ := k (a, o) (.head _)
    obtain ⟨N, h3, h4⟩ := are_of (P := P) fun p hp => k p (.tail _ hp)
    refine ⟨(a, ob) :: N, .cons h2 h3, fun q hq => ?_⟩
    rcases List.mem_cons.mp hq with rfl | hq
    · exact h1
    · exact h4 q hq

theorem Sim.news (S : Sim w s₀ L m P s) : ∃ N, Are w P N ∧ News s₀.heap L s.heap N := by
  obtain ⟨N, h1, h2⟩ := are_of (w := w) (h := s.heap) (P := P) fun p hp => let ⟨ob, a, b, _⟩ := S.led p (.tail _ hp); ⟨ob, a, b⟩
  refine ⟨N, h1, fun q hq => ⟨h2 q hq, ?_, ?_⟩⟩
  · have : q.1 ∈ P.map (·.1) := h1.fst ▸ List.mem_map_of_mem hq
    obtain ⟨p, hp, e⟩ := List.mem_map.mp this
    rw [← e]; exact S.ne (a := p.1) (o := p.2) hp
  · have : q.1 ∈ P.map (·.1) := h1.fst ▸ List.mem_map_of_mem hq
    obtain ⟨p, hp, e⟩ := List.mem_map.mp this
    obtain ⟨_, _, _, h⟩ := S.led p (.tail _ hp)
    rw [← e]; exact h.1

theorem Sim.of_news {h' tk m' N} (S : Sim w s₀ L m P s) (F : Fr s₀.heap L h' m') (hm : ∀ x v, m.lookup x = some v → (m' x).map er = some v) (Ns : News s₀.heap L h' N) (A : Are w P' N) (hn : (P'.map (·.1)).Nodup) (hl : ∀ p ∈ P', Fresh s₀ p.1 p.2) :
    Sim w s₀ L m P' { s with heap := h', toks := tk } := by
  refine ⟨S.eq, F.keep, fun p hp => ?_, ?_⟩
  · rcases List.mem_cons.mp hp with rfl | hp
    · obtain ⟨ob, es, ep, a1, a2, a3, a4⟩ := F.ns
      exact ⟨ob, a1, ⟨es, ep, a2, a3, fun x v e => by rw [a4]; exact hm x v e⟩, (S.led _ (.head _)).choose_spec.2.2⟩
    · obtain ⟨ob, h1, h2⟩ := A.find hp
      exact ⟨ob, (Ns _ h1).1, h2, hl p hp⟩
  · rw [List.map_cons, List.nodup_cons]
    refine ⟨fun q => ?_, hn⟩
    rw [← A.fst] at q
    obtain ⟨p, hp, e⟩ := List.mem_map.mp q
    exact (Ns p hp).2.1 e

/-- one object turned, by a rule over News -/
theorem Sim.viaNews (S : Sim w s₀ L m P s) {a o o'} (U : Mine.Upd a o o' P P') (hnf : ∀ m, o' ≠ .frame m := by intro m h; cases h) : ∃ m' pre ob post, Fr s₀.heap L s.heap m' ∧ News s₀.heap L s.heap (pre ++ (a, ob) :: post) ∧ RelO w o ob ∧ (∀ p ∈ pre, p.1 ≠ a) ∧ (∀ p ∈ post, p.1 ≠ a) ∧
    (∀ h' tk ob', RelO w o' ob' → Fr s₀.heap L h' m' → News s₀.heap L h' (pre ++ (a, ob') :: post) → Sim w s₀ L m P' { s with heap := h', toks := tk }) ∧ ∀ p ∈ P, p.1 ≠ a → ∃ ob, (p.1, ob) ∈ pre ++ post ∧ RelO w p.2 ob := by
  obtain ⟨m', F, hm⟩ := S.fr
  have O := S.led
  obtain ⟨X, Y, rfl, rfl⟩ := U.split
  have oth := S.other rfl
  have nd := S.nd
  obtain ⟨N1, a1, k1⟩ := are_of (w := w) (h := s.heap) (P := X) fun p hp => let ⟨ob, a, b, _⟩ := O p (.tail _ (List.mem_append_left _ hp)); ⟨ob, a, b⟩
  obtain ⟨N2, a2, k2⟩ := are_of (w := w) (h := s.heap) (P := Y) fun p hp => let ⟨ob, a, b, _⟩ := O p (.tail _ (List.mem_append_right _ (.tail _ hp))); ⟨ob, a, b⟩
  obtain ⟨ob, g1, g2, g3⟩ := S.get U.mem
  have o1 : ∀ p ∈ N1, p.1 ≠ a := fun q hq => by
    have : q.1 ∈ X.map (·.1) := a1.fst ▸ List.mem_map_of_mem hq
    obtain ⟨p, hp, e⟩ := List.mem_map.mp this
    rw [← e]; exact oth p (.tail _ (List.mem_append_left _ hp))
  have o2 : ∀ p ∈ N2, p.1 ≠ a := fun q hq => by
    have : q.1 ∈ Y.map (·.1) := a2.fst ▸ List.mem_map_of_mem hq
    obtain ⟨p, hp, e⟩ := List.mem_map.mp this
    rw [← e]; exact oth p (.tail _ (List.mem_append_right _ hp))
  have AA : Are w (X ++ (a, o) :: Y) (N1 ++ (a, ob) :: N2) := a1.app (.cons g2 a2)
  refine ⟨m', N1, ob, N2, F, fun q hq => ?_, g2, o1, o2, fun h' tk ob' r F' N' => ?_, fun p hp hne => ?_⟩
  · have hf : q.1 ∈ (X ++ (a, o) :: Y).map (·.1) := AA.fst ▸ List.mem_map_of_mem hq
    obtain ⟨p, hp, e⟩ := List.mem_map.mp hf
    refine ⟨?_, e ▸ S.ne (a := p.1) (o := p.2) hp, ?_⟩
    · rcases List.mem_append.mp hq with hq | hq
      · exact k1 q hq
      · rcases List.mem_cons.mp hq with rfl | hq
        · exact g1
        · exact k2 q hq
    · obtain ⟨_, _, _, h⟩ := O p (.tail _ hp)
      rw [← e]; exact h.1
  · refine S.of_news F' hm N' (a1.app (.cons r a2)) ?_ fun p hp => ?_
    · simp only [List.map_cons, List.nodup_cons] at nd
      simpa using nd.2
    · rcases List.mem_append.mp hp with hp | hp
      · obtain ⟨_, _, _, h⟩ := O p (.tail _ (List.mem_append_left _ hp)); exact h
      · rcases List.mem_cons.mp hp with rfl | hp
        · exact g3.to hnf
        · obtain ⟨_, _, _, h⟩ := O p (.tail _ (List.mem_append_right _ (.tail _ hp))); exact h
  · rcases List.mem_append.mp hp with hp | hp
    · obtain ⟨ob, h1, h2⟩ := a1.find hp; exact ⟨ob, List.mem_append_left _ h1, h2⟩
    · rcases List.mem_cons.mp hp with rfl | hp
      · exact absurd rfl hne
      · obtain ⟨ob, h1, h2⟩ := a2.find hp; exact ⟨ob, List.mem_append_right _ h1, h2⟩
end
end Mine
namespace Mine

theorem handed_er {v v' : Value} (e : er v' = v) : handedIn v' = handedIn v := by subst e; cases v' <;> rfl
def puta (name : Str) (v : Value) : List (Str × Value) → List (Str × Value)
  | [] => [(name, v)]
  | (y, u) :: r => if y = name then (y, v) :: r else (y, u) :: puta name v r

theorem updW {d : Addr} {o o' : Obj} {post : List (Addr × Obj)} (h2 : ∀ p ∈ post, p.1 ≠ d) : ∀ {pre : List (Addr × Obj)}, (∀ p ∈ pre, p.1 ≠ d) → W.Upd d o o' (pre ++ (d, o) :: post) (pre ++ (d, o') :: post)
  | [], _ => .head h2
  | p :: _, h1 => .tail (h1 p (.head _)) (updW h2 fun q hq => h1 q (.tail _ hq))

abbrev eKey (e : DictEntry) : Int × Value × Value := (e.hash, er e.key, er e.val)
section
variable {W : Params} {name : Str}
theorem attrs_get {v : Value} : ∀ {es : List DictEntry} {am : List (Str × Value)}, es.map eKey = am.map (fun p => (PyData.keyHash W p.1, T p.1, p.2)) → am.lookup name = some v → ∃ v', getL name es = some (some v') ∧ er v' = v
  | [], [], _, h => by cases h
  | [], _ :: _, e, _ => by cases e
  | _ :: _, [], e, _ => by cases e
  | e :: es, (y, u) :: am, q, h => by
    simp only [List.map_cons, List.cons.injEq, Prod.mk.injEq] at q
    obtain ⟨⟨_, h1, h2⟩, h3⟩ := q
    obtain ⟨t, hk⟩ := er_str h1
    have hs : e.key.isStr name = (y == name) := by rw [hk]; rfl
    rw [List.lookup_cons] at h
    unfold getL
    rw [List.find?_cons, hs]
    cases hy : y == name with
    | true =>
      have : (name == y) = true := by rw [beq_iff_eq] at hy ⊢; exact hy.symm
      rw [this] at h; cases h; exact ⟨e.val, rfl, h2⟩
    | false =>
      have : (name == y) = false := by rw [beq_eq_false_iff_ne] at hy ⊢; exact hy.symm
      rw [this] at h
      obtain ⟨v', g1, g2⟩ := attrs_get h3 h
      unfold getL at g1
      refine ⟨v', ?_, g2⟩
      split at g1
      · rename_i q; rw [q]; exact g1
      · rename_i q; split at g1 <;> cases g1
theorem attrs_none : ∀ {es : List DictEntry} {am : List (Str × Value)}, es.map eKey = am.map (fun p => (PyData.keyHash W p.1, T p.1, p.2)) → am.lookup name = none → getL name es = some none
  | [], [], _, _ => rfl
  | [], _ :: _, e, _ => by cases e
  | _ :: _, [], e, _ => by cases e
  | e :: es, (y, u) :: am, q, h => by
    simp only [List.map_cons, List.cons.injEq, Prod.mk.injEq] at q
    obtain ⟨⟨_, h1, h2⟩, h3⟩ := q
    obtain ⟨t, hk⟩ := er_str h1
    have hs : e.key.isStr name = (y == name) := by rw [hk]; rfl
    have hr : e.refKey = false := by unfold DictEntry.refKey; rw [hk]
    rw [List.lookup_cons] at h
    cases hy : y == name with
    | true =>
      have : (name == y) = true := by rw [beq_iff_eq] at hy ⊢; exact hy.symm
      rw [this] at h; cases h
    | false =>
      have : (name == y) = false := by rw [beq_eq_false_iff_ne] at hy ⊢; exact hy.symm
      rw [this] at h
      have g1 := attrs_none h3 h
      unfold getL at g1 ⊢
      rw [List.find?_cons, hs, hy, List.any_cons, hr, Bool.false_or]
      exact g1
theorem attrs_put {v : Value} {t : Tok} : ∀ {es : List DictEntry} {am : List (Str × Value)}, es.map eKey = am.map (fun p => (PyData.keyHash W p.1, T p.1, p.2)) →
    (putL name (PyData.keyHash W name) (.str name t) v es).map eKey = (puta name (er v) am).map (fun p => (PyData.keyHash W p.1, T p.1, p.2))
  | [], [], _ => rfl
  | [], _ :: _, e => by cases e
  | _ :: _, [], e => by cases e
  | e :: es, (y, u) :: am, q => by
    have q' := q
    simp only [List.map_cons, List.cons.injEq, Prod.mk.injEq] at q
    obtain ⟨⟨h0, h1, h2⟩, h3⟩ := q
    obtain ⟨t', hk⟩ := er_str h1
    have hs : e.key.isStr name = (y == name) := by rw [hk]; rfl
    unfold putL puta
    rw [hs]
    cases hy : y == name with
    | true =>
      rw [beq_iff_eq] at hy
      simp only [hy, if_true, List.map_cons, List.cons.injEq, Prod.mk.injEq]
      subst hy
      exact ⟨⟨h0, h1, trivial⟩, h3⟩
    | false =>
      rw [beq_eq_false_iff_ne] at hy
      simp only [hy, if_false, List.map_cons, List.cons.injEq, Prod.mk.injEq, Bool.false_eq_true]
      exact ⟨⟨h0, h1, h2⟩, attrs_put h3⟩
theorem attrs_len : ∀ {es : List DictEntry} {am : List (Str × Value)}, es.map eKey = am.map (fun p => (PyData.keyHash W p.1, T p.1, p.2)) → es.length = am.length := fun h => by
  have := congrArg List.length h; simpa using this
end

section
variable {prog : Program} {w : World} {K : Frag} {A : Around} {E : Value → Shared → Prop} {s₀ s : Shared} {L : Addr} {m : List (Str × Value)} {P P' : Led} {d : Nat} {env : Env} {x dx C : Addr} {am : List (Str × Value)} {name : Str}

theorem Sim.inst (S : Sim w s₀ L m P s) (hx : (x, .inst C dx) ∈ P) (hd : (dx, .attrs am) ∈ P) : ∃ es n, W.InstAt s.heap x (instObj C dx) C (some (dictOf es n)) ∧ es.map eKey = am.map (fun p => (PyData.keyHash w.params p.1, T p.1, p.2)) := by
  obtain ⟨ob, h1, rfl, _⟩ := S.get hx
  obtain ⟨ob', h2, ⟨es, n, rfl, h3⟩, _⟩ := S.get hd
  exact ⟨es.toList, n, ⟨h1, rfl, rfl, by simpa using h2⟩, h3⟩

/-- reading an attribute of an instance's own -/
theorem attr_get {v : Value} {expr : Bool} {attr : Option Value} {Q : Value → Shared → Prop} (G : Gr K s₀.heap) (S : Sim w s₀ L m P s) (hx : (x, .inst C dx) ∈ P) (hd : (dx, .attrs am) ∈ P) (hl : am.lookup name = some v)
    (hg : plainGet K C name = true) (hh : hasDictIn K C = true) (ha : findIn K (.ref C) name = some attr) (hn : noGet K attr = true) (hv : handedIn v = true)
    (h : All v fun v' => ∀ s', Sim w s₀ L m P s' → Q v' s') : wpAny (model prog w) A (getAttr (.ref x) name expr) Q E s := by
  obtain ⟨es, n, I, he⟩ := S.inst hx hd
  obtain ⟨m', F, _⟩ := S.fr
  obtain ⟨v', g1, g2⟩ := attrs_get he hl
  exact get_own F G.X I hg hh ha hn g1 (handed_er g2 ▸ hv) (h.of g2 _ S.toks)

theorem attr_set {v : Value} {Q : Unit → Shared → Prop} (G : Gr K s₀.heap) (S : Sim w s₀ L m P s) (hx : (x, .inst C dx) ∈ P) (U : Mine.Upd dx (.attrs am) (.attrs (puta name (er v) am)) P P')
    (hs : findIn K (.ref C) "__setattr__" = some (some (.builtin "object.__setattr__"))) (hp : plainOver K C = true) (ht : takerIn K C name = some none) (hh : hasDictIn K C = true) (hz : (puta name (er v) am).length ≤ 1000)
    (h : ∀ s', Sim w s₀ L m P' s' → Q () s') : wpAny (model prog w) A (setAttr (.ref x) name v) Q E s := by
  obtain ⟨es, n, I, he⟩ := S.inst hx U.mem
  obtain ⟨m', pre, ob, post, F, N, r, h1, h2, back, _⟩ := S.viaNews U
  obtain ⟨es', n', rfl, _⟩ := r
  have e1 := (N _ (List.mem_append_right pre (.head post))).1
  have e2 : s.heap.get? dx = some (dictOf es n) := I.dict
  rw [e2] at e1
  have e3 := Option.some.inj e1
  simp only [Obj.mk.injEq, Data.dict.injEq, true_and, and_true] at e3
  obtain ⟨e4, e5⟩ := e3
  subst e4 e5
  have hgl : (getL name es).isSome = true := by
    cases hq : am.lookup name with
    | some v => obtain ⟨v', g1, _⟩ := attrs_get he hq; rw [g1]; rfl
    | none => rw [attrs_none he hq]; rfl
  refine set_dict (es' := putL name (PyData.keyHash w.params name) (.str name (s.toks + 1)) v es) (n' := putN name es n) (news' := pre ++ (dx, dictOf (putL name (PyData.keyHash w.params name) (.str name (s.toks + 1)) v es) (putN name es n)) :: post)
    F G.X N I rfl hs hp ht hh hgl rfl ?_ ?_ fun h' F' N' => ?_
  · exact updW h2 h1
  · have := attrs_len (attrs_put (name := name) (v := v) (t := s.toks + 1) he); omega
  · exact h _ (back h' (s.toks + 2) _ ⟨_, _, rfl, by simpa using attrs_put he⟩ F' N')

theorem meth_inst {pl : Sem Bool} {f : Addr} {Q : Value × List Value → Shared → Prop} (G : Gr K s₀.heap) (S : Sim w s₀ L m P s) (hx : (x, .inst C dx) ∈ P) (hd : (dx, .attrs am) ∈ P) (hl : am.lookup name = none)
    (hg : plainGet K C name = true) (hf : findIn K (.ref C) name = some (some (.ref f))) (ht : isFn K (.ref f) = true) (h : Q (.ref f, [.ref x]) s) : wpAny (model prog w) A (getMethod (.ref x) name pl) Q E s := by
  obtain ⟨es, n, I, he⟩ := S.inst hx hd
  obtain ⟨m', F, _⟩ := S.fr
  exact method_inst F G.X I hg hf ht (attrs_none he hl) h

/-- a slot's value -/
theorem slot_get {v : Value} {expr : Bool} {p : Addr} {i : Nat} {vs : List (Option Value)} {Q : Value → Shared → Prop} (G : Gr K s₀.heap) (S : Sim w s₀ L m P s) (hx : (x, .slots C dx vs) ∈ P) (hd : (dx, .attrs am) ∈ P)
    (hg : plainGet K C name = true) (hc : isClsIn K C = true) (ha : findIn K (.ref C) name = some (some (.ref p))) (hn : specialIn K (.ref p) "__get__" = some (some (.builtin "member_descriptor.__get__"))) (ht : takesIn K (.ref p) = some true) (hp : slotIn K p C = some i)
    (hv : vs[i]?.join = some v) (hh : handedIn v = true) (h : All v fun v' => ∀ s', Sim w s₀ L m P s' → Q v' s') : wpAny (model prog w) A (getAttr (.ref x) name expr) Q E s := by
  obtain ⟨ob, h1, ⟨sl, rfl, hsl⟩, _⟩ := S.get hx
  obtain ⟨ob', h2, ⟨es, n, rfl, h3⟩, _⟩ := S.get hd
  obtain ⟨m', F, _⟩ := S.fr
  have : ∃ v', sl[i]?.join = some v' ∧ er v' = v := by
    rw [← hsl, List.getElem?_map] at hv
    rw [← Array.getElem?_toList]
    cases q : sl.toList[i]? with
    | none => rw [q] at hv; cases hv
    | some o => cases o with
      | none => rw [q] at hv; cases hv
      | some v' => rw [q] at hv; exact ⟨v', rfl, Option.some.inj hv⟩
  obtain ⟨v', g1, g2⟩ := this
  exact get_slot (od := _) F G.X ⟨h1, rfl, rfl, h2⟩ hg hc ha hn ht hp g1 (handed_er g2 ▸ hh) (h.of g2 _ S.toks)

def setAtL : List (Option Value) → Nat → Value → List (Option Value)
  | [], 0, v => [some v]
  | [], n + 1, v => none :: setAtL [] n v
  | _ :: r, 0, v => some v :: r
  | x :: r, n + 1, v => x :: setAtL r n v
theorem setAtL_eq (v : Value) : ∀ (vs : List (Option Value)) (i : Nat), (vs ++ List.replicate (i + 1 - vs.length) none).set i (some v) = setAtL vs i v
  | [], 0 => rfl
  | [], n + 1 => by
    have := setAtL_eq v [] n
    simp only [List.nil_append, List.length_nil, Nat.sub_zero, setAtL] at this ⊢
    rw [List.replicate_succ, List.set_cons_succ, this]
  | x :: r, 0 => by simp [setAtL]
  | x :: r, n + 1 => by
    have := setAtL_eq v r n
    simp only [List.cons_append, List.length_cons, Nat.add_sub_add_right, List.set_cons_succ, setAtL, this]

theorem slot_set {v : Value} {p : Addr} {i : Nat} {vs : List (Option Value)} {Q : Unit → Shared → Prop} (G : Gr K s₀.heap) (S : Sim w s₀ L m P s) (U : Mine.Upd x (.slots C dx vs) (.slots C dx (setAtL vs i (er v))) P P') (hd : (dx, .attrs am) ∈ P)
    (hs : findIn K (.ref C) "__setattr__" = some (some (.builtin "object.__setattr__"))) (hp : plainOver K C = true) (ht : takerIn K C name = some (some (.ref p))) (hT : typeIn K (.ref p) = some (.type "member_descriptor")) (hi : slotIn K p C = some i) (hz : i < 1000)
    (h : ∀ s', Sim w s₀ L m P' s' → Q () s') : wpAny (model prog w) A (setAttr (.ref x) name v) Q E s := by
  obtain ⟨ob', h2, ⟨es, n, rfl, h3⟩, _⟩ := S.get hd
  obtain ⟨m', pre, ob, post, F, N, r, k1, k2, back, _⟩ := S.viaNews U
  obtain ⟨sl, rfl, hsl⟩ := r
  have e1 := (N _ (List.mem_append_right pre (.head post))).1
  refine set_slot (od := _) (ox' := { cls := .ref C, dict := some dx, data := .plain, slots := (sl ++ Array.replicate (i + 1 - sl.size) none).setIfInBounds i (some v) })
    (news' := pre ++ (x, { cls := .ref C, dict := some dx, data := .plain, slots := (sl ++ Array.replicate (i + 1 - sl.size) none).setIfInBounds i (some v) }) :: post) F G.X N ⟨e1, rfl, rfl, h2⟩ hs hp ht hT hi hz rfl rfl ?_ fun h' F' N' => ?_
  · exact updW k2 k1
  · refine h _ (back h' (s.toks + 1) _ ⟨_, rfl, ?_⟩ F' N')
    have hlen : sl.size = vs.length := by rw [← hsl]; simp
    simp only [Array.toList_setIfInBounds, Array.toList_append, Array.toList_replicate, List.map_set, List.map_append, hsl, List.map_replicate, Option.map_none, Option.map_some, hlen]
    exact setAtL_eq _ _ _
end
end Mine
namespace Mine
section
variable {prog : Program} {w : World} {K : Frag} {A : Around} {E : Value → Shared → Prop} {s₀ s : Shared} {L : Addr} {m : List (Str × Value)} {P P' : Led} {d : Nat} {env : Env}

theorem frame_new2 {h' : Heap} {binds mL : List (Str × Value)} {tk} (S : Sim w s₀ L m P s) (hn : h'.Ns s.heap.objs.size (fun x => binds.reverse.lookup x)) (k : ∀ b o, s.heap.get? b = some o → h'.get? b = some o)
    (hmL : ∀ p ∈ mL, (binds.reverse.lookup p.1).map er = some p.2) :
    Sim w s₀ s.heap.objs.size mL ((L, .frame m) :: P) { s with heap := h', toks := tk } := by
  have S' := frame_new (tk := tk) S hn k
  obtain ⟨ob, es, ep, a1, a2, a3, a4⟩ := hn
  refine ⟨S'.eq, S'.keep, fun p hp => ?_, S'.nd⟩
  rcases List.mem_cons.mp hp with rfl | hp
  · refine ⟨ob, a1, ⟨es, ep, a2, a3, fun x v e => ?_⟩, S.new (Nat.le_refl _)⟩
    rw [a4]; exact hmL _ (mem_of_lookup e)
  · exact S'.led p (.tail _ hp)

/-- a def of the text without cells; its code -/
theorem code_def {f : Addr} {args : List Value} {binds : List (Str × Value)} {fd : FuncData} {body : List Stmt} {o : Obj} {R : Result → Shared → Prop} (mL : List (Str × Value)) (G : Gr K s₀.heap) (k : OK A (d + 1)) (S : Sim w s₀ L m P s)
    (hf : K.lookup f = some o) (hd : o.data = .func fd) (hcd : codeIn K fd.code fd.qualname = true) (hb : fd.body = .stmts body) (hbind : BindsTo s fd ⟨args, []⟩ binds)
    (hcell : ∀ x ∈ fd.scope.names, x.2 ≠ .cell) (hloc : (binds.all fun x => decide (fd.scope.names.lookup x.1 = some .local)) = true) (hmL : ∀ p ∈ mL, (binds.reverse.lookup p.1).map er = some p.2)
    (h : ∀ L' s' A', Sim w s₀ L' mL ((L, .frame m) :: P) s' → OK A' d →
      wpAny (model prog w) A' (execs body (callEnv fd L' f)) (fun fl s'' => R (.ok (.ret (retv fl))) s'') noE s')
    (hco : fd.scope.isCoroutine = false := by rfl) (hgen : fd.scope.isGenerator = false := by rfl) (hk : fd.scope.kind = .function := by rfl) :
    codeAny (model prog w) A (.call (.ref f) ⟨args, []⟩) R s := by
  have X := S.K_in G
  obtain ⟨p, l, mg, mb, T⟩ := G.T
  refine codeAny_call_def k.room (X _ _ hf) hd (T.nolimit.keeps S.keep) (codeRec_of X hcd) hb hbind hcell (locs hloc) (fun h₁ hn hk₁ => ?_) hco hgen hk
  refine wpAny_mono (h _ _ _ (frame_new2 S hn hk₁ hmL) k.deeper) (fun fl s' q => ?_) fun _ _ x => x.elim
  cases fl <;> exact q

theorem call_def2 {f : Addr} {args : List Value} {binds : List (Str × Value)} {fd : FuncData} {body : List Stmt} {o : Obj} {Q : Value → Shared → Prop} (mL : List (Str × Value)) (G : Gr K s₀.heap) (k : OK A (d + 1)) (S : Sim w s₀ L m P s)
    (hf : K.lookup f = some o) (hd : o.data = .func fd) (hcd : codeIn K fd.code fd.qualname = true) (hb : fd.body = .stmts body) (hbind : BindsTo s fd ⟨args, []⟩ binds)
    (hcell : ∀ x ∈ fd.scope.names, x.2 ≠ .cell) (hloc : (binds.all fun x => decide (fd.scope.names.lookup x.1 = some .local)) = true) (hmL : ∀ p ∈ mL, (binds.reverse.lookup p.1).map er = some p.2)
    (h : ∀ L' s' A', Sim w s₀ L' mL ((L, .frame m) :: P) s' → OK A' d →
      wpAny (model prog w) A' (execs body (callEnv fd L' f)) (fun fl s'' => Q (retv fl) s'') noE s')
    (hco : fd.scope.isCoroutine = false := by rfl) (hgen : fd.scope.isGenerator = false := by rfl) (hk : fd.scope.kind = .function := by rfl) :
    wpAny (model prog w) A (call (.ref f) args) Q E s :=
  wpAny_call (code_def mL G k S hf hd hcd hb hbind hcell hloc hmL h hco hgen hk)

theorem OK.make {A d} (k : OK A (d + 1)) {C : Addr} {rest : List Value} {kw : List (Str × Value)} : OK (A.under (.builtin "type.__call__" ⟨.ref C :: rest, kw⟩)) d :=
  ⟨k.h, by have := k.dep; show A.depth + 1 + d ≤ 900; omega, by have := k.un; show A.units + 1 + 20 * d ≤ 9000; omega⟩

/-- an instance is made -/
theorem make {C fI : Addr} {args : List Value} {Q : Value → Shared → Prop} (G : Gr K s₀.heap) (k : OK A (d + 1)) (S : Sim w s₀ L m P s) (hm : makesIn K C = true)
    (hi : findIn K (.ref C) "__init__" = some (some (.ref fI))) (hf : typeIn K (.ref fI) = some (.type "function"))
    (h : ∀ x dx s' A', Sim w s₀ L m ((x, .raw (instObj C dx)) :: (dx, .attrs []) :: P) s' → OK A' d → codeAny (model prog w) A' (.call (.ref fI) ⟨.ref x :: args, []⟩) (fun r s'' => match r with | .ok (.ret v) => v = .none ∧ Q (.ref x) s'' | _ => False) s') :
    wpAny (model prog w) A (call (.ref C) args) Q E s := by
  have X := S.K_in G
  have S₁ : Sim w s₀ L m ((s.heap.objs.size, .attrs []) :: P) { s with heap := s.heap.push emptyDict, toks := s.toks } := S.push ⟨#[], 0, rfl, rfl⟩
  have S₂ : Sim w s₀ L m (((s.heap.push emptyDict).objs.size, .raw (instObj C s.heap.objs.size)) :: (s.heap.objs.size, .attrs []) :: P) { s with heap := (s.heap.push emptyDict).push (instObj C s.heap.objs.size), toks := s.toks } := S₁.push (tk := s.toks) rfl
  rw [Heap.size_push] at S₂
  obtain ⟨hh, g, dr, t, os⟩ := s
  refine wpAny_call (make_core (makes_of X hm) (looks_findIn X hi) (fun self => bind_fn X self hf) (.inl rfl) ?_)
  refine codeAny_mono (h _ _ _ _ S₂ k.make) fun r s' q => ?_
  cases r with
  | error e => exact q.elim
  | ok f => cases f <;> first | exact q | exact q.elim
end
end Mine
namespace Mine
section
variable {prog : Program} {w : World} {K : Frag} {A : Around} {E : Value → Shared → Prop} {s₀ s : Shared} {L : Addr} {m : List (Str × Value)} {P P' : Led} {d : Nat} {env : Env}

/-- a source that a loop draws from -/
structure Src (prog : Program) (w : World) (A : Around) (s₀ : Shared) (L : Addr) (target : Expr) (it : Value) (n : Nat) (IT : Nat → Led) (Req : Led → Prop) (Yld : Nat → (Value → Led → Prop) → Prop) : Prop where
  mono : ∀ i (Y Y' : Value → Led → Prop), (∀ v X, Y v X → Y' v X) → Yld i Y → Yld i Y'
  step : ∀ i m P s (N : Shared → Prop) (Y : Value → Shared → Prop), i < n → Req P → Sim w s₀ L m (IT i ++ P) s → Yld i (fun v X => ∀ s', Sim w s₀ L m (IT (i + 1) ++ (X ++ P)) s' → Y v s') →
    wpAny (model prog w) A (pyNext it) (fun r s₁ => match r with | none => N s₁ | some v => wpAny (model prog w) A (letOwnedTupleGo target it v) (fun _ s₂ => Y v s₂) noE s₁) noE s
  stop : ∀ m P s (N : Shared → Prop) (Y : Value → Shared → Prop), Req P → Sim w s₀ L m (IT n ++ P) s → (∀ s', Sim w s₀ L m P s' → N s') →
    wpAny (model prog w) A (pyNext it) (fun r s₁ => match r with | none => N s₁ | some v => wpAny (model prog w) A (letOwnedTupleGo target it v) (fun _ s₂ => Y v s₂) noE s₁) noE s

def LoopEnd (w : World) (s₀ : Shared) (L : Addr) (IT : Led) (Inv : List (Str × Value) → Led → Prop) (Q : Flow → Shared → Prop) (f : Flow) (s₂ : Shared) : Prop := match f with
  | .next | .cont => ∃ m₂ P₂, Sim w s₀ L m₂ (IT ++ P₂) s₂ ∧ Inv m₂ P₂
  | .brk => Q .next s₂
  | .ret v => Q (.ret v) s₂

theorem for_code {target : Expr} {body orelse : List Stmt} {it : Value} {n : Nat} {IT : Nat → Led} {Req : Led → Prop} {Yld : Nat → (Value → Led → Prop) → Prop} {Q : Flow → Shared → Prop}
    (Sr : Src prog w A s₀ env.locals target it n IT Req Yld) (Inv : Nat → List (Str × Value) → Led → Prop) (S : Sim w s₀ env.locals m (IT 0 ++ P) s) (h0 : Inv 0 m P) (hreq : ∀ i m P, Inv i m P → Req P)
    (step : ∀ i m P, i < n → Inv i m P → ∀ J : List (Str × Value) → Led → Prop, (∀ m P, Inv (i + 1) m P → J m P) → ∀ Q' : Flow → Shared → Prop, (∀ f s, Q f s → Q' f s) → Yld i (fun v X => ∀ s, Sim w s₀ env.locals m (IT (i + 1) ++ (X ++ P)) s →
      wpAny (model prog w) A (assign target env v) (fun _ s₁ => wpAny (model prog w) A (execs body env) (LoopEnd w s₀ env.locals (IT (i + 1)) J Q') noE s₁) noE s))
    (done : ∀ m P s, Inv n m P → Sim w s₀ env.locals m P s → wpAny (model prog w) A (execs orelse env) Q noE s) :
    codeAny (model prog w) A (.forLoop target it body orelse env) (fun r s' => match r with | .ok f => Q f s' | .error e => cameBackBy (model prog w) A env E e s') s := by
  refine codeAny_forLoop_any (fun j s' => ∃ i m P, j = n - i ∧ i ≤ n ∧ Inv i m P ∧ Sim w s₀ env.locals m (IT i ++ P) s') (fun j s' hI => ?_) n ⟨0, m, P, rfl, Nat.zero_le _, h0, S⟩
  obtain ⟨i, m, P, rfl, hi, hv, S'⟩ := hI
  refine wpAny_noRaise ?_
  by_cases hlt : i < n
  · refine wpAny_mono (Sr.step i m P s' (fun _ => False) (fun v s₂ => wpAny (model prog w) A (assign target env v) (fun _ s₁ => wpAny (model prog w) A (execs body env) (LoopEnd w s₀ env.locals (IT (i + 1)) (Inv (i + 1)) Q) noE s₁) noE s₂) hlt (hreq _ _ _ hv) S' (step i m P hlt hv _ (fun _ _ h => h) _ fun _ _ h => h)) (fun r s₁ h₁ => ?_) fun _ _ x => x
    cases r with
    | none => exact h₁.elim
    | some v =>
      refine wpAny_mono (wpAny_noRaise h₁) (fun _ s₂ h₂ => wpAny_mono (wpAny_noRaise h₂) (fun _ s₃ h₃ => wpAny_mono (wpAny_noRaise h₃) (fun f s₄ h₄ => ?_) fun _ _ x => x) fun _ _ x => x) fun _ _ x => x
      have nx : (∃ m₂ P₂, Sim w s₀ env.locals m₂ (IT (i + 1) ++ P₂) s₄ ∧ Inv (i + 1) m₂ P₂) → ∃ k, k < n - i ∧ ∃ i m P, k = n - i ∧ i ≤ n ∧ Inv i m P ∧ Sim w s₀ env.locals m (IT i ++ P) s₄ := by
        rintro ⟨m₂, P₂, S₂, hv₂⟩
        exact ⟨n - (i + 1), by omega, i + 1, m₂, P₂, rfl, hlt, hv₂, S₂⟩
      cases f with
      | next => exact nx h₄
      | cont => exact nx h₄
      | brk => exact h₄
      | ret v => exact h₄
  · have e : i = n := by omega
    subst e
    refine wpAny_mono (Sr.stop m P s' (fun s₁ => wpAny (model prog w) A (execs orelse env) Q noE s₁) (fun _ _ => False) (hreq _ _ _ hv) S' fun s₁ S₁ => done _ _ _ hv S₁) (fun r s₁ h₁ => ?_) fun _ _ x => x
    cases r with
    | none => exact wpAny_mono (wpAny_noRaise h₁) (fun _ _ x => x) fun _ _ x => x
    | some v => exact wpAny_mono (wpAny_noRaise h₁) (fun _ _ x => x.elim) fun _ _ x => x

/-- a list is walked -/
theorem src_list (hA : A.handled = none) {x : Str} {px : Pos} {it a : Addr} {xs : List Value} (hd : Value) :
    Src prog w A s₀ L (.Name x px) (.ref it) xs.length (fun i => [(it, .liter a i)]) (fun P => (a, .list xs) ∈ P) (fun i Y => All (xs.getD i hd) fun v => Y v []) where
  mono := fun i Y Y' h k => by
    revert k; generalize xs.getD i hd = v; cases v <;> intro k <;> first | exact fun t => h _ _ (k t) | exact h _ _ k
  step := fun i m P s N Y hi hr S h => by
    obtain ⟨ob, h1, ⟨hc, hd'⟩, _⟩ := S.get (a := it) (.head _)
    obtain ⟨ob', h2, ⟨vs, n, rfl, hv⟩, _⟩ := S.get (a := a) (o := .list xs) (.tail _ hr)
    have hlen : vs.size = xs.length := by rw [← hv]; simp
    obtain ⟨v, hx⟩ : ∃ v, vs[i]? = some v := ⟨vs[i]'(by omega), by simp [hlen, hi]⟩
    refine wpAny_pyNext_list_item ⟨_, h1, hc, hd'⟩ ⟨_, h2, rfl, n, rfl⟩ hx fun h' hit hs => ?_
    obtain ⟨o', e1, e2, e3⟩ := hit
    refine wpAny_of_eq (a := ()) rfl ?_
    have key : er v = xs.getD i hd := by
      rw [← hv, List.getD_eq_getElem?_getD, List.getElem?_map, Array.getElem?_toList, hx]; rfl
    refine h.of key _ ?_
    have S' := S.upd' (tk := s.toks) (o' := .liter a (i + 1)) (h' := h') (P' := [(it, .liter a (i + 1))] ++ P) Upd.head hs.extBut e1 ⟨e2, e3⟩
    simpa using S'
  stop := fun m P s N Y hr S h => by
    obtain ⟨ob, h1, ⟨hc, hd'⟩, _⟩ := S.get (a := it) (.head _)
    obtain ⟨ob', h2, ⟨vs, n, rfl, hv⟩, _⟩ := S.get (a := a) (o := .list xs) (.tail _ hr)
    have hlen : vs.size = xs.length := by rw [← hv]; simp
    refine wpAny_pyNext_list_end hA ⟨_, h1, hc, hd'⟩ ⟨_, h2, rfl, n, rfl⟩ (by simp [hlen]) fun h' hs => ?_
    exact h _ (S.dropAt (X := []) (tk := s.toks) rfl hs)
end
end Mine
namespace Mine
section
variable {prog : Program} {w : World} {K : Frag} {A : Around} {E : Value → Shared → Prop} {s₀ s : Shared} {L : Addr} {m : List (Str × Value)} {P P' : Led} {d : Nat} {env : Env}

theorem all_mono {v : Value} {Y Y' : Value → Prop} (h : ∀ v, Y v → Y' v) (k : All v Y) : All v Y' := by
  revert k; cases v <;> intro k <;> first | exact fun t => h _ (k t) | exact h _ k

/-- a tuple is walked -/
theorem src_tup (hA : A.handled = none) {x : Str} {px : Pos} {it a : Addr} {xs : List Value} (hd : Value) :
    Src prog w A s₀ L (.Name x px) (.ref it) xs.length (fun i => [(it, .titer a i)]) (fun P => (a, .tup xs) ∈ P) (fun i Y => All (xs.getD i hd) fun v => Y v []) where
  mono := fun i Y Y' h k => all_mono (fun v => h v []) k
  step := fun i m P s N Y hi hr S h => by
    obtain ⟨ob, h1, ⟨hc, hd'⟩, _⟩ := S.get (a := it) (.head _)
    obtain ⟨ob', h2, ⟨vs, n, rfl, hv⟩, _⟩ := S.get (a := a) (o := .tup xs) (.tail _ hr)
    have hlen : vs.size = xs.length := by rw [← hv]; simp
    obtain ⟨v, hx⟩ : ∃ v, vs[i]? = some v := ⟨vs[i]'(by omega), by simp [hlen, hi]⟩
    refine wpAny_pyNext_tuple_item ⟨_, h1, hc, hd'⟩ ⟨_, h2, rfl, n, rfl⟩ hx fun h' hit hs => ?_
    obtain ⟨o', e1, e2, e3⟩ := hit
    refine wpAny_of_eq (a := ()) rfl ?_
    have key : er v = xs.getD i hd := by
      rw [← hv, List.getD_eq_getElem?_getD, List.getElem?_map, Array.getElem?_toList, hx]; rfl
    refine h.of key _ ?_
    have S' := S.upd' (tk := s.toks) (o' := .titer a (i + 1)) (h' := h') (P' := [(it, .titer a (i + 1))] ++ P) Upd.head hs.extBut e1 ⟨e2, e3⟩
    simpa using S'
  stop := fun m P s N Y hr S h => by
    obtain ⟨ob, h1, ⟨hc, hd'⟩, _⟩ := S.get (a := it) (.head _)
    obtain ⟨ob', h2, ⟨vs, n, rfl, hv⟩, _⟩ := S.get (a := a) (o := .tup xs) (.tail _ hr)
    have hlen : vs.size = xs.length := by rw [← hv]; simp
    refine wpAny_pyNext_tuple_end hA ⟨_, h1, hc, hd'⟩ ⟨_, h2, rfl, n, rfl⟩ (by simp [hlen]) fun h' hs => ?_
    exact h _ (S.dropAt (X := []) (tk := s.toks) rfl hs)

abbrev MO.riter (x left step : Int) : MO := .raw { cls := .type "range_iterator", dict := none, data := .fields #[rawInt x, rawInt left, rawInt step], slots := #[] }
/-- a range is walked -/
theorem src_range (hA : A.handled = none) {x : Str} {px : Pos} {it : Addr} (a st : Int) (n : Nat) :
    Src prog w A s₀ L (.Name x px) (.ref it) n (fun i => [(it, .riter (a + st * i) (n - i) st)]) (fun _ => True) (fun i Y => ∀ t, Y (.int (a + st * i) t) []) where
  mono := fun i Y Y' h k t => h _ _ (k t)
  step := fun i m P s N Y hi _ S h => by
    obtain ⟨ob, h1, rfl, _⟩ := S.get (a := it) (.head _)
    refine wpAny_pyNext_range_item h1 (by omega) fun h' hit hs => ?_
    refine wpAny_of_eq (a := ()) rfl ?_
    refine h s.toks _ ?_
    have S' := S.upd' (tk := s.toks + 1) (o' := .riter (a + st * (i + 1 : Nat)) (n - (i + 1 : Nat)) st) (h' := h') (P' := [(it, .riter (a + st * (i + 1 : Nat)) (n - (i + 1 : Nat)) st)] ++ P) Upd.head hs.extBut hit (by
      have e1 : a + st * i + st = a + st * (i + 1 : Nat) := by rw [Int.natCast_succ, Int.mul_add, Int.mul_one]; omega
      have e2 : (n : Int) - i - 1 = n - (i + 1 : Nat) := by omega
      show _ = _
      rw [e1, e2])
    simpa using S'
  stop := fun m P s N Y _ S h => by
    obtain ⟨ob, h1, rfl, _⟩ := S.get (a := it) (.head _)
    refine wpAny_pyNext_range_end hA h1 (by omega) fun h' hs => ?_
    exact h _ (S.dropAt (X := []) (tk := s.toks) rfl hs)

/-- the pairs of enumerate over a list -/
theorem src_enum (hA : A.handled = none) {elts : List Expr} {k : Nat} {px : Pos} {e it a : Addr} {xs : List Value} (hd : Value) :
    Src prog w A s₀ L (.Tuple elts k px) (.ref e) xs.length (fun i => [(e, .en it i), (it, .liter a i)]) (fun P => (a, .list xs) ∈ P) (fun i Y => ∀ T, Y (.ref T) [(T, .tup [I i, xs.getD i hd])]) where
  mono := fun i Y Y' h k T => h _ _ (k T)
  step := fun i m P s N Y hi hr S h => by
    obtain ⟨ob, h1, ⟨old, rfl⟩, _⟩ := S.get (a := e) (.head _)
    obtain ⟨ob, h1', ⟨hc, hd'⟩, _⟩ := S.get (a := it) (.tail _ (.head _))
    obtain ⟨ob', h2, ⟨vs, n, rfl, hv⟩, _⟩ := S.get (a := a) (o := .list xs) (.tail _ (.tail _ hr))
    have hlen : vs.size = xs.length := by rw [← hv]; simp
    obtain ⟨v, hx⟩ : ∃ v, vs[i]? = some v := ⟨vs[i]'(by omega), by simp [hlen, hi]⟩
    have nd := S.nd
    have hne : e ≠ it := by
      simp only [List.map_cons, List.nodup_cons, List.mem_cons, not_or, List.cons_append] at nd
      exact nd.2.1.1
    have key : er v = xs.getD i hd := by
      rw [← hv, List.getD_eq_getElem?_getD, List.getElem?_map, Array.getElem?_toList, hx]; rfl
    refine wpAny_pyNext_enum_item h1 ⟨_, h1', hc, hd'⟩ ⟨_, h2, rfl, n, rfl⟩ hx hne fun h' hout hit hT hsz hk => ?_
    refine wpAny_letOwnedTupleGo_enum hout fun h₃ hen hs₃ => ?_
    refine h s.heap.objs.size _ ?_
    have hTe : s.heap.objs.size ≠ e := (Nat.ne_of_lt (Heap.lt_size h1)).symm
    obtain ⟨o₂, g1, g2, g3⟩ := hit
    have keepAll : ∀ b o, b ≠ e → b ≠ it → s.heap.get? b = some o → h₃.get? b = some o := fun b o b1 b2 q => (hs₃.2 b b1).trans (hk b o b1 b2 q)
    have O := S.led
    simp only [List.map_cons, List.nodup_cons, List.mem_cons, not_or, List.cons_append, List.nil_append] at nd
    have lt : ∀ p ∈ (L, MO.frame m) :: (e, .en it i) :: (it, .liter a i) :: P, p.1 < s.heap.objs.size := fun p hp => let ⟨_, q, _⟩ := O p hp; Heap.lt_size q
    refine ⟨S.eq, fun b o q => ?_, fun p hp => ?_, ?_⟩
    · have gb := S.keep b o q
      refine keepAll b o ?_ ?_ gb
      · rintro rfl; obtain ⟨_, _, _, g⟩ := S.get (a := b) (.head _); rw [g.1] at q; cases q
      · rintro rfl; obtain ⟨_, _, _, g⟩ := S.get (a := b) (.tail _ (.head _)); rw [g.1] at q; cases q
    · simp only [List.cons_append, List.nil_append] at hp
      rcases List.mem_cons.mp hp with rfl | hp
      · obtain ⟨ob, k1, k2⟩ := O _ (.head _)
        exact ⟨ob, keepAll _ _ nd.1.1 nd.1.2.1 k1, k2⟩
      · rcases List.mem_cons.mp hp with rfl | hp
        · obtain ⟨_, _, _, g⟩ := S.get (a := e) (.head _)
          exact ⟨_, hen, ⟨_, rfl⟩, g.to⟩
        · rcases List.mem_cons.mp hp with rfl | hp
          · obtain ⟨_, _, _, g⟩ := S.get (a := it) (.tail _ (.head _))
            exact ⟨o₂, (hs₃.2 it (Ne.symm hne)).trans g1, ⟨g2, g3⟩, g.to⟩
          · rcases List.mem_cons.mp hp with rfl | hp
            · exact ⟨_, (hs₃.2 _ hTe).trans hT, ⟨_, _, rfl, by simp [key]; rfl⟩, S.new (Nat.le_refl _)⟩
            · obtain ⟨ob, k1, k2⟩ := O p (.tail _ (.tail _ (.tail _ hp)))
              have hmem : p.1 ∈ P.map (·.1) := List.mem_map_of_mem hp
              refine ⟨ob, keepAll _ _ (fun q => ?_) (fun q => ?_) k1, k2⟩
              · rw [q] at hmem; exact nd.2.1.2 hmem
              · rw [q] at hmem; exact nd.2.2.1 hmem
    · simp only [List.map_cons, List.nodup_cons, List.mem_cons, not_or, List.cons_append, List.nil_append]
      have l1 := lt _ (.head _)
      have l2 := lt _ (.tail _ (.head _))
      have l3 := lt _ (.tail _ (.tail _ (.head _)))
      refine ⟨⟨nd.1.1, nd.1.2.1, Nat.ne_of_lt l1, nd.1.2.2⟩, ⟨hne, Nat.ne_of_lt l2, nd.2.1.2⟩, ⟨Nat.ne_of_lt l3, nd.2.2.1⟩, fun q => ?_, nd.2.2.2⟩
      obtain ⟨p, hp, q⟩ := List.mem_map.mp q
      exact absurd (lt p (.tail _ (.tail _ (.tail _ hp)))) (by rw [q]; exact Nat.lt_irrefl _)
  stop := fun m P s N Y hr S h => by
    obtain ⟨ob, h1, ⟨old, rfl⟩, _⟩ := S.get (a := e) (.head _)
    obtain ⟨ob, h1', ⟨hc, hd'⟩, _⟩ := S.get (a := it) (.tail _ (.head _))
    obtain ⟨ob', h2, ⟨vs, n, rfl, hv⟩, _⟩ := S.get (a := a) (o := .list xs) (.tail _ (.tail _ hr))
    have hlen : vs.size = xs.length := by rw [← hv]; simp
    refine wpAny_pyNext_enum_end hA h1 ⟨_, h1', hc, hd'⟩ ⟨_, h2, rfl, n, rfl⟩ (by simp [hlen]) fun h' hs => ?_
    exact h _ (S.dropAt (X := [(e, .en it xs.length)]) (tk := s.toks) rfl hs).drop
end
end Mine
namespace Mine

abbrev er2 (p : Int × Value) : Int × Value := (p.1, er p.2)
theorem pairs_of {prog : Program} {w : World} : ∀ {es : List DictEntry} {kvs : List (Int × Value)}, es.map eKey = kvs.map (fun p => (hashInt p.1, I p.1, p.2)) →
    ∃ kvs', Pairs (intKind prog w) es kvs' ∧ kvs'.map er2 = kvs ∧ ∀ e ∈ es, ∃ k, (intKind prog w).is k e.key = true ∧ e.hash = (intKind prog w).hash k
  | [], [], _ => ⟨[], .nil, rfl, fun _ h => nomatch h⟩
  | [], _ :: _, e => by cases e
  | _ :: _, [], e => by cases e
  | e :: es, (k, v) :: kvs, q => by
    simp only [List.map_cons, List.cons.injEq, Prod.mk.injEq] at q
    obtain ⟨⟨h0, h1, h2⟩, h3⟩ := q
    obtain ⟨t, hk⟩ := er_int h1
    obtain ⟨kvs', p, q, r⟩ := pairs_of (prog := prog) (w := w) h3
    have his : (intKind prog w).is k e.key = true := by rw [hk]; exact beq_self_eq_true k
    refine ⟨(k, e.val) :: kvs', .cons his rfl p, by simp [q, h2], fun e' he => ?_⟩
    rcases List.mem_cons.mp he with rfl | he
    · exact ⟨k, his, h0⟩
    · exact r e' he
theorem of_pairs {prog : Program} {w : World} : ∀ {es : List DictEntry} {kvs : List (Int × Value)}, Pairs (intKind prog w) es kvs → (∀ e ∈ es, ∃ k, (intKind prog w).is k e.key = true ∧ e.hash = (intKind prog w).hash k) →
    es.map eKey = (kvs.map er2).map (fun p => (hashInt p.1, I p.1, p.2)) := by
  intro es kvs h
  induction h with
  | nil => intro _; rfl
  | @cons e kv es kvs h1 h2 h3 ih =>
    intro hk
    obtain ⟨k, v⟩ := kv
    have h1' : Value.isInt k e.key = true := h1
    obtain ⟨t, e1⟩ := Value.isInt_shape h1'
    obtain ⟨k', g1, g2⟩ := hk e (.head _)
    have : k' = k := (intKind prog w).inj _ _ _ g1 h1
    subst this
    have g2' : e.hash = hashInt k' := g2
    have h2' : e.val = v := h2
    have ih := ih fun e he => hk e (.tail _ he)
    rw [List.map_cons, List.map_cons, List.map_cons, ih]
    simp only [eKey, e1, g2', h2', er2]; rfl

section
variable {prog : Program} {w : World} {K : Frag} {A : Around} {E : Value → Shared → Prop} {s₀ s : Shared} {L : Addr} {m : List (Str × Value)} {P P' : Led} {d : Nat} {env : Env}

theorem Sim.dict (S : Sim w s₀ L m P s) {a kvs ep} (hm : (a, MO.dict kvs ep) ∈ P) : ∃ kvs', s.heap.DictAt (intKind prog w) a kvs' ep ∧ kvs'.map er2 = kvs := by
  obtain ⟨ob, h1, ⟨es, rfl, h2, h3⟩, _⟩ := S.get hm
  obtain ⟨kvs', p, q, r⟩ := pairs_of (prog := prog) (w := w) h2
  refine ⟨kvs', ⟨_, es, h1, ⟨rfl, rfl, rfl⟩, rfl, fun e he => r e (Array.mem_toList_iff.mpr he), p, ?_⟩, q⟩
  rw [← q, List.map_map] at h3
  exact h3
theorem relO_dict {h : Heap} {a : Addr} {kvs : List (Int × Value)} {ep : Nat} (x : h.DictAt (intKind prog w) a kvs ep) : ∃ ob, h.get? a = some ob ∧ RelO w (.dict (kvs.map er2) ep) ob := by
  obtain ⟨o, es, h1, ⟨c1, c2, c3⟩, h2, h3, h4, h5⟩ := x
  obtain ⟨oc, od, oda, osl⟩ := o
  dsimp only at c1 c2 c3 h2
  subst c1 c2 c3 h2
  refine ⟨_, h1, es, rfl, of_pairs h4 fun e he => h3 e (Array.mem_toList_iff.mp he), ?_⟩
  rw [List.map_map]; exact h5

abbrev MO.kiter (d : Addr) (i n ep : Nat) : MO := .fl "dict_keyiterator" #[.ref d, .int i 0, .int n 0, .int ep 0]
abbrev MO.viter (d : Addr) (i n ep : Nat) : MO := .fl "dict_valueiterator" #[.ref d, .int i 0, .int n 0, .int ep 0]

/-- a dict's keys are walked -/
theorem src_keys (hA : A.handled = none) {x : Str} {px : Pos} {it a : Addr} {kvs : List (Int × Value)} {ep : Nat} :
    Src prog w A s₀ L (.Name x px) (.ref it) kvs.length (fun i => [(it, .kiter a i kvs.length ep)]) (fun P => (a, .dict kvs ep) ∈ P) (fun i Y => ∀ t, Y (.int (kvs.getD i (0, .none)).1 t) []) where
  mono := fun i Y Y' h k t => h _ _ (k t)
  step := fun i m P s N Y hi hr S h => by
    obtain ⟨ob, h1, ⟨hc, hd'⟩, _⟩ := S.get (a := it) (.head _)
    obtain ⟨kvs', hD, hv⟩ := S.dict (prog := prog) (a := a) (.tail _ hr)
    have hlen : kvs'.length = kvs.length := by rw [← hv]; simp
    obtain ⟨kv, hx⟩ : ∃ v, kvs'[i]? = some v := ⟨kvs'[i]'(by omega), by simp [hlen, hi]⟩
    obtain ⟨k, v⟩ := kv
    refine wpAny_pyNext_dict_item (kvs := kvs') (i := i) (by rw [hlen]; exact ⟨_, h1, hc, hd'⟩) hD hx fun key h' hkey hit hs => ?_
    obtain ⟨o', e1, e2, e3⟩ := hit
    refine wpAny_of_eq (a := ()) rfl ?_
    have hkey' : Value.isInt k key = true := hkey
    obtain ⟨t, rfl⟩ := Value.isInt_shape hkey'
    have key : (kvs.getD i (0, .none)).1 = k := by
      rw [← hv, List.getD_eq_getElem?_getD, List.getElem?_map, hx]; rfl
    rw [key] at h
    refine h t _ ?_
    rw [hlen] at e3
    have S' := S.upd' (tk := s.toks) (o' := .kiter a (i + 1) kvs.length ep) (h' := h') (P' := [(it, .kiter a (i + 1) kvs.length ep)] ++ P) Upd.head hs.extBut e1 ⟨e2, e3⟩
    simpa using S'
  stop := fun m P s N Y hr S h => by
    obtain ⟨ob, h1, ⟨hc, hd'⟩, _⟩ := S.get (a := it) (.head _)
    obtain ⟨kvs', hD, hv⟩ := S.dict (prog := prog) (a := a) (.tail _ hr)
    have hlen : kvs'.length = kvs.length := by rw [← hv]; simp
    refine wpAny_pyNext_dict_end (kvs := kvs') (i := kvs.length) hA (by rw [hlen]; exact ⟨_, h1, hc, hd'⟩) hD (by simp [hlen]) fun h' hs => ?_
    exact h _ (S.dropAt (X := []) (tk := s.toks) rfl hs)

/-- a dict's values are walked -/
theorem src_vals (hA : A.handled = none) {x : Str} {px : Pos} {it a : Addr} {kvs : List (Int × Value)} {ep : Nat} :
    Src prog w A s₀ L (.Name x px) (.ref it) kvs.length (fun i => [(it, .viter a i kvs.length ep)]) (fun P => (a, .dict kvs ep) ∈ P) (fun i Y => All (kvs.getD i (0, .none)).2 fun v => Y v []) where
  mono := fun i Y Y' h k => all_mono (fun v => h v []) k
  step := fun i m P s N Y hi hr S h => by
    obtain ⟨ob, h1, ⟨hc, hd'⟩, _⟩ := S.get (a := it) (.head _)
    obtain ⟨kvs', hD, hv⟩ := S.dict (prog := prog) (a := a) (.tail _ hr)
    have hlen : kvs'.length = kvs.length := by rw [← hv]; simp
    obtain ⟨kv, hx⟩ : ∃ v, kvs'[i]? = some v := ⟨kvs'[i]'(by omega), by simp [hlen, hi]⟩
    obtain ⟨k, v⟩ := kv
    refine wpAny_pyNext_values_item (kvs := kvs') (i := i) (by rw [hlen]; exact ⟨_, h1, hc, hd'⟩) hD hx fun h' hit hs => ?_
    obtain ⟨o', e1, e2, e3⟩ := hit
    refine wpAny_of_eq (a := ()) rfl ?_
    have key : er v = (kvs.getD i (0, .none)).2 := by
      rw [← hv, List.getD_eq_getElem?_getD, List.getElem?_map, hx]; rfl
    refine h.of key _ ?_
    rw [hlen] at e3
    have S' := S.upd' (tk := s.toks) (o' := .viter a (i + 1) kvs.length ep) (h' := h') (P' := [(it, .viter a (i + 1) kvs.length ep)] ++ P) Upd.head hs.extBut e1 ⟨e2, e3⟩
    simpa using S'
  stop := fun m P s N Y hr S h => by
    obtain ⟨ob, h1, ⟨hc, hd'⟩, _⟩ := S.get (a := it) (.head _)
    obtain ⟨kvs', hD, hv⟩ := S.dict (prog := prog) (a := a) (.tail _ hr)
    have hlen : kvs'.length = kvs.length := by rw [← hv]; simp
    refine wpAny_pyNext_values_end (kvs := kvs') (i := kvs.length) hA (by rw [hlen]; exact ⟨_, h1, hc, hd'⟩) hD (by simp [hlen]) fun h' hs => ?_
    exact h _ (S.dropAt (X := []) (tk := s.toks) rfl hs)
end
end Mine
namespace Mine

theorem ints_of : ∀ {vs : List Value} {ns : List Int}, vs.map er = ns.map I → IntsAre vs ns
  | [], [], _ => .nil
  | [], _ :: _, e => by cases e
  | _ :: _, [], e => by cases e
  | v :: vs, n :: ns, e => by
    simp only [List.map_cons, List.cons.injEq] at e
    obtain ⟨t, rfl⟩ := er_int e.1
    exact .cons n t (ints_of e.2)
theorem of_ints {vs : List Value} {ns : List Int} (h : IntsAre vs ns) : vs.map er = ns.map I := by
  induction h with
  | nil => rfl
  | cons n t _ ih => simp only [List.map_cons, ih, er]
theorem strs_of : ∀ {vs : List Value} {ns : List Str}, vs.map er = ns.map T → StrsAre vs ns
  | [], [], _ => .nil
  | [], _ :: _, e => by cases e
  | _ :: _, [], e => by cases e
  | v :: vs, n :: ns, e => by
    simp only [List.map_cons, List.cons.injEq] at e
    obtain ⟨t, rfl⟩ := er_str e.1
    exact .cons n t (strs_of e.2)

section
variable {prog : Program} {w : World} {K : Frag} {A : Around} {E : Value → Shared → Prop} {s₀ s : Shared} {L : Addr} {m : List (Str × Value)} {P P' : Led} {d : Nat} {env : Env} {a : Addr} {xs : List Value}

theorem Sim.lst (S : Sim w s₀ L m P s) (hm : (a, .list xs) ∈ P) : ∃ vs, s.heap.PlainList a vs ∧ vs.toList.map er = xs := by
  obtain ⟨ob, h1, ⟨vs, n, rfl, h2⟩, _⟩ := S.get hm
  exact ⟨vs, ⟨n, h1⟩, h2⟩
theorem Sim.isl (S : Sim w s₀ L m P s) (hm : (a, .list xs) ∈ P) : ∃ vs : List Value, s.heap.IsList a vs.toArray ∧ vs.map er = xs := by
  obtain ⟨vs, ⟨n, h1⟩, h2⟩ := S.lst hm
  exact ⟨vs.toList, ⟨_, h1, rfl, n, by simp⟩, h2⟩
theorem Sim.ist (S : Sim w s₀ L m P s) (hm : (a, .tup xs) ∈ P) : ∃ vs : List Value, IsTup s.heap a vs.toArray ∧ vs.map er = xs := by
  obtain ⟨ob, h1, ⟨vs, n, rfl, h2⟩, _⟩ := S.get hm
  exact ⟨vs.toList, ⟨_, h1, rfl, n, by simp⟩, h2⟩

theorem new_list {vs : List Value} {Q : Value → Shared → Prop} (S : Sim w s₀ L m P s) (hz : vs.length ≤ sizeLine) (h : ∀ a s', Sim w s₀ L m ((a, .list (vs.map er)) :: P) s' → Q (.ref a) s') : wpAny (model prog w) A (newList vs) Q E s :=
  wpAny_newList (h _ _ (S.push (tk := s.toks) ⟨_, _, rfl, by simp⟩)) hz
theorem new_tup {vs : List Value} {Q : Value → Shared → Prop} (S : Sim w s₀ L m P s) (hz : vs.length ≤ sizeLine) (h : ∀ a s', Sim w s₀ L m ((a, .tup (vs.map er)) :: P) s' → Q (.ref a) s') : wpAny (model prog w) A (newTuple vs) Q E s :=
  wpAny_newTuple (h _ _ (S.push (tk := s.toks) ⟨_, _, rfl, by simp⟩)) hz
theorem new_dict {pos : Pos} {Q : Value → Shared → Prop} (S : Sim w s₀ L m P s) (h : ∀ a s', Sim w s₀ L m ((a, .raw { cls := .type "dict", data := .dict #[] 0 }) :: P) s' → Q (.ref a) s') : wpAny (model prog w) A (eval (.Dict [] [] pos) env) Q E s :=
  wpAny_Dict_empty (h _ _ (S.push (tk := s.toks) rfl))

theorem Sim.re (S : Sim w s₀ L m ((a, o) :: P) s) {o'} (h : ∀ ob, RelO w o ob → RelO w o' ob) (hnf : ∀ m, o' ≠ .frame m := by intro m h; cases h) : Sim w s₀ L m ((a, o') :: P) s := by
  refine ⟨S.eq, S.keep, fun p hp => ?_, S.nd⟩
  rcases List.mem_cons.mp hp with rfl | hp
  · exact S.led _ (.head _)
  · rcases List.mem_cons.mp hp with rfl | hp
    · obtain ⟨ob, h1, h2, h3⟩ := S.get (a := a) (.head _); exact ⟨ob, h1, h _ h2, h3.to hnf⟩
    · exact S.led _ (.tail _ (.tail _ hp))
theorem Sim.raw_inst {C dx} (S : Sim w s₀ L m ((a, .raw (instObj C dx)) :: P) s) : Sim w s₀ L m ((a, .inst C dx) :: P) s := S.re fun _ h => h
theorem Sim.raw_slots {C dx} (S : Sim w s₀ L m ((a, .raw (instObj C dx)) :: P) s) : Sim w s₀ L m ((a, .slots C dx []) :: P) s := S.re fun _ h => ⟨#[], h, rfl⟩
theorem Sim.raw_dict (S : Sim w s₀ L m ((a, .raw { cls := .type "dict", data := .dict #[] 0 }) :: P) s) : Sim w s₀ L m ((a, .dict [] 0) :: P) s := S.re fun _ h => ⟨#[], h, rfl, .nil⟩

theorem meth_list {name : Str} {id : String} {pl : Sem Bool} {Q : Value × List Value → Shared → Prop} (S : Sim w s₀ L m P s) (hm : (a, .list xs) ∈ P) (slot : Slot "list" name id)
    (ty : typeOf (.builtin id) = pure (.type "method_descriptor")) (h : Q (.builtin id, [.ref a]) s) : wpAny (model prog w) A (getMethod (.ref a) name pl) Q E s := by
  obtain ⟨ob, h1, ⟨vs, n, rfl, h2⟩, _⟩ := S.get hm
  exact getMethod_builtin ⟨_, h1, rfl⟩ F.plainAttrs_list slot ty (fun b e => by cases e; exact ⟨_, h1, rfl⟩) h
theorem meth_dict {kvs : List (Int × Value)} {ep : Nat} {name : Str} {id : String} {pl : Sem Bool} {Q : Value × List Value → Shared → Prop} (S : Sim w s₀ L m P s) (hm : (a, .dict kvs ep) ∈ P) (slot : Slot "dict" name id)
    (ty : typeOf (.builtin id) = pure (.type "method_descriptor")) (h : Q (.builtin id, [.ref a]) s) : wpAny (model prog w) A (getMethod (.ref a) name pl) Q E s := by
  obtain ⟨ob, h1, ⟨es, rfl, h2⟩, _⟩ := S.get hm
  exact getMethod_builtin ⟨_, h1, rfl⟩ F.plainAttrs_dict slot ty (fun b e => by cases e; exact ⟨_, h1, rfl⟩) h
theorem meth_set {ns : List Int} {name : Str} {id : String} {pl : Sem Bool} {Q : Value × List Value → Shared → Prop} (S : Sim w s₀ L m P s) (hm : (a, .set ns) ∈ P) (slot : Slot "set" name id)
    (ty : typeOf (.builtin id) = pure (.type "method_descriptor")) (h : Q (.builtin id, [.ref a]) s) : wpAny (model prog w) A (getMethod (.ref a) name pl) Q E s := by
  obtain ⟨ob, h1, ⟨es, n, t, rfl, h2⟩, _⟩ := S.get hm
  exact getMethod_builtin ⟨_, h1, rfl⟩ F.plainAttrs_set slot ty (fun b e => by cases e; exact ⟨_, h1, rfl⟩) h

theorem list_append {v : Value} {Q : Value → Shared → Prop} (S : Sim w s₀ L m P s) (U : Mine.Upd a (.list xs) (.list (xs ++ [er v])) P P') (hz : xs.length ≤ sizeLine) (h : ∀ s', Sim w s₀ L m P' s' → Q .none s') :
    wpAny (model prog w) A (call (.builtin "list.append") [.ref a, v]) Q E s := by
  obtain ⟨vs, h1, h2⟩ := S.lst U.mem
  have hq : vs.size = xs.length := by rw [← h2]; simp
  refine wpAny_list_append_plain h1 (fun h' hl hs => ?_) (hq ▸ hz)
  obtain ⟨n, hn⟩ := hl
  exact h _ (S.upd (tk := s.toks) U hs hn ⟨_, _, rfl, by simp [h2]⟩)
theorem list_len {Q : Value → Shared → Prop} (S : Sim w s₀ L m P s) (hm : (a, .list xs) ∈ P) (hz : xs.length < 2 ^ 60) (h : ∀ t s', Sim w s₀ L m P s' → Q (.int xs.length t) s') :
    wpAny (model prog w) A (call (.builtin "len") [.ref a]) Q E s := by
  obtain ⟨vs, h1, h2⟩ := S.isl hm
  have : vs.toArray.size = xs.length := by rw [← h2]; simp
  exact PyProof.Rows.len_list h1 (by omega) (by rw [this]; exact h _ _ S.toks)
theorem tup_len {Q : Value → Shared → Prop} (S : Sim w s₀ L m P s) (hm : (a, .tup xs) ∈ P) (hz : xs.length < 2 ^ 60) (h : ∀ t s', Sim w s₀ L m P s' → Q (.int xs.length t) s') :
    wpAny (model prog w) A (call (.builtin "len") [.ref a]) Q E s := by
  obtain ⟨vs, h1, h2⟩ := S.ist hm
  have : vs.toArray.size = xs.length := by rw [← h2]; simp
  exact PyProof.Rows.len_tuple h1 (by omega) (by rw [this]; exact h _ _ S.toks)
theorem list_truthy {Q : Bool → Shared → Prop} (S : Sim w s₀ L m P s) (hm : (a, .list xs) ∈ P) (hz : xs.length < 2 ^ 60) (h : ∀ s', Sim w s₀ L m P s' → Q (!xs.isEmpty) s') :
    wpAny (model prog w) A (truthy (.ref a)) Q E s := by
  obtain ⟨vs, h1, h2⟩ := S.isl hm
  have : vs.toArray.size = xs.length := by rw [← h2]; simp
  have e : vs.toArray.isEmpty = xs.isEmpty := by
    rw [← h2]; cases vs <;> rfl
  exact wpAny_truthy_list h1 (by omega) (by rw [e]; exact h _ S.toks)

/-- an item at a place that is not below nought -/
theorem list_item {value slice : Expr} {k : Int} {u : Tok} {x : Value} {Q : Value → Shared → Prop} (S : Sim w s₀ L m P s) (hm : (a, .list xs) ∈ P) (h0 : 0 ≤ k) (hf : k < 2 ^ 63) (hx : xs[k.toNat]? = some x) (h : All x fun v => Q v s)
    (hs : subscripted slice false (.ref a) (.int k u) = operate [.ref a, .int k u] (getItem (.ref a) (.int k u)) := by with_unfolding_all rfl) (hg : ∀ r, letTemporaryGo value (.ref a) r = pure () := by intro _; with_unfolding_all rfl) :
    wpAny (model prog w) A (subscriptTail value slice (.ref a) (.int k u)) Q E s := by
  obtain ⟨vs, h1, h2⟩ := S.isl hm
  rw [← h2, List.getElem?_map] at hx
  cases q : vs[k.toNat]? with
  | none => rw [q] at hx; cases hx
  | some v => rw [q] at hx; exact item_listL h1 h0 hf q (h.of (Option.some.inj hx)) hs hg
theorem list_iter {Q : Value → Shared → Prop} (S : Sim w s₀ L m P s) (hm : (a, .list xs) ∈ P) (h : ∀ it s', Sim w s₀ L m ((it, .liter a 0) :: P) s' → Q (.ref it) s') : wpAny (model prog w) A (pyIter (.ref a)) Q E s := by
  obtain ⟨vs, h1, h2⟩ := S.isl hm
  exact wpAny_pyIter_list h1 (h _ _ (S.push (tk := s.toks) ⟨rfl, rfl⟩))
theorem tup_iter {Q : Value → Shared → Prop} (S : Sim w s₀ L m P s) (hm : (a, .tup xs) ∈ P) (h : ∀ it s', Sim w s₀ L m ((it, .titer a 0) :: P) s' → Q (.ref it) s') : wpAny (model prog w) A (pyIter (.ref a)) Q E s := by
  obtain ⟨vs, h1, h2⟩ := S.ist hm
  exact wpAny_pyIter_tuple (items := vs.toArray) h1 (h _ _ (S.push (tk := s.toks) ⟨rfl, rfl⟩))
theorem list_tuple {Q : Value → Shared → Prop} (S : Sim w s₀ L m P s) (hm : (a, .list xs) ∈ P) (hz : xs.length ≤ sizeLine) (h : ∀ b s', Sim w s₀ L m ((b, .tup xs) :: P) s' → Q (.ref b) s') :
    wpAny (model prog w) A (call (.type "tuple") [.ref a]) Q E s := by
  obtain ⟨vs, h1, h2⟩ := S.isl hm
  have : vs.toArray.size = xs.length := by rw [← h2]; simp
  refine call_tuple_list h1 (fun h' hk => ?_) (by omega)
  have S' : Sim w s₀ L m P { s with heap := h', toks := s.toks } := S.ext hk
  exact h _ _ (S'.push (tk := s.toks) ⟨_, _, rfl, by simpa using h2⟩)
end
end Mine
namespace Mine
def dget (kvs : List (Int × Value)) (k : Int) : Option Value := (kvs.find? fun p => p.1 == k).map (·.2)
def dput : List (Int × Value) → Int → Value → List (Int × Value)
  | [], k, v => [(k, v)]
  | p :: r, k, v => if p.1 = k then (k, v) :: r else p :: dput r k v
def ddel (kvs : List (Int × Value)) (k : Int) : List (Int × Value) := kvs.filter fun p => p.1 != k

theorem valueAt_er (k : Int) : ∀ kvs : List (Int × Value), (valueAt kvs k).map er = dget (kvs.map er2) k
  | [] => rfl
  | (k', v) :: r => by
    have ih := valueAt_er k r
    unfold valueAt dget at ih ⊢
    simp only [List.map_cons, List.find?_cons, er2]
    by_cases e : k' = k
    · simp [e]
    · have e' : (k' == k) = false := beq_eq_false_iff_ne.mpr e
      simp only [decide_eq_false e, e']; exact ih
theorem stored_er (k : Int) (v : Value) : ∀ kvs : List (Int × Value), (kvs.map (·.1)).Nodup → (stored kvs k v).map er2 = dput (kvs.map er2) k (er v)
  | [], _ => rfl
  | (k', u) :: r, nd => by
    simp only [List.map_cons, List.nodup_cons] at nd
    have ih := stored_er k v r nd.2
    unfold stored at ih ⊢
    simp only [List.map_cons, dput, List.any_cons, er2]
    by_cases e : k' = k
    · subst e
      simp only [decide_true, Bool.true_or, if_true, List.map_cons, List.cons.injEq, true_and]
      rw [map_store_of_not_mem r k' v nd.1]
    · rw [decide_eq_false e, Bool.false_or]
      by_cases q : (r.any fun kv => decide (kv.1 = k)) = true
      · rw [if_pos q] at ih; rw [if_pos q, List.map_cons, if_neg e, ih, if_neg e]
      · rw [if_neg q] at ih; rw [if_neg q, List.cons_append, List.map_cons, ih]; rw [if_neg e]
section
variable {prog : Program} {w : World} {K : Frag} {A : Around} {E : Value → Shared → Prop} {s₀ s : Shared} {L : Addr} {m : List (Str × Value)} {P P' : Led} {d : Nat} {env : Env} {a : Addr} {xs : List Value} {kvs : List (Int × Value)} {ep : Nat} {k : Int} {t : Tok}

theorem Sim.notSys (S : Sim w s₀ L m P s) (G : Gr K s₀.heap) {a o} (hm : (a, o) ∈ P) : (a == sysModules) = false := by
  obtain ⟨_, _, _, h⟩ := S.get hm
  refine beq_eq_false_iff_ne.mpr fun e => ?_
  rw [e] at h
  have h' : @LT.lt Nat _ 2 1 := h.2.1
  omega
theorem isInt_self (k : Int) (t : Tok) : (intKind prog w).is k (.int k t) = true := beq_self_eq_true k

theorem dict_in {Q : Value → Shared → Prop} (G : Gr K s₀.heap) (S : Sim w s₀ L m P s) (hm : (a, .dict kvs ep) ∈ P) (h : ∀ s', Sim w s₀ L m P s' → Q (.bool (dget kvs k).isSome) s') : wpAny (model prog w) A (compareOp .In (.int k t) (.ref a)) Q E s := by
  obtain ⟨kvs', h1, h2⟩ := S.dict (prog := prog) hm
  refine wpAny_in_of (isInt_self k t) (S.notSys G hm) h1.dictOf.mapOf ?_
  have e : (valueAt kvs' k).isSome = (dget kvs k).isSome := by rw [← h2, ← valueAt_er]; simp
  rw [e]; exact h _ S.toks
theorem dict_item {v : Value} {Q : Value → Shared → Prop} (S : Sim w s₀ L m P s) (hm : (a, .dict kvs ep) ∈ P) (hv : dget kvs k = some v) (h : All v fun v' => ∀ s', Sim w s₀ L m P s' → Q v' s') : wpAny (model prog w) A (getItem (.ref a) (.int k t)) Q E s := by
  obtain ⟨kvs', h1, h2⟩ := S.dict (prog := prog) hm
  have e : (valueAt kvs' k).map er = some v := by rw [valueAt_er, h2]; exact hv
  cases q : valueAt kvs' k with
  | none => rw [q] at e; cases e
  | some v' => rw [q] at e; exact wpAny_getItem_of (isInt_self k t) h1.dictOf.mapOf q (h.of (Option.some.inj e) _ S.toks)
theorem dict_sub {value slice : Expr} {v : Value} {Q : Value → Shared → Prop} (S : Sim w s₀ L m P s) (hm : (a, .dict kvs ep) ∈ P) (hv : dget kvs k = some v) (h : All v fun v' => ∀ s', Sim w s₀ L m P s' → Q v' s')
    (hs : subscripted slice false (.ref a) (.int k t) = operate [.ref a, .int k t] (getItem (.ref a) (.int k t)) := by with_unfolding_all rfl) :
    wpAny (model prog w) A (subscriptTail value slice (.ref a) (.int k t)) Q E s := by
  obtain ⟨kvs', h1, h2⟩ := S.dict (prog := prog) hm
  exact tail_any h1.dictOf.mapOf.typeIs slot_dict_getitem.lookup (dict_item S hm hv h) hs
theorem dict_set {v : Value} {Q : Unit → Shared → Prop} (S : Sim w s₀ L m P s) (hm : (a, .dict kvs ep) ∈ P) (hz : kvs.length ≤ sizeLine)
    (h : ∀ ep' P' s', Mine.Upd a (.dict kvs ep) (.dict (dput kvs k (er v)) ep') P P' → Sim w s₀ L m P' s' → Q () s') : wpAny (model prog w) A (setItem (.ref a) (.int k t) v) Q E s := by
  obtain ⟨kvs', h1, h2⟩ := S.dict (prog := prog) hm
  have hlen : kvs'.length = kvs.length := by rw [← h2]; simp
  refine wpAny_setItem_pairs (isInt_self k t) h1.dictOf (fun h' hd hs => ?_) (hlen ▸ hz)
  obtain ⟨ep', hd'⟩ := hd.dictAt
  obtain ⟨ob, g1, g2⟩ := relO_dict hd'
  rw [stored_er k v kvs' h1.nodup, h2] at g2
  obtain ⟨X, Y, rfl⟩ := List.append_of_mem hm
  have U : Mine.Upd a (.dict kvs ep) (.dict (dput kvs k (er v)) ep') (X ++ (a, .dict kvs ep) :: Y) (X ++ (a, .dict (dput kvs k (er v)) ep') :: Y) := .right .head
  exact h ep' _ _ U (S.upd (tk := s.toks + 1) U hs g1 g2)

theorem set_of {ns : List Int} (S : Sim w s₀ L m P s) (hm : (a, .set ns) ∈ P) : s.heap.SetOf (intKind prog w) a (fun k => decide (k ∈ ns)) ns.length := by
  obtain ⟨ob, h1, ⟨es, n, t, rfl, h2, h3, h4, h5, h6⟩, _⟩ := S.get hm
  refine ⟨_, es, n, t, h1, ⟨rfl, rfl, rfl⟩, rfl, fun e he => ?_, fun k => ?_, h4, h5, h6⟩
  · obtain ⟨k, u, rfl⟩ := h2 e he
    exact ⟨⟨k, isInt_self k u, rfl⟩, rfl⟩
  · rw [decide_eq_true_iff, h3]
    constructor
    · rintro ⟨e, he, u, q⟩; exact ⟨e, he, by rw [q]; exact isInt_self k u⟩
    · rintro ⟨e, he, q⟩
      have q' : Value.isInt k e.2 = true := q
      obtain ⟨u, q''⟩ := Value.isInt_shape q'
      exact ⟨e, he, u, q''⟩
theorem set_in {ns : List Int} {Q : Value → Shared → Prop} (S : Sim w s₀ L m P s) (hm : (a, .set ns) ∈ P) (h : ∀ s', Sim w s₀ L m P s' → Q (.bool (decide (k ∈ ns))) s') : wpAny (model prog w) A (compareOp .In (.int k t) (.ref a)) Q E s :=
  wpAny_inSet_of (isInt_self k t) rfl (set_of S hm) (h _ S.toks)
theorem new_set {Q : Value → Shared → Prop} (S : Sim w s₀ L m P s) (h : ∀ a s', Sim w s₀ L m ((a, .set []) :: P) s' → Q (.ref a) s') : wpAny (model prog w) A (call (.type "set") []) Q E s :=
  call_set_0 fun led => h _ _ (S.push (tk := s.toks) ⟨#[], 0, _, rfl, fun _ h => (nomatch h), fun k => ⟨fun h => (nomatch h), fun ⟨e, he, _⟩ => (nomatch he)⟩, by decide, by cases led <;> decide, rfl⟩)
theorem set_add {ns : List Int} {Q : Value → Shared → Prop} (S : Sim w s₀ L m P s) (hn : k ∉ ns) (U : Mine.Upd a (.set ns) (.set (k :: ns)) P P') (hz : ns.length + 1 < 4096) (h : ∀ s', Sim w s₀ L m P' s' → Q .none s') :
    wpAny (model prog w) A (call (.builtin "set.add") [.ref a, .int k t]) Q E s := by
  refine call_set_add (isInt_self k t) rfl (set_of S U.mem) hz fun h' hs hS => ?_
  obtain ⟨o, es, ep, tb, h1, ⟨c1, c2, c3⟩, h2, h3, h4, h5, h6, h7⟩ := hS
  obtain ⟨oc, od, oda, osl⟩ := o
  dsimp only at c1 c2 c3 h2
  subst c1 c2 c3 h2
  refine h _ (S.upd (tk := s.toks + 1) U hs h1 ⟨es, ep, tb, rfl, fun e he => ?_, fun k' => ?_, h5, h6, ?_⟩)
  · obtain ⟨⟨k', g1, g2⟩, _⟩ := h3 e he
    have g1' : Value.isInt k' e.2 = true := g1
    obtain ⟨u, q⟩ := Value.isInt_shape g1'
    have g2' : e.1 = hashInt k' := g2
    exact ⟨k', u, Prod.ext g2' q⟩
  · have := h4 k'
    simp only [Bool.or_eq_true, decide_eq_true_iff] at this
    rw [List.mem_cons]
    constructor
    · intro q
      obtain ⟨e, he, q⟩ := this.mp (q.elim .inr .inl)
      have q' : Value.isInt k' e.2 = true := q
      obtain ⟨u, q''⟩ := Value.isInt_shape q'
      exact ⟨e, he, u, q''⟩
    · rintro ⟨e, he, u, q⟩
      exact (this.mpr ⟨e, he, by rw [q]; exact isInt_self k' u⟩).elim .inr .inl
  · rw [h7]; simp [hn]
end
end Mine
namespace Mine

/-- an entry is taken out -/
inductive Rem (x : Addr × MO) : Led → Led → Prop
  | head {P} : Rem x (x :: P) P
  | tail {y P P'} : Rem x P P' → Rem x (y :: P) (y :: P')
  | right {X Y Y'} : Rem x Y Y' → Rem x (X ++ Y) (X ++ Y')
  | left {X X' Y} : Rem x X X' → Rem x (X ++ Y) (X' ++ Y)
/-- a stretch is taken out -/
inductive Rems (Z : Led) : Led → Led → Prop
  | head {P} : Rems Z (Z ++ P) P
  | all : Rems Z Z []
  | tail {y P P'} : Rems Z P P' → Rems Z (y :: P) (y :: P')
  | right {X Y Y'} : Rems Z Y Y' → Rems Z (X ++ Y) (X ++ Y')
  | left {X X' Y} : Rems Z X X' → Rems Z (X ++ Y) (X' ++ Y)
inductive SubM : Led → Led → Prop
  | nil {P} : SubM P []
  | refl {P} : SubM P P
  | cons {x P P₁ Q} : Rem x P P₁ → SubM P₁ Q → SubM P (x :: Q)
  | seg {Z P P₁ Q} : Rems Z P P₁ → SubM P₁ Q → SubM P (Z ++ Q)
  | drop {x P Q} : SubM P Q → SubM (x :: P) Q

theorem Rem.perm {x P P'} (h : Rem x P P') : P.Perm (x :: P') := by
  induction h with
  | head => exact .refl _
  | tail _ ih => exact (ih.cons _).trans (.swap ..)
  | @right X Y Y' _ ih => exact (ih.append_left X).trans List.perm_middle
  | @left X X' Y _ ih => exact ih.append_right Y
theorem Rems.perm {Z P P'} (h : Rems Z P P') : P.Perm (Z ++ P') := by
  induction h with
  | head => exact .refl _
  | all => rw [List.append_nil]
  | @tail y _ P' _ ih => exact (ih.cons _).trans List.perm_middle.symm
  | @right X Y Y' _ ih =>
    refine (ih.append_left X).trans ?_
    rw [← List.append_assoc, ← List.append_assoc]
    exact List.perm_append_comm.append_right _
  | @left X X' Y _ ih => exact (ih.append_right Y).trans (by rw [List.append_assoc])
theorem SubM.perm {P Q} (h : SubM P Q) : ∃ R, P.Perm (Q ++ R) := by
  induction h with
  | @nil P => exact ⟨P, .refl _⟩
  | refl => exact ⟨[], by rw [List.append_nil]⟩
  | @cons x P P₁ Q h _ ih => obtain ⟨R, k⟩ := ih; exact ⟨R, h.perm.trans (k.cons _)⟩
  | @drop x P Q _ ih => obtain ⟨R, k⟩ := ih; exact ⟨x :: R, (k.cons x).trans List.perm_middle.symm⟩
  | @seg Z P P₁ Q h _ ih => obtain ⟨R, k⟩ := ih; exact ⟨R, h.perm.trans ((k.append_left Z).trans (by rw [List.append_assoc]))⟩

structure AttrOK (K : Frag) (C : Addr) (name : Str) : Prop where
  g : plainGet K C name = true
  h : hasDictIn K C = true
  a : findIn K (.ref C) name = some none
  st : findIn K (.ref C) "__setattr__" = some (some (.builtin "object.__setattr__"))
  po : plainOver K C = true
  tk : takerIn K C name = some none
structure SlotOK (K : Frag) (C : Addr) (name : Str) (p : Addr) (i : Nat) : Prop where
  g : plainGet K C name = true
  c : isClsIn K C = true
  a : findIn K (.ref C) name = some (some (.ref p))
  n : specialIn K (.ref p) "__get__" = some (some (.builtin "member_descriptor.__get__"))
  t : takesIn K (.ref p) = some true
  s : slotIn K p C = some i
  st : findIn K (.ref C) "__setattr__" = some (some (.builtin "object.__setattr__"))
  po : plainOver K C = true
  tk : takerIn K C name = some (some (.ref p))
  ty : typeIn K (.ref p) = some (.type "member_descriptor")
  z : i < 1000
structure MethOK (K : Frag) (C : Addr) (name : Str) (f : Addr) : Prop where
  g : plainGet K C name = true
  fi : findIn K (.ref C) name = some (some (.ref f))
  t : isFn K (.ref f) = true
  k : keepIn K (.ref f) = true
section
variable {prog : Program} {w : World} {K : Frag} {A : Around} {E : Value → Shared → Prop} {s₀ s : Shared} {L : Addr} {m : List (Str × Value)} {P P' : Led} {d : Nat} {env : Env} {x dx C : Addr} {am : List (Str × Value)} {name : Str}
theorem attr_get' (O : AttrOK K C name) {v : Value} {expr : Bool} {Q : Value → Shared → Prop} (G : Gr K s₀.heap) (S : Sim w s₀ L m P s) (hx : (x, .inst C dx) ∈ P) (hd : (dx, .attrs am) ∈ P) (hl : am.lookup name = some v) (hv : handedIn v = true)
    (h : All v fun v' => ∀ s', Sim w s₀ L m P s' → Q v' s') : wpAny (model prog w) A (getAttr (.ref x) name expr) Q E s := attr_get G S hx hd hl O.g O.h O.a rfl hv h
theorem attr_set' (O : AttrOK K C name) {v : Value} {Q : Unit → Shared → Prop} (G : Gr K s₀.heap) (S : Sim w s₀ L m P s) (hx : (x, .inst C dx) ∈ P) (U : Mine.Upd dx (.attrs am) (.attrs (puta name (er v) am)) P P') (hz : (puta name (er v) am).length ≤ 1000)
    (h : ∀ s', Sim w s₀ L m P' s' → Q () s') : wpAny (model prog w) A (setAttr (.ref x) name v) Q E s := attr_set G S hx U O.st O.po O.tk O.h hz h
theorem meth_inst' {f : Addr} (O : MethOK K C name f) {pl : Sem Bool} {Q : Value × List Value → Shared → Prop} (G : Gr K s₀.heap) (S : Sim w s₀ L m P s) (hx : (x, .inst C dx) ∈ P) (hd : (dx, .attrs am) ∈ P) (hl : am.lookup name = none)
    (h : Q (.ref f, [.ref x]) s) : wpAny (model prog w) A (getMethod (.ref x) name pl) Q E s := meth_inst G S hx hd hl O.g O.fi O.t h
theorem slot_get' {p : Addr} {i : Nat} (O : SlotOK K C name p i) {v : Value} {expr : Bool} {vs : List (Option Value)} {Q : Value → Shared → Prop} (G : Gr K s₀.heap) (S : Sim w s₀ L m P s) (hx : (x, .slots C dx vs) ∈ P) (hd : (dx, .attrs am) ∈ P)
    (hv : vs[i]?.join = some v) (hh : handedIn v = true) (h : All v fun v' => ∀ s', Sim w s₀ L m P s' → Q v' s') : wpAny (model prog w) A (getAttr (.ref x) name expr) Q E s := slot_get G S hx hd O.g O.c O.a O.n O.t O.s hv hh h
theorem slot_set' {p : Addr} {i : Nat} (O : SlotOK K C name p i) {v : Value} {vs : List (Option Value)} {Q : Unit → Shared → Prop} (G : Gr K s₀.heap) (S : Sim w s₀ L m P s) (U : Mine.Upd x (.slots C dx vs) (.slots C dx (setAtL vs i (er v))) P P') (hd : (dx, .attrs am) ∈ P)
    (h : ∀ s', Sim w s₀ L m P' s' → Q () s') : wpAny (model prog w) A (setAttr (.ref x) name v) Q E s := slot_set G S U hd O.st O.po O.tk O.ty O.s O.z h
end

section
variable {w : World} {s₀ s : Shared} {L L' : Addr} {m m' : List (Str × Value)} {P Q : Led}
theorem Sim.to (S : Sim w s₀ L m P s) (h : SubM P Q) : Sim w s₀ L m Q s := by
  obtain ⟨R, k⟩ := h.perm
  exact (S.perm k).sub (List.sublist_append_left ..)
theorem Sim.out (S : Sim w s₀ L' m' P s) (h : SubM P ((L, .frame m) :: Q)) : Sim w s₀ L m Q s := (S.to h).leave
theorem Sim.at (S : Sim w s₀ L m P s) {a o} (h : Rem (a, o) P Q) : Sim w s₀ L m ((a, o) :: Q) s := S.perm h.perm
end
end Mine
namespace Mine
section
variable {M : Model} {A : Around} {E : Value → Shared → Prop} {s : Shared} {env : Env} {pos : Pos} {first : List Value} {e : Expr} {rest : List Expr} {Q : Value → Shared → Prop} {id : String}
theorem callWith_b (h : wpAny M A (spliced (backTo pos (starEach (e :: rest) env))) (fun vs s₁ => wpAny M A (call (.builtin id) (first ++ vs)) Q E s₁) E s)
    (he : starEach (e :: rest) env = (false, eval e env) :: starEach rest env := by rfl) (hplain : (backTo pos (starEach rest env)).any (·.1) = false := by rfl) :
    wpAny M A (callWith pos (.builtin id) first (backTo pos (starEach (e :: rest) env)) []) Q E s := by
  rw [he] at h ⊢
  exact callWith_builtin (by show (false || (backTo pos (starEach rest env)).any (·.1)) = false; rw [hplain]; rfl) (evalArgs_plain h)
theorem callWith_b0 (h : wpAny M A (call (.builtin id) (first ++ [])) Q E s) : wpAny M A (callWith pos (.builtin id) first (backTo pos (starEach [] env)) []) Q E s :=
  callWith_builtin rfl (evalArgs_nil3 h)
theorem callWith_t (h : wpAny M A (spliced (backTo pos (starEach (e :: rest) env))) (fun vs s₁ => wpAny M A (call (.type id) (first ++ vs)) Q E s₁) E s)
    (he : starEach (e :: rest) env = (false, eval e env) :: starEach rest env := by rfl) (hplain : (backTo pos (starEach rest env)).any (·.1) = false := by rfl) :
    wpAny M A (callWith pos (.type id) first (backTo pos (starEach (e :: rest) env)) []) Q E s := by
  rw [he] at h ⊢
  exact PySem.callWith_type (by show (false || (backTo pos (starEach rest env)).any (·.1)) = false; rw [hplain]; rfl) (evalArgs_plain h)
theorem callWith_t0 (h : wpAny M A (call (.type id) (first ++ [])) Q E s) : wpAny M A (callWith pos (.type id) first (backTo pos (starEach [] env)) []) Q E s :=
  PySem.callWith_type rfl (evalArgs_nil3 h)
end
section
variable {M : Model} {A : Around} {E : Value → Shared → Prop} {s : Shared} {env : Env}
theorem assign_Sub {o i : Expr} {pos : Pos} {v : Value} {Q : Unit → Shared → Prop} (h : wpAny M A (eval o env) (fun ov s₁ => wpAny M A (eval i env) (fun iv s₂ => wpAny M A (setItem ov iv v) Q E s₂) E s₁) E s) :
    wpAny M A (assign (.Subscript o i pos) env v) Q E s := fun Γ p hΓ => by
  simp only [assign_Subscript, Sem.wp_bind', Sem.wp_holding, Sem.wp_cmd_standAt, Sem.wp_release]
  exact Sem.wp_mono M Γ _ (fun ov p₁ s₁ h₁ => Sem.wp_mono M Γ _ (fun iv _ s₂ h₂ => h₂ Γ _ hΓ) (fun _ _ _ h' => h') _ _ (h₁ Γ p₁ hΓ)) (fun _ _ _ h' => h') _ _ (h Γ p hΓ)
end
section
variable {prog : Program} {w : World} {K : Frag} {A : Around} {E : Value → Shared → Prop} {s₀ s : Shared} {L : Addr} {m : List (Str × Value)} {P P' : Led} {a : Addr} {kvs : List (Int × Value)} {ep : Nat} {k : Int} {t : Tok} {xs : List Value}
theorem dict_get {v : Value} {Q : Value → Shared → Prop} (G : Gr K s₀.heap) (S : Sim w s₀ L m P s) (hm : (a, .dict kvs ep) ∈ P) (hv : (dget kvs k).getD .none = v) (h : All v fun v' => ∀ s', Sim w s₀ L m P s' → Q v' s') :
    wpAny (model prog w) A (call (.builtin "dict.get") [.ref a, .int k t]) Q E s := by
  obtain ⟨kvs', h1, h2⟩ := S.dict (prog := prog) hm
  refine call_meetsIn F.slot_dict_get h1.dictOf.mapOf.typeIs F.entry_dict_get (F.args_dict_get_2 _ _) (meets_dict_get (intKind prog w) a (isInt_self k t) (S.notSys G hm)) ⟨_, h1.dictOf.mapOf, h.of ?_ _ S.toks⟩
  rw [← hv, ← h2, ← valueAt_er]
  cases valueAt kvs' k <;> rfl
theorem dict_put {v : Value} {P₁ : Led} {Q : Unit → Shared → Prop} (S : Sim w s₀ L m P s) (hr : Rem (a, .dict kvs ep) P P₁) (hz : kvs.length ≤ sizeLine)
    (h : ∀ ep' s', Sim w s₀ L m ((a, .dict (dput kvs k (er v)) ep') :: P₁) s' → Q () s') : wpAny (model prog w) A (setItem (.ref a) (.int k t) v) Q E s := by
  refine dict_set (S.at hr) (.head _) hz fun ep' P' s' U S' => ?_
  obtain ⟨X, Y, e1, e2⟩ := U.split
  cases X with
  | nil => cases e1; subst e2; exact h ep' _ S'
  | cons p X =>
    exfalso
    simp only [List.cons_append, List.cons.injEq] at e1
    obtain ⟨rfl, rfl⟩ := e1
    have nd := (S.at hr).nd
    simp at nd
/-- the last item is taken off -/
theorem list_pop {v : Value} {ys : List Value} {Q : Value → Shared → Prop} (S : Sim w s₀ L m P s) (he : xs = ys ++ [v]) (U : Mine.Upd a (.list xs) (.list ys) P P') (hz : xs.length ≤ sizeLine) (h : All v fun v' => ∀ s', Sim w s₀ L m P' s' → Q v' s') :
    wpAny (model prog w) A (call (.builtin "list.pop") [.ref a]) Q E s := by
  obtain ⟨m', pre, ob, post, F', N, r, h1, h2, back, _⟩ := S.viaNews U
  obtain ⟨vs, n, rfl, hv⟩ := r
  have hne : vs.toList ≠ [] := by intro q; rw [q, he] at hv; simp at hv
  obtain ⟨l, y, hly⟩ : ∃ l y, vs.toList = l ++ [y] := ⟨_, _, (List.dropLast_concat_getLast hne).symm⟩
  have hlast : kl_last vs.toList = some (l, y) := by
    have : ∀ (l : List Value) (y : Value), kl_last (l ++ [y]) = some (l, y) := by
      intro l y; induction l with
      | nil => rfl
      | cons z r ih => simp only [List.cons_append, kl_last, ih]
    rw [hly, this]
  have hm2 : l.map er = ys ∧ er y = v := by
    have hv' := hv
    rw [hly, List.map_append, he] at hv'
    have := List.append_inj' hv' rfl
    exact ⟨this.1, by simpa using this.2⟩
  refine kl_pop F' N hlast (updW h2 h1) ?_ fun h' F'' N' => ?_
  · have : vs.toList.length = xs.length := by rw [← hv]; simp
    omega
  · exact h.of hm2.2 _ (back h' s.toks _ ⟨_, _, rfl, by simpa using hm2.1⟩ F'' N')
theorem list_clear {Q : Value → Shared → Prop} (S : Sim w s₀ L m P s) (U : Mine.Upd a (.list xs) (.list []) P P') (hz : xs.length ≤ sizeLine) (h : ∀ s', Sim w s₀ L m P' s' → Q .none s') :
    wpAny (model prog w) A (call (.builtin "list.clear") [.ref a]) Q E s := by
  obtain ⟨ob, h1, ⟨vs, n, rfl, h2⟩, _⟩ := S.get U.mem
  have hq : vs.size = xs.length := by rw [← h2]; simp
  exact call_meets F.slot_list_clear ⟨_, h1, rfl⟩ F.entry_list_clear (F.args_list_clear_1 _) (AutoSeq1.list_clear_list_0 a vs n (hq ▸ hz)) ⟨h1, h _ (S.upd (tk := s.toks) U (Heap.SameBut.update ..) (Heap.get?_update_self _ h1 rfl) ⟨#[], _, rfl, rfl⟩)⟩
end
end Mine
namespace Mine
theorem meets_bool_list (l : Addr) (items : Array Value) : Meets (Builtin.«bool.__new__» ⟨[.type "bool", .ref l], []⟩) (fun _ R s => s.heap.IsList l items ∧ (items.size : Int) < 2 ^ 63 ∧ R (.ok (.ret (.bool (!items.isEmpty)))) { s with toks := s.toks + 1 + 1 }) :=
  Meets.of_wp fun prog w A R s hs => by
    obtain ⟨hl, hz, hr⟩ := hs
    unfold Builtin.«bool.__new__»
    refine wpAny_bind (wpAny_of_eq (a := true) rfl ?_)
    refine wpAny_bind (wpAny_of_eq PySem.F.conv_sub_bool ?_)
    refine wpAny_bind (wpAny_of_eq (a := [.ref l]) rfl ?_)
    exact wpAny_bind (wpAny_truthy_list hl hz (wpAny_pure ⟨_, rfl, hr⟩))
section
variable {prog : Program} {w : World} {K : Frag} {A : Around} {E : Value → Shared → Prop} {s₀ s : Shared} {L : Addr} {m : List (Str × Value)} {P P' : Led} {a : Addr} {xs : List Value}
theorem list_bool {Q : Value → Shared → Prop} (S : Sim w s₀ L m P s) (hm : (a, .list xs) ∈ P) (hz : xs.length < 2 ^ 60) (h : ∀ s', Sim w s₀ L m P s' → Q (.bool (!xs.isEmpty)) s') :
    wpAny (model prog w) A (call (.type "bool") [.ref a]) Q E s := by
  obtain ⟨vs, h1, h2⟩ := S.isl hm
  have hq : vs.toArray.size = xs.length := by rw [← h2]; simp
  have e : vs.toArray.isEmpty = xs.isEmpty := by rw [← h2]; cases vs <;> rfl
  exact call_bool_1 (meets_bool_list a vs.toArray) ⟨h1, by omega, rfl, by rw [e]; exact h _ S.toks⟩
end
end Mine
namespace Mine

def turnOf (e : Expr) (dp : Nat) (it acc : Value) (env : Env) (target iter : Expr) (ifs : List Expr) (body : Sem Fin) : Sem Fin := do
  standAt iter.pos
  match ← pyNext it with
  | none => pure (.done .next)
  | some v =>
    letOwnedTupleGo target it v
    assign target env v
    let mut ok := true
    for c in ifs do
      if ok then ok ← isTrue c env (eval c env)
    if ok then body else again (.compLoop e dp it acc env)

section
variable {prog : Program} {w : World} {K : Frag} {A : Around} {E : Value → Shared → Prop} {s₀ s : Shared} {L : Addr} {m : List (Str × Value)} {P P' : Led} {d : Nat} {env : Env}

theorem turn_list1 {elt target iter ifs scope pos it acc} : compTurn (.ListComp elt [⟨target, iter, ifs, 0⟩] scope pos) 0 it acc env = turnOf (.ListComp elt [⟨target, iter, ifs, 0⟩] scope pos) 0 it acc env target iter ifs
    ((do let _ ← call (.builtin "list.append") [acc, ← eval elt env]) >>= fun _ => again (.compLoop (.ListComp elt [⟨target, iter, ifs, 0⟩] scope pos) 0 it acc env)) := by rfl
theorem turn_list2a {elt target iter ifs target' iter' ifs' scope pos it acc} : compTurn (.ListComp elt [⟨target, iter, ifs, 0⟩, ⟨target', iter', ifs', 0⟩] scope pos) 0 it acc env = turnOf (.ListComp elt [⟨target, iter, ifs, 0⟩, ⟨target', iter', ifs', 0⟩] scope pos) 0 it acc env target iter ifs (do
    let x ← eval iter' env
    standAt iter'.pos
    let x ← foldedSetIterable iter' env x
    let i ← holding [x] (pyIter x)
    let _ ← runOwn (.compStart (.ListComp elt [⟨target, iter, ifs, 0⟩, ⟨target', iter', ifs', 0⟩] scope pos) 1 i acc env) env
    again (.compLoop (.ListComp elt [⟨target, iter, ifs, 0⟩, ⟨target', iter', ifs', 0⟩] scope pos) 0 it acc env)) := by rfl
theorem turn_list2b {elt target iter ifs target' iter' ifs' scope pos it acc} : compTurn (.ListComp elt [⟨target, iter, ifs, 0⟩, ⟨target', iter', ifs', 0⟩] scope pos) 1 it acc env = turnOf (.ListComp elt [⟨target, iter, ifs, 0⟩, ⟨target', iter', ifs', 0⟩] scope pos) 1 it acc env target' iter' ifs'
    ((do let _ ← call (.builtin "list.append") [acc, ← eval elt env]) >>= fun _ => again (.compLoop (.ListComp elt [⟨target, iter, ifs, 0⟩, ⟨target', iter', ifs', 0⟩] scope pos) 1 it acc env)) := by rfl
def CompNext (w : World) (s₀ : Shared) (L : Addr) (IT : Led) (Inv : List (Str × Value) → Led → Prop) (s₂ : Shared) : Prop := ∃ m₂ P₂, Sim w s₀ L m₂ (IT ++ P₂) s₂ ∧ Inv m₂ P₂

theorem comp_code {e : Expr} {dp : Nat} {acc : Value} {target iter : Expr} {ifs : List Expr} {body : Sem Fin} {it : Value} {n : Nat} {IT : Nat → Led} {Req : Led → Prop} {Yld : Nat → (Value → Led → Prop) → Prop} {R : Result → Shared → Prop}
    (Sr : Src prog w A s₀ env.locals target it n IT Req Yld) (Inv : Nat → List (Str × Value) → Led → Prop) (S : Sim w s₀ env.locals m (IT 0 ++ P) s) (h0 : Inv 0 m P) (hreq : ∀ i m P, Inv i m P → Req P)
    (ht : compTurn e dp it acc env = turnOf e dp it acc env target iter ifs body)
    (step : ∀ i m P, i < n → Inv i m P → ∀ J : List (Str × Value) → Led → Prop, (∀ m P, Inv (i + 1) m P → J m P) → Yld i (fun v X => ∀ s, Sim w s₀ env.locals m (IT (i + 1) ++ (X ++ P)) s →
      wpAny (model prog w) A (assign target env v) (fun _ s₁ => wpAny (model prog w) A (forIn ifs true fun c r => if r = true then do let ok ← isTrue c env (eval c env); pure (ForInStep.yield ok) else pure (ForInStep.yield r)) (fun ok s₂ =>
        if ok = true then wpAny (model prog w) A body (fun fin s₃ => fin = .again (.compLoop e dp it acc env) ∧ CompNext w s₀ env.locals (IT (i + 1)) J s₃) noE s₂ else CompNext w s₀ env.locals (IT (i + 1)) J s₂) noE s₁) noE s))
    (done : ∀ m P s, Inv n m P → Sim w s₀ env.locals m P s → R (.ok .next) s)
    (hq : (Code.compLoop e dp it acc env).quiet = true := by rfl)
    (hd : (model prog w).den (.compLoop e dp it acc env) = (compTurn e dp it acc env).onRaise (fun x => do noteFrame x env; theTreesLotGoes x) := by rfl) (hu : A.under (.compLoop e dp it acc env) = A := by rfl) :
    codeAny (model prog w) A (.compLoop e dp it acc env) R s := by
  refine codeAny_loop hq (fun j s' => ∃ i m P, j = n - i ∧ i ≤ n ∧ Inv i m P ∧ Sim w s₀ env.locals m (IT i ++ P) s') (fun j s' hI => ?_) n ⟨0, m, P, rfl, Nat.zero_le _, h0, S⟩
  obtain ⟨i, m, P, rfl, hi, hv, S'⟩ := hI
  rw [hu, hd]
  refine wpAny_noted (wpAny_noRaise ?_)
  rw [ht]
  refine wpAny_bind (wpAny_standAt (wpAny_bind ?_))
  by_cases hlt : i < n
  · refine wpAny_mono (Sr.step i m P s' (fun _ => False) (fun v s₂ => wpAny (model prog w) A (assign target env v) (fun _ s₁ => wpAny (model prog w) A (forIn ifs true fun c r => if r = true then do let ok ← isTrue c env (eval c env); pure (ForInStep.yield ok) else pure (ForInStep.yield r)) (fun ok s₂ =>
        if ok = true then wpAny (model prog w) A body (fun fin s₃ => fin = .again (.compLoop e dp it acc env) ∧ CompNext w s₀ env.locals (IT (i + 1)) (Inv (i + 1)) s₃) noE s₂ else CompNext w s₀ env.locals (IT (i + 1)) (Inv (i + 1)) s₂) noE s₁) noE s₂) hlt (hreq _ _ _ hv) S' (step i m P hlt hv _ fun _ _ h => h)) (fun r s₁ h₁ => ?_) fun _ _ x => x
    cases r with
    | none => exact h₁.elim
    | some v =>
      have nx : ∀ s₄, CompNext w s₀ env.locals (IT (i + 1)) (Inv (i + 1)) s₄ → ∃ k, k < n - i ∧ ∃ i m P, k = n - i ∧ i ≤ n ∧ Inv i m P ∧ Sim w s₀ env.locals m (IT i ++ P) s₄ := by
        rintro s₄ ⟨m₂, P₂, S₂, hv₂⟩
        exact ⟨n - (i + 1), by omega, i + 1, m₂, P₂, rfl, hlt, hv₂, S₂⟩
      refine wpAny_bind (wpAny_mono h₁ (fun _ s₂ h₂ => wpAny_bind (wpAny_mono (wpAny_noRaise h₂) (fun _ s₃ h₃ => wpAny_bind (wpAny_mono (wpAny_noRaise h₃) (fun ok s₄ h₄ => ?_) fun _ _ x => x)) fun _ _ x => x)) fun _ _ x => x)
      cases ok with
      | false => exact wpAny_pure ⟨rfl, nx _ h₄⟩
      | true =>
        refine wpAny_mono (wpAny_noRaise h₄) (fun fin s₅ h₅ => ?_) fun _ _ x => x
        obtain ⟨rfl, h₅⟩ := h₅
        exact ⟨rfl, nx _ h₅⟩
  · have e' : i = n := by omega
    subst e'
    refine wpAny_mono (Sr.stop m P s' (fun s₁ => R (.ok .next) s₁) (fun _ _ => False) (hreq _ _ _ hv) S' (fun s₁ S₁ => done m P s₁ hv S₁)) (fun r s₁ h₁ => ?_) fun _ _ x => x
    cases r with
    | none => exact wpAny_pure h₁
    | some v => exact wpAny_bind (wpAny_mono (wpAny_noRaise h₁) (fun _ _ x => x.elim) fun _ _ x => x)
end
end Mine
namespace Mine

/-- the new cells, the last one first -/
def cellLed : Nat → List (Str × NameKind) → Led → Led
  | _, [], P => P
  | n, (_, k) :: r, P => if k == .cell then cellLed (n + 1) r ((n, .cell none) :: P) else cellLed n r P

section
variable {M : Model} {prog : Program} {w : World} {K : Frag} {A : Around} {E : Value → Shared → Prop} {s₀ s : Shared} {L : Addr} {m : List (Str × Value)} {P P' : Led} {d : Nat} {env : Env}

theorem Sim.cells : ∀ (names : List (Str × NameKind)) {P : Led} {s : Shared}, Sim w s₀ L m P s → Sim w s₀ L m (cellLed s.heap.objs.size names P) { s with heap := pushCells s.heap names }
  | [], _, _, S => S
  | (x, k) :: r, P, s, S => by
    unfold cellLed pushCells
    by_cases h : (k == .cell) = true
    · rw [if_pos h, if_pos h]
      have := Sim.cells r (S.push' (o := .cell none) (ob := { cls := .type "cell", data := .cell none }) (h' := s.heap.push { cls := .type "cell", data := .cell none }) (tk := s.toks) (fun b o e => Heap.get?_push_of_some _ e) (Nat.le_refl _) (Heap.get?_push_size _ rfl) ⟨_, rfl, rfl⟩)
      dsimp only at this
      rw [Heap.size_push] at this
      exact this
    · rw [if_neg h, if_neg h]
      exact Sim.cells r S

theorem fenv_new {scope : Scope} {cl : List (Str × Addr)} {Q : Env → Shared → Prop} (S : Sim w s₀ L m P s)
    (h : ∀ L' s', Sim w s₀ L' [] (cellLed (L' + 1) scope.names ((L, .frame m) :: P)) s' →
      Q { scope := scope, locals := L', globals := env.globals, cells := cellsFrom (L' + 1) scope.names cl, qual := env.qual, func := none, code := env.code, frame := env.frame, builtins := env.builtins } s') :
    wpAny M A (newFunctionEnv scope env.globals cl [] env.qual none .none (some env)) Q E s := by
  simp only [newFunctionEnv, Option.isSome_some, if_true]
  refine wpAny_bind (wpAny_alloc ?_)
  refine wpAny_bind (wpAny_layCells _ (fun name kind cells => by cases kind == NameKind.cell <;> simp) _ _ _ _ ?_)
  rw [show ({ s with heap := s.heap.push { cls := .type "dict", data := .dict #[] } } : Shared).heap.objs.size = s.heap.objs.size + 1 from Heap.size_push ..]
  refine wpAny_bind ?_
  rw [List.forIn_nil]
  refine wpAny_pure (wpAny_pure (h s.heap.objs.size _ ?_))
  have S1 := frame_new (binds := []) (h' := s.heap.push { cls := .type "dict", data := .dict #[] }) (tk := s.toks) S (Heap.Ns.new s.heap (.type "dict")) (fun b o e => Heap.get?_push_of_some _ e)
  have S2 := S1.cells scope.names
  dsimp only at S2
  rw [Heap.size_push] at S2
  exact S2

theorem Sim.swap {C : Addr} {mC : List (Str × Value)} (S : Sim w s₀ C mC ((L, .frame m) :: P) s) : Sim w s₀ L m ((C, .frame mC) :: P) s := by
  refine ⟨S.eq, S.keep, fun p hp => S.led p ?_, ?_⟩
  · rcases List.mem_cons.mp hp with rfl | hp
    · exact .tail _ (.head _)
    · rcases List.mem_cons.mp hp with rfl | hp
      · exact .head _
      · exact .tail _ (.tail _ hp)
  · have := S.nd
    simp only [List.map_cons, List.nodup_cons, List.mem_cons, not_or] at this ⊢
    exact ⟨⟨Ne.symm this.1.1, this.2.1⟩, this.1.2, this.2.2⟩

theorem Sim.lose {C : Addr} {o : MO} (S : Sim w s₀ L m ((C, o) :: P) s) {h' : Heap} (hs : Heap.SameBut C s.heap h') : Sim w s₀ L m P { s with heap := h' } := by
  have nd := S.nd
  simp only [List.map_cons, List.nodup_cons, List.mem_cons, not_or] at nd
  obtain ⟨_, _, _, hC⟩ := S.get (a := C) (.head _)
  refine ⟨S.eq, fun b ob e => ?_, fun p hp => ?_, ?_⟩
  · refine hs.extBut b ob ?_ (S.keep b ob e)
    rintro rfl; rw [hC.1] at e; cases e
  · obtain ⟨ob, h1, h2⟩ := S.led p (by rcases List.mem_cons.mp hp with rfl | hp; exact .head _; exact .tail _ (.tail _ hp))
    refine ⟨ob, hs.extBut _ _ ?_ h1, h2⟩
    rcases List.mem_cons.mp hp with rfl | hp
    · exact nd.1.1
    · rintro rfl; exact nd.2.1 (List.mem_map_of_mem hp)
  · simp only [List.map_cons, List.nodup_cons]; exact ⟨nd.1.2, nd.2.2⟩

theorem comp_end {Q : Value → Shared → Prop} {acc : Value} {C : Addr} {mC : List (Str × Value)} {f : Flow} (S : Sim w s₀ C mC P s) (hs : SubM P ((L, .frame m) :: P')) (h : ∀ s', Sim w s₀ L m P' s' → Q acc s') :
    compPost (model prog w) A E none Q acc C (.ok f) s := by
  have S1 := S.to hs
  obtain ⟨m', hn, _⟩ := S1.ns
  exact ⟨m', hn, fun h' hb => h _ (S1.swap.lose hb)⟩

theorem comp_use {Q : Value → Shared → Prop} {acc : Addr} {C : Addr} {mC : List (Str × Value)} {f : Flow} {y : Str} {py : Pos} (S : Sim w s₀ C mC P s) (hs : SubM P ((L, .frame m) :: P')) (h : ∀ s', Sim w s₀ L ((y, .ref acc) :: m) P' s' → Q .none s')
    (hL : env.locals = L := by rfl) (hk : env.scope.kind = .function := by rfl) (hx : env.kindOf y = some .local := by rfl) :
    compPost (model prog w) A E (some (assign (.Name y py) env)) Q (.ref acc) C (.ok f) s := by
  have S1 := (S.to hs).swap
  refine wpAny_assign_Name (store_local S1 (fun s' S2 => ?_) hL hk hx)
  have S3 := S2
  obtain ⟨ob, h1, ⟨es, ep, h2, h3, h4⟩, _⟩ := S3.get (a := C) (.head _)
  exact ⟨fun x => nsFind es x, ⟨ob, es, ep, h1, h2, h3, fun _ => rfl⟩, fun h' hb => h _ (S3.lose hb)⟩

/-- the env of a comprehension -/
def cEnv (scope : Scope) (cl : List (Str × Addr)) (env : Env) (C : Addr) : Env := { scope := relabel scope env, locals := C, globals := env.globals, cells := cellsFrom (C + 1) scope.names cl, qual := env.qual, func := none, code := env.code, frame := env.frame, builtins := env.builtins }
/-- a comprehension is begun -/
def CompIn (scope : Scope) (cl : List (Str × Addr)) (env : Env) (R : Addr → Env → Shared → Prop) (s : Shared) : Prop :=
  ∀ (M : Model) (A : Around) (E : Value → Shared → Prop), wpAny M A (newFunctionEnv scope env.globals cl [] env.qual none .none (some env)) (fun cenv s₄ => R cenv.locals { cenv with scope := relabel scope env } s₄) E s
theorem comp_in {scope : Scope} {cl : List (Str × Addr)} {R : Addr → Env → Shared → Prop} (S : Sim w s₀ L m P s)
    (h : ∀ C s', Sim w s₀ C [] (cellLed (C + 1) scope.names ((L, .frame m) :: P)) s' → R C (cEnv scope cl env C) s') : CompIn scope cl env R s := fun _ _ _ => fenv_new S h
/-- a list comprehension -/
theorem list_comp {elt target iter : Expr} {ifs : List Expr} {gs : List Comprehension} {scope : Scope} {pos : Pos} {cl : List (Str × Addr)} {Q : Value → Shared → Prop}
    (hclos : closureFor scope env = pure cl)
    (h : wpAny (model prog w) A (eval iter env) (fun x s₁ => wpAny (model prog w) A (pyIter x) (fun it s₂ => wpAny (model prog w) A (newList []) (fun acc s₃ =>
      CompIn scope cl env (fun C cenv s₄ =>
        codeAny (model prog w) A (.compStart (.ListComp elt (⟨target, iter, ifs, 0⟩ :: gs) scope pos) 0 it acc cenv) (compPost (model prog w) A E none Q acc C) s₄) s₃) E s₂) E s₁) E s)
    (hs : ∀ x, foldedSetIterable iter env x = pure x := by intro _; rfl) (hkind : scope.kind = .function := by rfl) (hnames : ∀ x ∈ scope.names, x.2 = .local → scope.names.lookup x.1 = some .local := by decide) :
    wpAny (model prog w) A (eval (.ListComp elt (⟨target, iter, ifs, 0⟩ :: gs) scope pos) env) Q E s := by
  rw [eval_ListComp]
  exact wpAny_comprehension_free (use := none) (g := ⟨target, iter, ifs, 0⟩) (gs := gs) rfl hs hclos hkind hnames (wpAny_mono h (fun _ _ h => wpAny_mono h (fun _ _ h => wpAny_mono h (fun _ _ h => h _ _ _) fun _ _ x => x) fun _ _ x => x) fun _ _ x => x)

theorem assign_comp {elt target iter : Expr} {ifs : List Expr} {gs : List Comprehension} {scope : Scope} {pos py spos : Pos} {y : Str} {cl : List (Str × Addr)} {Q : Flow → Shared → Prop}
    (hsw : swapsWith (.ListComp elt (⟨target, iter, ifs, 0⟩ :: gs) scope pos) (some (.Name y py)) spos.line env = pure true)
    (hclos : closureFor scope env = pure cl)
    (h : wpAny (model prog w) A (eval iter env) (fun x s₁ => wpAny (model prog w) A (pyIter x) (fun it s₂ => wpAny (model prog w) A (newList []) (fun acc s₃ =>
      CompIn scope cl env (fun C cenv s₄ =>
        codeAny (model prog w) A (.compStart (.ListComp elt (⟨target, iter, ifs, 0⟩ :: gs) scope pos) 0 it acc cenv) (compPost (model prog w) A E (some (assign (.Name y py) env)) (fun _ s' => Q .next s') acc C) s₄) s₃) E s₂) E s₁) E s)
    (hs : ∀ x, foldedSetIterable iter env x = pure x := by intro _; rfl) (hkind : scope.kind = .function := by rfl) (hnames : ∀ x ∈ scope.names, x.2 = .local → scope.names.lookup x.1 = some .local := by decide) :
    wpAny (model prog w) A (exec (.Assign [.Name y py] (.ListComp elt (⟨target, iter, ifs, 0⟩ :: gs) scope pos) spos) env) Q E s := by
  rw [exec_Assign_Name_used _ _ _ _ hsw]
  refine wpAny_bind (wpAny_standAt (wpAny_bind ?_))
  show wpAny _ A (do let _ ← comprehension (.ListComp elt (⟨target, iter, ifs, 0⟩ :: gs) scope pos) scope env _ (newList []) false (eval iter env) (some (assign (.Name y py) env))) _ _ s
  refine wpAny_bind (wpAny_mono (wpAny_comprehension_free (use := some (assign (.Name y py) env)) (Q := fun _ s' => Q .next s') (g := ⟨target, iter, ifs, 0⟩) (gs := gs) rfl hs hclos hkind hnames (wpAny_mono h (fun _ _ h => wpAny_mono h (fun _ _ h => wpAny_mono h (fun _ _ h => h _ _ _) fun _ _ x => x) fun _ _ x => x) fun _ _ x => x)) (fun _ s' hq => wpAny_pure (wpAny_pure hq)) fun _ _ e => e)

/-- the start of a list comprehension's clause -/
theorem comp_start {elt : Expr} {gens : List Comprehension} {scope : Scope} {pos : Pos} {dp : Nat} {it acc : Value} {target iter : Expr} {ifs : List Expr} {R : Result → Shared → Prop} (hg : gens[dp]? = some ⟨target, iter, ifs, 0⟩)
    (h0 : codeAny (model prog w) A (.compLoop (.ListComp elt gens scope pos) dp it acc env) R s)
    (h : wpAny (model prog w) A (pyIter it) (fun it' s' => it' = it ∧ s' = s) noE s) :
    codeAny (model prog w) A (.compStart (.ListComp elt gens scope pos) dp it acc env) R s := by
  refine codeAny_of_tree ?_
  show wpAny _ _ ((compStart (.ListComp elt gens scope pos) dp it acc env).onRaise (fun x => do noteFrame x env; standAt theWindowsPlace)) _ _ s
  refine wpAny_notedAt ?_
  unfold compStart
  simp only [clausesOf, hg]
  show wpAny _ _ (ask >>= _) _ _ s
  refine wpAny_bind (wpAny_askSetting (wpAny_ite ?_))
  split
  · exact wpAny_bind (wpAny_pure (wpAny_pure (And.intro rfl h0)))
  · refine wpAny_bind (wpAny_rule ?_)
    show wpAny _ _ (standAt iter.pos >>= _) _ _ s
    refine wpAny_bind (wpAny_standAt (wpAny_bind (wpAny_mono (wpAny_noRaise h) (fun it' s' h' => ?_) fun _ _ x => x)))
    obtain ⟨rfl, rfl⟩ := h'
    exact wpAny_pure (And.intro rfl h0)
end
end Mine
namespace Mine
abbrev MO.rng (a b c : Int) (t u v : Tok) : MO := .raw { cls := .type "range", dict := none, data := .fields #[.int a t, .int b u, .int c v], slots := #[] }
abbrev MO.vals (d : Addr) : MO := .fl "dict_values" #[.ref d]
theorem two_vals {v1 v2 : Value} : ∀ {vs : List Value}, vs.map er = [v1, v2] → ∃ u1 u2, vs = [u1, u2] ∧ er u1 = v1 ∧ er u2 = v2
  | [], h => by cases h
  | [_], h => by cases h
  | [u1, u2], h => by simp only [List.map_cons, List.map_nil, List.cons.injEq, and_true] at h; exact ⟨u1, u2, rfl, h.1, h.2⟩
  | _ :: _ :: _ :: _, h => by simp at h
section
variable {prog : Program} {w : World} {K : Frag} {A : Around} {E : Value → Shared → Prop} {s₀ s : Shared} {L : Addr} {m : List (Str × Value)} {P P' : Led} {d : Nat} {env : Env} {a it : Addr} {xs : List Value}

theorem self_list {i : Nat} (S : Sim w s₀ L m P s) (hm : (it, .liter a i) ∈ P) : wpAny (model prog w) A (pyIter (.ref it)) (fun it' s' => it' = .ref it ∧ s' = s) noE s := by
  obtain ⟨ob, h1, ⟨h2, h3⟩, _⟩ := S.get hm
  exact wpAny_pyIter_listiter ⟨_, h1, h2, h3⟩ ⟨rfl, rfl⟩
theorem self_range {x l st : Int} (S : Sim w s₀ L m P s) (hm : (it, .riter x l st) ∈ P) : wpAny (model prog w) A (pyIter (.ref it)) (fun it' s' => it' = .ref it ∧ s' = s) noE s := by
  obtain ⟨ob, h1, rfl, _⟩ := S.get hm
  exact wpAny_pyIter_rangeiter h1 ⟨rfl, rfl⟩
theorem self_enum {i : Int} {e : Addr} (S : Sim w s₀ L m P s) (hm : (e, .en it i) ∈ P) : wpAny (model prog w) A (pyIter (.ref e)) (fun it' s' => it' = .ref e ∧ s' = s) noE s := by
  obtain ⟨ob, h1, ⟨old, rfl⟩, _⟩ := S.get hm
  exact wpAny_pyIter_enum h1 ⟨rfl, rfl⟩
theorem self_vals {i n ep : Nat} (S : Sim w s₀ L m P s) (hm : (it, .viter a i n ep) ∈ P) : wpAny (model prog w) A (pyIter (.ref it)) (fun it' s' => it' = .ref it ∧ s' = s) noE s := by
  obtain ⟨ob, h1, ⟨h2, h3⟩, _⟩ := S.get hm
  exact wpAny_pyIter_valiter ⟨_, h1, h2, h3⟩ ⟨rfl, rfl⟩
theorem iter_self {Q : Value → Shared → Prop} (h : wpAny (model prog w) A (pyIter (.ref it)) (fun it' s' => it' = .ref it ∧ s' = s) noE s) (k : Q (.ref it) s) : wpAny (model prog w) A (pyIter (.ref it)) Q E s :=
  wpAny_mono (wpAny_noRaise h) (fun _ _ e => by obtain ⟨rfl, rfl⟩ := e; exact k) fun _ _ x => x

theorem range1 {n : Int} {t : Tok} {Q : Value → Shared → Prop} (S : Sim w s₀ L m P s) (h : ∀ r t u v s', Sim w s₀ L m ((r, .rng 0 n 1 t u v) :: P) s' → Q (.ref r) s') : wpAny (model prog w) A (call (.type "range") [.int n t]) Q E s :=
  call_range_1 (h _ _ _ _ _ (S.push rfl))
theorem range2 {a b : Int} {t u : Tok} {Q : Value → Shared → Prop} (S : Sim w s₀ L m P s) (h : ∀ r t u v s', Sim w s₀ L m ((r, .rng a b 1 t u v) :: P) s' → Q (.ref r) s') : wpAny (model prog w) A (call (.type "range") [.int a t, .int b u]) Q E s :=
  call_range_2 (h _ _ _ _ _ (S.push rfl))
theorem range_iter {a b c : Int} {n : Nat} {r : Addr} {t u v : Tok} {Q : Value → Shared → Prop} (S : Sim w s₀ L m P s) (hm : (r, .rng a b c t u v) ∈ P) (hs : Builtin.Range.small a b c = true) (hn : Builtin.Range.rangeSize a b c = n)
    (h : ∀ it s', Sim w s₀ L m ((it, .riter (a + c * (0 : Nat)) (n - (0 : Nat)) c) :: P) s' → Q (.ref it) s') : wpAny (model prog w) A (pyIter (.ref r)) Q E s := by
  obtain ⟨ob, h1, rfl, _⟩ := S.get hm
  refine wpAny_pyIter_range h1 hs ?_
  rw [hn]
  have e : MO.riter (a + c * (0 : Nat)) (n - (0 : Nat)) c = .riter a n c := by simp
  rw [e] at h
  exact h _ _ (S.push (o := .riter a n c) (tk := s.toks) rfl)

theorem enum_list {Q : Value → Shared → Prop} (S : Sim w s₀ L m P s) (hm : (a, .list xs) ∈ P) (h : ∀ e it s', Sim w s₀ L m ((e, .en it 0) :: (it, .liter a 0) :: P) s' → Q (.ref e) s') : wpAny (model prog w) A (call (.type "enumerate") [.ref a]) Q E s := by
  obtain ⟨vs, h1, h2⟩ := S.isl hm
  refine call_enumerate_list h1 fun h' he hi hz hk => ?_
  have S1 : Sim w s₀ L m ((s.heap.objs.size, .liter a 0) :: P) { s with heap := h' } := by
    obtain ⟨o, e1, e2, e3⟩ := hi
    exact S.push' (tk := s.toks) hk (Nat.le_refl _) e1 ⟨e2, e3⟩
  refine h _ s.heap.objs.size _ ?_
  have nd := S1.nd
  refine ⟨S.eq, S1.keep, fun p hp => ?_, ?_⟩
  · rcases List.mem_cons.mp hp with rfl | hp
    · exact S1.led _ (.head _)
    · rcases List.mem_cons.mp hp with rfl | hp
      · exact ⟨_, he, ⟨_, rfl⟩, S.new (Nat.le_succ _)⟩
      · exact S1.led _ (.tail _ hp)
  · have lt : ∀ p ∈ (L, MO.frame m) :: P, p.1 < s.heap.objs.size := fun p hp => let ⟨_, q, _⟩ := S.led p hp; Heap.lt_size q
    simp only [List.map_cons, List.nodup_cons, List.mem_cons, not_or] at nd ⊢
    refine ⟨⟨Nat.ne_of_lt (Nat.lt_succ_of_lt (lt _ (.head _))), nd.1⟩, ⟨Nat.succ_ne_self _, fun q => ?_⟩, nd.2⟩
    obtain ⟨p, hp, e⟩ := List.mem_map.mp q
    have := lt p (.tail _ hp)
    rw [e] at this
    exact absurd this (by simp)

theorem dict_vals {kvs : List (Int × Value)} {ep : Nat} {Q : Value → Shared → Prop} (G : Gr K s₀.heap) (S : Sim w s₀ L m P s) (hm : (a, .dict kvs ep) ∈ P) (h : ∀ v s', Sim w s₀ L m ((v, .vals a) :: P) s' → Q (.ref v) s') :
    wpAny (model prog w) A (call (.builtin "dict.values") [.ref a]) Q E s := by
  obtain ⟨kvs', h1, h2⟩ := S.dict (prog := prog) hm
  exact call_meetsIn F.slot_dict_values h1.dictOf.mapOf.typeIs F.entry_dict_values (F.args_dict_values_1 _) (meets_dict_values (intKind prog w) a (S.notSys G hm)) ⟨⟨_, h1.dictOf⟩, h _ _ (S.push (tk := s.toks) ⟨rfl, rfl⟩)⟩
theorem vals_iter {kvs : List (Int × Value)} {ep : Nat} {v : Addr} {Q : Value → Shared → Prop} (S : Sim w s₀ L m P s) (hm : (v, .vals a) ∈ P) (hd : (a, .dict kvs ep) ∈ P) (h : ∀ it s', Sim w s₀ L m ((it, .viter a 0 kvs.length ep) :: P) s' → Q (.ref it) s') :
    wpAny (model prog w) A (pyIter (.ref v)) Q E s := by
  obtain ⟨kvs', h1, h2⟩ := S.dict (prog := prog) hd
  obtain ⟨ob, g1, ⟨g2, g3⟩, _⟩ := S.get hm
  refine wpAny_pyIter_values (knd := intKind prog w) ⟨_, g1, g2, g3⟩ h1 ?_
  have e : kvs'.length = kvs.length := by have := congrArg List.length h2; simpa using this
  rw [e]
  exact h _ _ (S.push (tk := s.toks) ⟨rfl, rfl⟩)
theorem keys_iter {kvs : List (Int × Value)} {ep : Nat} {Q : Value → Shared → Prop} (G : Gr K s₀.heap) (S : Sim w s₀ L m P s) (hd : (a, .dict kvs ep) ∈ P) (h : ∀ it s', Sim w s₀ L m ((it, .kiter a 0 kvs.length ep) :: P) s' → Q (.ref it) s') :
    wpAny (model prog w) A (pyIter (.ref a)) Q E s := by
  obtain ⟨kvs', h1, h2⟩ := S.dict (prog := prog) hd
  refine wpAny_pyIter_dict (knd := intKind prog w) (S.notSys G hd) h1 ?_
  have e : kvs'.length = kvs.length := by have := congrArg List.length h2; simpa using this
  rw [e]
  exact h _ _ (S.push (tk := s.toks) ⟨rfl, rfl⟩)

theorem assign_pair {x y : Str} {px py pos : Pos} {k} {T : Addr} {v1 v2 : Value} {Q : Unit → Shared → Prop} (hA : A.handled = none) (S : Sim w s₀ L m P s) (hm : (T, .tup [v1, v2]) ∈ P)
    (h : All v1 fun u1 => All v2 fun u2 => ∀ s', Sim w s₀ L m P s' → wpAny (model prog w) A (assign (.Name x px) env u1) (fun _ s₁ => wpAny (model prog w) A (assign (.Name y py) env u2) Q E s₁) E s') :
    wpAny (model prog w) A (assign (.Tuple [.Name x px, .Name y py] k pos) env (.ref T)) Q E s := by
  obtain ⟨vs, h1, h2⟩ := S.ist hm
  obtain ⟨u1, u2, rfl, h3, h4⟩ := two_vals h2
  refine assign_Tuple_tuple hA h1 rfl rfl fun h' hs => ?_
  have := (h.of h3).of h4
  refine assignInOrder_cons (wpAny_mono (this { s with heap := h' } (S.ext (tk := s.toks) fun b o e => hs b o (Nat.ne_of_lt (Heap.lt_size e)) e)) (fun _ s₁ h₁ => assignInOrder_cons (wpAny_mono h₁ (fun _ s₂ h₂ => assignInOrder_nil h₂) fun _ _ x => x)) fun _ _ x => x)
end
end Mine
namespace Mine
theorem cellLed_l {n : Nat} {x : Str} {r P} : cellLed n ((x, .local) :: r) P = cellLed n r P := rfl
theorem cellLed_f {n : Nat} {x : Str} {r P} : cellLed n ((x, .free) :: r) P = cellLed n r P := rfl
theorem cellLed_g {n : Nat} {x : Str} {r P} : cellLed n ((x, .globalImplicit) :: r) P = cellLed n r P := rfl
theorem cellLed_c {n : Nat} {x : Str} {r P} : cellLed n ((x, .cell) :: r) P = cellLed (n + 1) r ((n, .cell none) :: P) := rfl
theorem cellLed_n {n : Nat} {P} : cellLed n [] P = P := rfl
section
variable {M : Model} {A : Around} {E : Value → Shared → Prop} {s : Shared} {env : Env}
theorem tests_nil {Q : Bool → Shared → Prop} (h : Q true s) : wpAny M A (forIn [] true fun c r => if r = true then do let ok ← isTrue c env (eval c env); pure (ForInStep.yield ok) else pure (ForInStep.yield r)) Q E s := by
  rw [List.forIn_nil]; exact wpAny_pure h
theorem tests_one {c : Expr} {Q : Bool → Shared → Prop} (h : wpAny M A (isTrue c env (eval c env)) Q E s) : wpAny M A (forIn [c] true fun c r => if r = true then do let ok ← isTrue c env (eval c env); pure (ForInStep.yield ok) else pure (ForInStep.yield r)) Q E s := by
  rw [List.forIn_cons]
  refine wpAny_bind (wpAny_bind (wpAny_mono h (fun ok s₁ h₁ => wpAny_pure ?_) fun _ _ x => x))
  dsimp only
  rw [List.forIn_nil]; exact wpAny_pure h₁
theorem emit_list {acc : Value} {elt : Expr} {c : Code} {Q : Fin → Shared → Prop} (h : wpAny M A (eval elt env) (fun x s₁ => wpAny M A (call (.builtin "list.append") [acc, x]) (fun _ s₂ => Q (.again c) s₂) E s₁) E s) :
    wpAny M A ((do let _ ← call (.builtin "list.append") [acc, ← eval elt env]) >>= fun _ => again c) Q E s :=
  wpAny_bind (wpAny_bind (wpAny_mono h (fun x s₁ h₁ => wpAny_bind (wpAny_mono h₁ (fun _ s₂ h₂ => wpAny_pure (wpAny_pure h₂)) fun _ _ x => x)) fun _ _ x => x))
end
end Mine
namespace Mine
theorem slot_li_ga : Slot "list_iterator" "__getattribute__" "object.__getattribute__" :=
  .of (owner := "object") (n := "__getattribute__") (by rw [typeLookup_type, builtinLookup_eq_fast]; kernel_rfl) (by decide +kernel) (by decide +kernel) (by decide +kernel)
    (by first | exact .inl (by decide +kernel) | exact .inr (by decide +kernel)) (by rw [isSubtype_type]; kernel_rfl)
theorem slot_wd_get : Slot "wrapper_descriptor" "__get__" "wrapper_descriptor.__get__" :=
  .of (owner := "wrapper_descriptor") (n := "__get__") (by rw [typeLookup_type, builtinLookup_eq_fast]; kernel_rfl) (by decide +kernel) (by decide +kernel) (by decide +kernel)
    (by first | exact .inl (by decide +kernel) | exact .inr (by decide +kernel)) (by rw [isSubtype_type]; kernel_rfl)
theorem type_li_next : typeOf (.builtin "list_iterator.__next__") = pure (.type "wrapper_descriptor") := by kernel_rfl
theorem entry_wd_get : entryFor table "wrapper_descriptor.__get__" = some Builtin.«wrapper_descriptor.__get__» := entryFor_of_tree (by kernel_rfl)
theorem args_wd_get (a b c : Value) : argsOk "wrapper_descriptor.__get__" ⟨[a, b, c], []⟩ := by unfold argsOk; kernel_rfl
theorem wd_noset : typeLookup (.type "wrapper_descriptor") "__set__" = pure none := by rw [typeLookup_type, builtinLookup_eq_fast]; kernel_rfl
theorem wd_nodel : typeLookup (.type "wrapper_descriptor") "__delete__" = pure none := by rw [typeLookup_type, builtinLookup_eq_fast]; kernel_rfl
theorem li_nohook : typeLookup (.type "list_iterator") "__getattr__" = pure none := by rw [typeLookup_type, builtinLookup_eq_fast]; kernel_rfl
theorem owner_li_next : (".".intercalate ("list_iterator.__next__".cutAt '.').dropLast) = "list_iterator" := by
  have e0 : "list_iterator.__next__".cutAt '.' = ["list_iterator", "__next__"] := by first | rfl | decide +kernel
  rw [e0]; decide +kernel
theorem sub_li : isSubtype (.type "list_iterator") (.type (".".intercalate ("list_iterator.__next__".cutAt '.').dropLast)) = pure true := by
  rw [owner_li_next, isSubtype_type]; kernel_rfl
abbrev wrapO (it : Addr) : Obj := { cls := .type "method-wrapper", data := .fields #[.builtin "list_iterator.__next__", .ref it] }
section
variable {prog : Program} {w : World} {A : Around} {E : Value → Shared → Prop} {h : Heap} {g : Array GenState} {d : Drawn} {t : Nat} {os : OsState} {a : Addr} {o : Obj}

theorem wrap_get {R : Result → Shared → Prop} (hx : h.get? a = some o) (hc : o.cls = .type "list_iterator") (hq : R (.ok (.ret (.ref h.objs.size))) ⟨h.push (wrapO a), g, d, t, os⟩) :
    codeAny (model prog w) A (.call (.builtin "wrapper_descriptor.__get__") ⟨[.builtin "list_iterator.__next__", .ref a, .type "list_iterator"], []⟩) R ⟨h, g, d, t, os⟩ := by
  have hT : (⟨h, g, d, t, os⟩ : Shared).TypeIs (.ref a) "list_iterator" := ⟨_, hx, hc⟩
  have hT5 : (⟨h, g, d, t, os⟩ : Shared).TypeIs (.builtin "list_iterator.__next__") "wrapper_descriptor" := type_li_next
  have f8 := sub_li
  refine codeAny_call_builtin slot_wd_get.plain entry_wd_get (slot_wd_get.check _ _ _ _ _ _ _ _ hT5 (args_wd_get _ _ _) ?_)
  repeat (any_goals (first | assumption | wp_step))

theorem wrap_entry {tk : Tok} {Q : Fin → Shared → Prop} {fs : Array Value} (hx : h.get? a = some { cls := .type "list_iterator", dict := none, data := .fields fs, slots := #[] }) (hq : Q (.done (.ret (.ref h.objs.size))) ⟨h.push (wrapO a), g, d, t, os⟩) :
    wpAny (model prog w) A (Builtin.«object.__getattribute__» ⟨[.ref a, .str "__next__" tk], []⟩) Q E ⟨h, g, d, t, os⟩ := by
  have hT : (⟨h, g, d, t, os⟩ : Shared).TypeIs (.ref a) "list_iterator" := ⟨_, hx, rfl⟩
  have hT5 : (⟨h, g, d, t, os⟩ : Shared).TypeIs (.builtin "list_iterator.__next__") "wrapper_descriptor" := type_li_next
  have f4 := slot_listiter_next.lookup
  have f5 := type_li_next
  have f6 := slot_wd_get.lookup
  have f7 := wd_noset
  have f9 := wd_nodel
  repeat (any_goals (first | assumption | wp_step))
  refine wrap_get hx rfl ?_
  repeat (any_goals (first | assumption | wp_step))

theorem wrap_call {tk : Tok} {R : Result → Shared → Prop} {fs : Array Value} (hx : h.get? a = some { cls := .type "list_iterator", dict := none, data := .fields fs, slots := #[] }) (hq : R (.ok (.ret (.ref h.objs.size))) ⟨h.push (wrapO a), g, d, t, os⟩) :
    codeAny (model prog w) A (.call (.builtin "object.__getattribute__") ⟨[.ref a, .str "__next__" tk], []⟩) R ⟨h, g, d, t, os⟩ :=
  codeAny_call_builtin slot_li_ga.plain F.entry_object_getattribute (slot_li_ga.check _ _ _ _ _ _ _ _ (show (⟨h, g, d, t, os⟩ : Shared).TypeIs (.ref a) "list_iterator" from ⟨_, hx, rfl⟩) (F.args_object_getattribute_2 _ _) (wrap_entry hx hq))

theorem wrap_attr {Q : Value → Shared → Prop} {fs : Array Value} (hx : h.get? a = some { cls := .type "list_iterator", dict := none, data := .fields fs, slots := #[] }) (hq : Q (.ref h.objs.size) ⟨h.push (wrapO a), g, d, t + 1, os⟩) :
    wpAny (model prog w) A (getAttr (.ref a) "__next__" true) Q E ⟨h, g, d, t, os⟩ := by
  have hT : (⟨h, g, d, t, os⟩ : Shared).TypeIs (.ref a) "list_iterator" := ⟨_, hx, rfl⟩
  have f2 := slot_li_ga.lookup
  have f3 := slot_li_ga.bind (.ref a)
  have f10 := li_nohook
  unfold getAttr
  repeat (any_goals (first | assumption | wp_step))
  refine wrap_call hx ?_
  repeat (any_goals (first | assumption | wp_step))
end
end Mine
namespace Mine
theorem check_li (it : Addr) : checkBoundCall "list_iterator.__next__" ⟨[.ref it], []⟩ = pure () := by first | kernel_rfl | rfl
theorem quiet_li (args : Args) : (Code.builtin "list_iterator.__next__" args).quiet = true := Code.quiet_builtin _ (by decide +kernel)
section
variable {prog : Program} {w : World} {K : Frag} {A : Around} {E : Value → Shared → Prop} {s₀ s : Shared} {L : Addr} {m : List (Str × Value)} {P P' : Led} {a : Addr} {xs : List Value}

theorem wrap_run {u it : Addr} {Q : Value → Shared → Prop} (ho : s.heap.get? u = some (wrapO it))
    (h : wpAny (model prog w) A.in1 (Builtin.«list_iterator.__next__» ⟨[.ref it], []⟩) (fun fin s' => ∃ v, fin = .done (.ret v) ∧ Q v s') E s) : wpAny (model prog w) A (call (.ref u) []) Q E s := by
  refine wpAny_call (codeAny_of_tree ?_)
  show wpAny _ A.in1 (callAny (.ref u) ⟨[], []⟩) _ _ s
  simp only [callAny]
  refine wpAny_bind (wpAny_load ho ?_)
  simp only [wrapO, show (Value.type "method-wrapper" == Value.type "method" || Value.type "method-wrapper" == Value.type "builtin_function_or_method" || Value.type "method-wrapper" == Value.type "method-wrapper") = true by decide, if_true]
  refine KFB.if_so (by decide) ?_
  refine wpAny_bind (wpAny_of_eq (a := ()) (check_li it) ?_)
  refine wpAny_bind (wpAny_pure (wpAny_pure ?_))
  refine ⟨quiet_li _, codeAny_builtin entry_listiter_next (wpAny_mono h (fun fin s' h' => ?_) fun _ _ x => x)⟩
  obtain ⟨v, rfl, hv⟩ := h'
  exact hv

theorem wrap_next {u it l : Addr} {i : Nat} {hd : Value} {Q : Value → Shared → Prop} (S : Sim w s₀ L m P s) (hu : (u, .raw (wrapO it)) ∈ P) (U : Upd it (.liter l i) (.liter l (i + 1)) P P') (hl : (l, .list xs) ∈ P) (hi : i < xs.length)
    (h : All (xs.getD i hd) fun v => ∀ s', Sim w s₀ L m P' s' → Q v s') : wpAny (model prog w) A (call (.ref u) []) Q E s := by
  obtain ⟨ou, hou, rfl, _⟩ := S.get hu
  obtain ⟨o, ho, ⟨hc, hd'⟩, _⟩ := S.get U.mem
  obtain ⟨ol, hol, ⟨vs, n, rfl, hv⟩, _⟩ := S.get hl
  have hlen : vs.size = xs.length := by rw [← hv]; simp
  obtain ⟨v, hx⟩ : ∃ v, vs[i]? = some v := ⟨vs[i]'(by omega), by simp [hlen, hi]⟩
  have key : er v = xs.getD i hd := by
    rw [← hv, List.getD_eq_getElem?_getD, List.getElem?_map, Array.getElem?_toList, hx]; rfl
  refine wrap_run hou ?_
  show wpAny _ _ (field (.ref it) 0 >>= _) _ _ s
  refine wpAny_bind (wpAny_field ho hd' (x := .ref l) rfl ?_)
  show wpAny _ _ (if (Value.ref l == Value.none) = true then _ else _) _ _ s
  rw [if_neg (show ¬ ((Value.ref l == Value.none) = true) from Bool.false_ne_true)]
  show wpAny _ _ (field (.ref it) 1 >>= _) _ _ s
  refine wpAny_bind (wpAny_field ho hd' (x := .int i 0) rfl ?_)
  show wpAny _ _ (seqItems? (.ref l) >>= _) _ _ s
  refine wpAny_bind (wpAny_seqItems hol rfl ?_)
  simp only [Int.toNat_natCast, hx]
  refine wpAny_bind (wpAny_setField ho hd' (by simp) (wpAny_pure ⟨v, rfl, ?_⟩))
  refine h.of key _ (S.upd (tk := s.toks) U (Heap.SameBut.update ..) (Heap.get?_update_self _ ho (Obj.isFreed_of_fields (Obj.data_mapFields hd' _))) ⟨(Obj.cls_mapFields ..).trans hc, by rw [Obj.data_mapFields hd']; simp [rawInt]⟩)
end
end Mine
namespace Mine
/-- the frames that stand, all in the ledger -/
def Frames (A : Around) (L : Addr) (m : List (Str × Value)) (P : Led) (l : List Env) : Prop := A.frames = some l ∧ ∀ e ∈ l, e.scope.kind ≠ .module ∧ ∃ Le me, e.frame = some Le ∧ (Le, MO.frame me) ∈ (L, MO.frame m) :: P

section
variable {prog : Program} {w : World} {K : Frag} {A : Around} {E : Value → Shared → Prop} {s₀ s : Shared} {L : Addr} {m : List (Str × Value)} {P P' : Led} {a : Addr} {xs : List Value} {env : Env} {outer : List Env}

theorem Sim.funFrames (S : Sim w s₀ L m P s) : ∀ {l : List Env}, (∀ e ∈ l, e.scope.kind ≠ .module ∧ ∃ Le me, e.frame = some Le ∧ (Le, MO.frame me) ∈ (L, MO.frame m) :: P) → s.heap.FunFrames s₀.heap l
  | [], _ => trivial
  | e :: l, h => by
    obtain ⟨h1, Le, me, h2, h3⟩ := h e (.head _)
    obtain ⟨ob, k1, ⟨es, ep, k2, _⟩, k3⟩ := S.led _ h3
    exact ⟨h1, ⟨Le, ob, h2, k3.1, k1, fun vs q => by rw [k2] at q; cases q⟩, S.funFrames fun e he => h e (.tail _ he)⟩

theorem Sim.slotsOnly (S : Sim w s₀ L m P s) {l : List Env} (hl : ∀ e ∈ l, e.scope.kind ≠ .module ∧ ∃ Le me, e.frame = some Le ∧ (Le, MO.frame me) ∈ (L, MO.frame m) :: P) {h' : Heap} (hs : Heap.SlotsOnly (l.filterMap (·.frame)) s.heap h') :
    Sim w s₀ L m P { s with heap := h' } := by
  have fm : ∀ b, b ∈ l.filterMap (·.frame) → ∃ me, (b, MO.frame me) ∈ (L, MO.frame m) :: P := fun b hb => by
    obtain ⟨e, he, q⟩ := List.mem_filterMap.mp hb
    obtain ⟨_, Le, me, h2, h3⟩ := hl e he
    rw [h2] at q; cases q; exact ⟨me, h3⟩
  refine ⟨S.eq, fun b o e => ?_, fun p hp => ?_, S.nd⟩
  · refine (hs.2.1 b fun hb => ?_).trans (S.keep b o e)
    obtain ⟨me, hm⟩ := fm b hb
    obtain ⟨_, _, _, k⟩ := S.led _ hm
    rw [k.1] at e; cases e
  · obtain ⟨ob, h1, h2, h3⟩ := S.led p hp
    by_cases hb : p.1 ∈ l.filterMap (·.frame)
    · obtain ⟨me, hm⟩ := fm _ hb
      have : p = (p.1, MO.frame me) := by
        have nd := S.nd
        have key : ∀ {X : Led}, (X.map (·.1)).Nodup → ∀ p ∈ X, ∀ q ∈ X, p.1 = q.1 → p = q := by
          intro X hX p hp q hq e
          induction X with
          | nil => cases hp
          | cons x X ih =>
            simp only [List.map_cons, List.nodup_cons] at hX
            rcases List.mem_cons.mp hp with h1 | h1 <;> rcases List.mem_cons.mp hq with h2 | h2
            · rw [h1, h2]
            · exact absurd (show x.1 ∈ X.map (·.1) from h1 ▸ e ▸ List.mem_map_of_mem h2) hX.1
            · exact absurd (show x.1 ∈ X.map (·.1) from h2 ▸ e ▸ List.mem_map_of_mem h1) hX.1
            · exact ih hX.2 h1 h2
        exact key nd _ hp _ hm rfl
      obtain ⟨sl, q⟩ := hs.2.2 _ _ h1
      rw [this] at h2
      obtain ⟨es, ep, r1, r2, r3⟩ := h2
      refine ⟨_, q, ?_, h3⟩
      rw [this]
      exact ⟨es, ep, r1, r2, r3⟩
    · exact ⟨ob, (hs.2.1 _ hb).trans h1, h2, h3⟩

/-- an exception of this call is caught here -/
theorem caught {e : Addr} {ob : Obj} {vs : Array Value} {X T : String} {t : Expr} {b₀ : Stmt} {suite : List Stmt} {pos : Pos} {rest : List ExceptHandler} {Q : Flow → Shared → Prop}
    (F : Frames A L m P (env :: outer)) (S : Sim w s₀ L m ((e, .raw ob) :: P) s) (hc : ob.cls = .type X) (hd : ob.data = .fields vs) (h1 : vs[1]? = some .none)
    (hexc : isSubtype (.type T) (.type "BaseException") = pure true) (hnt : isSubtype (.type ((Manifest.find? T).elim "type" fun y => y.metatype)) (.type "tuple") = pure false) (hsub : isSubtype (.type X) (.type T) = pure true)
    (hname : ∀ s' (Q' : Value → Shared → Prop), Sim w s₀ L m P s' → Q' (.type T) s' → wpAny (model prog w) (A.mark (some (.ref e))) (eval t env) Q' noE s')
    (k : ∀ s', Sim w s₀ L m P s' → wpAny (model prog w) (A.mark (some (.ref e))) (execs (b₀ :: suite) env) Q noE s') (hL : env.frame = some L) :
    wpAny (model prog w) A (noteFrame (.ref e) env)
      (fun _ s₂ => wpAny (model prog w) A (setFlight (.ref e) none) (fun _ s₃ =>
        wpAny (model prog w) A (handleBy (.ref e) env (.ExceptHandler (some t) none (b₀ :: suite) pos :: rest)) Q E s₃) E s₂) E s := by
  have hsz : 1 < vs.size := (Array.getElem?_eq_some_iff.mp h1).1
  obtain ⟨ob', he, e1, hge⟩ := S.get (a := e) (.head _)
  obtain rfl : ob = ob' := e1.symm
  have hl : ∀ e' ∈ env :: outer, e'.scope.kind ≠ .module ∧ ∃ Le me, e'.frame = some Le ∧ (Le, MO.frame me) ∈ (L, MO.frame m) :: (e, MO.raw ob) :: P := fun e' he' => by
    obtain ⟨q1, Le, me, q2, q3⟩ := F.2 e' he'
    refine ⟨q1, Le, me, q2, ?_⟩
    rcases List.mem_cons.mp q3 with q3 | q3
    · rw [q3]; exact .head _
    · exact .tail _ (.tail _ q3)
  unfold noteFrame
  simp only [hL]
  refine wpAny_bind (wpAny_field he hd h1 ?_)
  rw [if_neg (by decide)]
  refine wpAny_bind (wpAny_frameOf_fun F.1 (S.funFrames hl) hL fun h₁ hs₁ => ?_)
  have S₁ := S.slotsOnly hl hs₁
  refine wpAny_bind (wpAny_entryPlaceOf fun pl hpl => ?_)
  unfold EntryCells.newEntry newFields
  refine wpAny_bind (wpAny_newObj_type ?_ (hpl.sizeOk5 _ _ _ _ _))
  generalize hnew : ([Value.none, .ref L, .none, rawInt L, .none] ++ (if pl.isEmpty then List.replicate 6 Value.none else pl)).toArray = tv
  obtain ⟨ob2, he₁, e2, _⟩ := S₁.get (a := e) (.head _)
  cases e2
  have he₂ := Heap.get?_push_of_some (h := h₁) { cls := .type "traceback", dict := none, data := .fields tv } he₁
  refine wpAny_setField he₂ hd hsz ?_
  have hTe : h₁.objs.size ≠ e := Nat.ne_of_gt (Heap.lt_size he₁)
  have hd₃ := Obj.data_mapFields hd (·.setIfInBounds 1 (Value.ref h₁.objs.size))
  have he₃ := Heap.get?_update_self (Obj.mapFields (·.setIfInBounds 1 (Value.ref h₁.objs.size))) he₂ (Obj.isFreed_of_fields hd₃)
  have hT₃ := (Heap.get?_update_other (h₁.push { cls := .type "traceback", dict := none, data := .fields tv })
    (Obj.mapFields (·.setIfInBounds 1 (Value.ref h₁.objs.size))) (Ne.symm hTe)).trans (Heap.get?_push_size h₁ rfl)
  have S₃ := S₁.push' (o := .raw _) (tk := s.toks) (h' := h₁.push { cls := .type "traceback", dict := none, data := .fields tv }) (a := h₁.objs.size) (fun b o q => Heap.get?_push_of_some _ q) (Nat.le_refl _) (Heap.get?_push_size h₁ rfl) rfl
  have S₄ := S₃.upd (tk := s.toks) (Upd.tail (Upd.head (o' := .raw _))) (Heap.SameBut.update _ (a := e) (f := Obj.mapFields (·.setIfInBounds 1 (Value.ref h₁.objs.size)))) he₃ rfl
  have htv : 3 < tv.size := by rw [← hnew]; simp only [List.size_toArray, List.length_append, List.length_cons, List.length_nil]; omega
  refine wpAny_setFlight_none he₃ hd₃ (by simp [hsz]) hT₃ rfl htv ?_
  have hT₄ := Heap.get?_update_self (Obj.mapFields (·.setIfInBounds 3 Value.none)) hT₃ (Obj.isFreed_of_fields (Obj.data_mapFields rfl _))
  have S₅ := S₄.upd (tk := s.toks) (Upd.head (o' := .raw _)) (Heap.SameBut.update _ (a := h₁.objs.size) (f := Obj.mapFields (·.setIfInBounds 3 Value.none))) hT₄ rfl
  obtain ⟨oe, he₅, e5, _⟩ := S₅.get (a := e) (.tail _ (.head _))
  cases e5
  refine wpAny_handleBy_builtin (X := X) (T := T) (b := true) hexc hnt hsub (wpAny_noRaise (hname _ _ S₅.drop.drop ⟨rfl, ⟨_, he₅, (Obj.cls_mapFields ..).trans hc⟩, ?_⟩))
  rw [if_pos rfl]
  refine wpAny_setFlight_none he₅ hd₃ (by simp [hsz]) hT₄ (Obj.data_mapFields rfl _) (by simp only [Array.size_setIfInBounds]; exact htv) ?_
  have hT₅ := Heap.get?_update_self (Obj.mapFields (·.setIfInBounds 3 Value.none)) hT₄ (Obj.isFreed_of_fields (Obj.data_mapFields (Obj.data_mapFields rfl _) _))
  have S₆ := S₅.upd (tk := s.toks) (Upd.head (o' := .raw _)) (Heap.SameBut.update _ (a := h₁.objs.size) (f := Obj.mapFields (·.setIfInBounds 3 Value.none))) hT₅ rfl
  exact wpAny_noRaise (k _ S₆.drop.drop)
end
end Mine
namespace Mine
section
variable {prog : Program} {w : World} {K : Frag} {A : Around} {E : Value → Shared → Prop} {s₀ s : Shared} {L : Addr} {m : List (Str × Value)} {P P' : Led} {a : Addr} {xs : List Value} {env : Env} {outer : List Env}

theorem wrap_stop {u it l : Addr} {i : Nat} {Q : Value → Shared → Prop} (hA : A.handled = none) (S : Sim w s₀ L m P s) (hu : (u, .raw (wrapO it)) ∈ P) (R : Rem (it, .liter l i) P P') (hl : (l, .list xs) ∈ P) (hi : xs.length ≤ i)
    (h : ∀ e ob vs s', ob.cls = .type "StopIteration" → ob.data = .fields vs → vs[1]? = some .none → Sim w s₀ L m ((e, .raw ob) :: P') s' → E (.ref e) s') : wpAny (model prog w) A (call (.ref u) []) Q E s := by
  have S0 := S
  obtain ⟨ou, hou, rfl, _⟩ := S.get hu
  obtain ⟨ol, hol, ⟨vs, n, rfl, hv⟩, _⟩ := S.get hl
  have hlen : vs.size = xs.length := by rw [← hv]; simp
  have hx : vs[i]? = none := by simp [hlen, hi]
  have S := S.at R
  obtain ⟨o, ho, ⟨hc, hd'⟩, _⟩ := S.get (a := it) (.head _)
  refine wrap_run hou ?_
  show wpAny _ _ (field (.ref it) 0 >>= _) _ _ s
  refine wpAny_bind (wpAny_field ho hd' (x := .ref l) rfl ?_)
  show wpAny _ _ (if (Value.ref l == Value.none) = true then _ else _) _ _ s
  rw [if_neg (show ¬ ((Value.ref l == Value.none) = true) from Bool.false_ne_true)]
  show wpAny _ _ (field (.ref it) 1 >>= _) _ _ s
  refine wpAny_bind (wpAny_field ho hd' (x := .int i 0) rfl ?_)
  show wpAny _ _ (seqItems? (.ref l) >>= _) _ _ s
  refine wpAny_bind (wpAny_seqItems hol rfl ?_)
  simp only [Int.toNat_natCast, hx]
  refine wpAny_bind (wpAny_rule (wpAny_bind (wpAny_setField ho hd' (by simp) ?_)))
  have S1 : Sim w s₀ L m P' { s with heap := s.heap.update it (Obj.mapFields (·.setIfInBounds 0 Value.none)) } := S.dropAt (X := []) (tk := s.toks) rfl (Heap.SameBut.update ..).extBut
  show wpAny _ _ (newExc (.type "StopIteration") [] >>= _) _ _ _
  refine wpAny_bind ?_
  simp only [newExc, newTuple]
  refine wpAny_bind (wpAny_newObj_type ?_ (by size_fits))
  refine wpAny_bind (m := firstArgMember _ _) (wpAny_of_eq (a := Value.none) (by first | rfl | (simp only [firstArgMember]; rfl)) ?_)
  refine wpAny_newObj_type ?_ (by size_fits)
  simp only [raiseNew]
  refine wpAny_bind (wpAny_handled ?_)
  rw [show A.in1.handled = none from hA]
  refine wpAny_bind (wpAny_pure (wpAny_throw ?_))
  have S2 := S1.push (o := .raw _) (tk := s.toks) (ob := { cls := .type "tuple", dict := none, data := .seq ([] : List Value).toArray }) rfl
  have S3 := S2.drop.push (o := .raw _) (tk := s.toks) (ob := { cls := .type "StopIteration", dict := none, data := .fields (#[Value.ref (s.heap.update it (Obj.mapFields (·.setIfInBounds 0 Value.none))).objs.size, .none, .none, .none, .bool false, .none] ++ ownMembersOf (.type "StopIteration") []) }) rfl
  exact h _ _ (#[Value.ref (s.heap.update it (Obj.mapFields (·.setIfInBounds 0 Value.none))).objs.size, .none, .none, .none, .bool false, .none] ++ ownMembersOf (.type "StopIteration") []) _ rfl rfl rfl S3
end
end Mine
namespace Mine
def WEnd (w : World) (s₀ : Shared) (L : Addr) (J : List (Str × Value) → Led → Prop) (Q : Flow → Shared → Prop) (f : Flow) (s₂ : Shared) : Prop := match f with
  | .next | .cont => ∃ m₂ P₂, Sim w s₀ L m₂ P₂ s₂ ∧ J m₂ P₂
  | .brk => Q .next s₂
  | .ret v => Q (.ret v) s₂

section
variable {prog : Program} {w : World} {K : Frag} {A : Around} {E : Value → Shared → Prop} {s₀ s : Shared} {L : Addr} {m : List (Str × Value)} {P P' : Led} {a : Addr} {xs : List Value} {env : Env} {outer : List Env}

theorem while_code {test : Expr} {body orelse : List Stmt} {Q : Flow → Shared → Prop} (Inv : Nat → List (Str × Value) → Led → Prop) (n : Nat) (S : Sim w s₀ env.locals m P s) (h0 : Inv n m P)
    (step : ∀ n m P s, Inv n m P → ∀ J : List (Str × Value) → Led → Prop, (∀ k m P, k < n → Inv k m P → J m P) → ∀ Q' : Flow → Shared → Prop, (∀ f s, Q f s → Q' f s) → Sim w s₀ env.locals m P s → wpAny (model prog w) A (isTrue test env (eval test env)) (fun b s₂ =>
      if b = true then wpAny (model prog w) A (execs body env) (WEnd w s₀ env.locals J Q') noE s₂ else wpAny (model prog w) A (execs orelse env) Q' noE s₂) noE s) :
    codeAny (model prog w) A (.whileLoop test body orelse env) (fun r s' => match r with | .ok f => Q f s' | .error e => cameBackBy (model prog w) A env E e s') s := by
  refine codeAny_whileLoop (fun n s' => ∃ m P, Inv n m P ∧ Sim w s₀ env.locals m P s') (fun n s' hI => ?_) n ⟨m, P, h0, S⟩
  obtain ⟨m, P, hv, S'⟩ := hI
  refine wpAny_mono (wpAny_noRaise (step n m P s' hv (fun m P => ∃ k, k < n ∧ Inv k m P) (fun k m P h1 h2 => ⟨k, h1, h2⟩) Q (fun _ _ h => h) S')) (fun b s₂ h₂ => ?_) fun _ _ x => x
  cases b with
  | false => exact wpAny_mono (wpAny_noRaise h₂) (fun _ _ x => x) fun _ _ x => x
  | true =>
    refine wpAny_mono (wpAny_noRaise h₂) (fun f s₃ h₃ => ?_) fun _ _ x => x
    cases f with
    | next => obtain ⟨m₂, P₂, q2, k, q1, q3⟩ := h₃; exact ⟨k, q1, m₂, P₂, q3, q2⟩
    | cont => obtain ⟨m₂, P₂, q2, k, q1, q3⟩ := h₃; exact ⟨k, q1, m₂, P₂, q3, q2⟩
    | brk => exact h₃
    | ret v => exact h₃

theorem list_neg {value slice : Expr} {k : Int} {u : Tok} {x : Value} {Q : Value → Shared → Prop} (S : Sim w s₀ L m P s) (hm : (a, .list xs) ∈ P) (h0 : k < 0) (h1 : -(xs.length : Int) ≤ k) (hf : -(2 ^ 63) ≤ k) (hx : xs[(k + xs.length).toNat]? = some x) (h : All x fun v => Q v s)
    (hs : subscripted slice false (.ref a) (.int k u) = operate [.ref a, .int k u] (getItem (.ref a) (.int k u)) := by with_unfolding_all rfl) (hg : ∀ r, letTemporaryGo value (.ref a) r = pure () := by intro _; with_unfolding_all rfl) :
    wpAny (model prog w) A (subscriptTail value slice (.ref a) (.int k u)) Q E s := by
  obtain ⟨vs, g1, g2⟩ := S.isl hm
  have hlen : vs.length = xs.length := by rw [← g2]; simp
  rw [← g2, List.getElem?_map] at hx
  simp only [List.length_map] at hx
  cases q : vs[(k + vs.length).toNat]? with
  | none => rw [q] at hx; cases hx
  | some v =>
    rw [q] at hx
    exact subscriptTail_builtin g1.typeIs slot_list_getitem.lookup (wpAny_getItem_list_neg g1 h0 (by simpa [hlen] using h1) hf (by simpa using q) (h.of (Option.some.inj hx))) hs hg

theorem without_er (k : Int) (kvs : List (Int × Value)) : (without kvs k).map er2 = ddel (kvs.map er2) k := by
  unfold without ddel
  rw [List.filter_map]
  congr 1
  apply List.filter_congr
  intro p _
  simp only [Function.comp]
  have : (er2 p).1 = p.1 := rfl
  rw [this]
  by_cases e : p.1 = k <;> simp [e]

theorem dict_del {kvs : List (Int × Value)} {ep : Nat} {k : Int} {t : Tok} {P₁ : Led} {Q : Unit → Shared → Prop} (S : Sim w s₀ L m P s) (hr : Rem (a, .dict kvs ep) P P₁) (hz : kvs.length ≤ sizeLine) (hk : (dget kvs k).isSome = true)
    (h : ∀ ep' s', Sim w s₀ L m ((a, .dict (ddel kvs k) ep') :: P₁) s' → Q () s') : wpAny (model prog w) A (delItem (.ref a) (.int k t)) Q E s := by
  have S := S.at hr
  obtain ⟨kvs', h1, h2⟩ := S.dict (prog := prog) (.head _)
  have hlen : kvs'.length = kvs.length := by rw [← h2]; simp
  refine wpAny_delItem_slot h1.dictOf.mapOf.typeIs (by decide) F.slot_dict_delitem (call_meetsIn F.slot_dict_delitem h1.dictOf.mapOf.typeIs F.entry_dict_delitem (F.args_dict_delitem_2 _ _) (meets_dict_delitem_pairs (intKind prog w) a (isInt_self k t)) ⟨kvs', h1.dictOf, hlen ▸ hz, ?_, fun h' hd hs => ?_⟩)
  · have e : (valueAt kvs' k).isSome = (dget kvs k).isSome := by rw [← h2, ← valueAt_er]; simp
    rw [e]; exact hk
  · obtain ⟨ep', hd'⟩ := hd.dictAt
    obtain ⟨ob, g1, g2⟩ := relO_dict hd'
    rw [without_er, h2] at g2
    exact h ep' _ (S.upd (tk := s.toks + 1) .head hs g1 g2)

theorem iter_list {Q : Value → Shared → Prop} (S : Sim w s₀ L m P s) (hm : (a, .list xs) ∈ P) (h : ∀ it s', Sim w s₀ L m ((it, .raw { cls := .type "list_iterator", dict := none, data := .fields #[.ref a, .int 0 0], slots := #[] }) :: P) s' → Q (.ref it) s') :
    wpAny (model prog w) A (call (.builtin "iter") [.ref a]) Q E s := by
  obtain ⟨vs, h1, h2⟩ := S.isl hm
  refine call_function_entry (by decide +kernel) (by decide +kernel) kdk_entry_iter (kdk_args_iter _) ?_
  unfold Builtin.«iter»
  refine wpAny_bind (m := someArgs "iter" 1 2 _) (wpAny_of_eq (a := [Value.ref a]) (by first | rfl | kernel_rfl!) ?_)
  show wpAny _ _ (pyIter (.ref a) >>= _) _ _ _
  refine wpAny_bind (wpAny_pyIter_list h1 ?_)
  exact wpAny_pure ⟨_, rfl, h _ _ (S.push (tk := s.toks) rfl)⟩

theorem next_attr {it : Addr} {fs : Array Value} {P₁ : Led} {Q : Value → Shared → Prop} (S : Sim w s₀ L m P s) (hr : Rem (it, .raw { cls := .type "list_iterator", dict := none, data := .fields fs, slots := #[] }) P P₁)
    (h : ∀ u s', Sim w s₀ L m ((u, .raw (wrapO it)) :: (it, .fl "list_iterator" fs) :: P₁) s' → Q (.ref u) s') : wpAny (model prog w) A (getAttr (.ref it) (Str.ofString "__next__") true) Q E s := by
  have S := S.at hr
  obtain ⟨ob, h1, rfl, h3⟩ := S.get (a := it) (.head _)
  obtain ⟨hh, g, dr, tk, os⟩ := s
  refine wrap_attr h1 (h _ _ ?_)
  have S1 : Sim w s₀ L m ((it, .fl "list_iterator" fs) :: P₁) ⟨hh, g, dr, tk, os⟩ := by
    refine ⟨S.eq, S.keep, fun p hp => ?_, S.nd⟩
    rcases List.mem_cons.mp hp with rfl | hp
    · exact S.led _ (.head _)
    · rcases List.mem_cons.mp hp with rfl | hp
      · exact ⟨_, h1, ⟨rfl, rfl⟩, h3.to⟩
      · exact S.led _ (.tail _ (.tail _ hp))
  exact S1.push (tk := tk + 1) rfl

theorem callWith_w {pos : Pos} {u it : Addr} {Q : Value → Shared → Prop} (S : Sim w s₀ L m P s) (hm : (u, .raw (wrapO it)) ∈ P) (h : wpAny (model prog w) A (call (.ref u) []) Q E s) : wpAny (model prog w) A (callWith pos (.ref u) [] (backTo pos (starEach [] env)) []) Q E s := by
  obtain ⟨ob, h1, rfl, h3⟩ := S.get hm
  unfold callWith
  refine wpAny_bind (wpAny_holding (evalArgs_nil3 (wpAny_bind (wpAny_standAt ?_))))
  refine wpAny_bind (m := keeperOf (.ref u)) ?_
  unfold keeperOf
  refine wpAny_bind (wpAny_load h1 ?_)
  simp only [show (Value.type "method-wrapper" != Value.type "method") = true by decide, show (Value.type "method-wrapper" == Value.type "builtin_function_or_method" || Value.type "method-wrapper" == Value.type "method-wrapper") = true by decide, if_true]
  refine wpAny_pure ?_
  exact wpAny_bind (wpAny_mono h (fun r s₂ hr => wpAny_bind (wpAny_holding (wpAny_point (wpAny_pure hr)))) fun _ _ x => x)
end
end Mine
namespace Mine
theorem SubM.dropL {X Y Q : Led} (h : SubM Y Q) : SubM (X ++ Y) Q := by
  induction X with
  | nil => exact h
  | cons x X ih => exact .drop ih
section
variable {prog : Program} {w : World} {K : Frag} {A : Around} {E : Value → Shared → Prop} {s₀ s : Shared} {L : Addr} {m : List (Str × Value)} {P P' : Led} {d : Nat} {env : Env}

/-- a def, the frames told -/
theorem call_defF {f : Addr} {args : List Value} {binds : List (Str × Value)} {fd : FuncData} {body : List Stmt} {o : Obj} {Q : Value → Shared → Prop} {fs : List Env} (mL : List (Str × Value)) (G : Gr K s₀.heap) (k : OK A (d + 1)) (F : Frames A L m P fs) (S : Sim w s₀ L m P s)
    (hf : K.lookup f = some o) (hd : o.data = .func fd) (hcd : codeIn K fd.code fd.qualname = true) (hb : fd.body = .stmts body) (hbind : BindsTo s fd ⟨args, []⟩ binds)
    (hcell : ∀ x ∈ fd.scope.names, x.2 ≠ .cell) (hloc : (binds.all fun x => decide (fd.scope.names.lookup x.1 = some .local)) = true) (hmL : ∀ p ∈ mL, (binds.reverse.lookup p.1).map er = some p.2)
    (h : ∀ L' s' A', Sim w s₀ L' mL ((L, .frame m) :: P) s' → OK A' d → A'.frames = some (callEnv fd L' f :: fs) →
      wpAny (model prog w) A' (execs body (callEnv fd L' f)) (fun fl s'' => Q (retv fl) s'') noE s')
    (hco : fd.scope.isCoroutine = false := by rfl) (hgen : fd.scope.isGenerator = false := by rfl) (hk : fd.scope.kind = .function := by rfl) :
    wpAny (model prog w) A (call (.ref f) args) Q E s := by
  have X := S.K_in G
  obtain ⟨p, l, mg, mb, T⟩ := G.T
  refine wpAny_call (codeAny_call_def k.room (X _ _ hf) hd (T.nolimit.keeps S.keep) (codeRec_of X hcd) hb hbind hcell (locs hloc) (fun h₁ hn hk₁ => ?_) hco hgen hk)
  refine wpAny_mono (h _ _ (A.deeper (callEnv fd s.heap.objs.size f)) (frame_new2 S hn hk₁ hmL) k.deeper (by show A.frames.map _ = _; rw [F.1]; rfl)) (fun fl s' q => ?_) fun _ _ x => x.elim
  cases fl <;> exact q

theorem Frames.call {A' : Around} {fs : List Env} {L' : Addr} {m₂ : List (Str × Value)} {P₂ : Led} (F : Frames A L m P fs) (hA : A'.frames = some (env :: fs)) (hk : env.scope.kind ≠ .module) (hL : env.frame = some L') (hP : ∀ Le me, (Le, MO.frame me) ∈ (L, MO.frame m) :: P → (Le, MO.frame me) ∈ P₂) : Frames A' L' m₂ P₂ (env :: fs) := by
  refine ⟨hA, fun e he => ?_⟩
  rcases List.mem_cons.mp he with rfl | he
  · exact ⟨hk, L', m₂, hL, .head _⟩
  · obtain ⟨q1, Le, me, q2, q3⟩ := F.2 e he
    exact ⟨q1, Le, me, q2, .tail _ (hP _ _ q3)⟩
end
end Mine
namespace Mine
section
variable {prog : Program} {w : World} {K : Frag} {A : Around} {E : Value → Shared → Prop} {s₀ s : Shared} {L : Addr} {m : List (Str × Value)} {P P' : Led} {d : Nat} {env : Env} {a : Addr} {xs : List Value}

/-- the bridge to the library's rules that make one new object -/
theorem Sim.grow (S : Sim w s₀ L m P s) : ∃ m' N, Are w P N ∧ Fr s₀.heap L s.heap m' ∧ News s₀.heap L s.heap N ∧
    ∀ h' tk o ob, RelO w o ob → Fr s₀.heap L h' m' → News s₀.heap L h' ((s.heap.objs.size, ob) :: N) → Sim w s₀ L m ((s.heap.objs.size, o) :: P) { s with heap := h', toks := tk } := by
  obtain ⟨m', F, hm⟩ := S.fr
  obtain ⟨N, h1, h2⟩ := S.news
  refine ⟨m', N, h1, F, h2, fun h' tk o ob r F' N' => S.of_news F' hm N' (.cons r h1) ?_ ?_⟩
  · have nd := S.nd
    simp only [List.map_cons, List.nodup_cons] at nd ⊢
    refine ⟨fun q => ?_, nd.2⟩
    obtain ⟨p, hp, e⟩ := List.mem_map.mp q
    obtain ⟨ob', q1, _⟩ := S.led p (.tail _ hp)
    exact absurd (Heap.lt_size q1) (by rw [e]; exact Nat.lt_irrefl _)
  · intro p hp
    rcases List.mem_cons.mp hp with rfl | hp
    · exact S.new (Nat.le_refl _)
    · obtain ⟨_, _, _, q⟩ := S.led p (.tail _ hp); exact q

theorem strVals {l : List (Str × Tok)} {ys : List Str} (h : l.map (·.1) = ys) : (strValues l).map er = ys.map T := by
  subst h
  induction l with
  | nil => rfl
  | cons p l ih => simp only [strValues, List.map_cons] at ih ⊢; rw [← ih]; rfl

theorem str_split {x y : Str} {t u : Tok} {Q : Value → Shared → Prop} (S : Sim w s₀ L m P s) (hy : (y.length == 0) = false) (hz : x.length + 2 ≤ sizeLine) (h : ∀ D s', Sim w s₀ L m ((D, .list ((Txt.split x y).map T)) :: P) s' → Q (.ref D) s') :
    wpAny (model prog w) A (call (.builtin "str.split") [.str x t, .str y u]) Q E s := by
  obtain ⟨m', N, _, F', N', back⟩ := S.grow
  refine splitN1 F' N' hy (fun l h' k hl F₁ N₁ => h _ _ (back h' k _ _ ⟨_, _, rfl, ?_⟩ F₁ N₁)) hz
  rw [← strVals hl]
theorem str_join {x : Str} {t : Tok} {ys : List Str} {Q : Value → Shared → Prop} (S : Sim w s₀ L m P s) (hm : (a, .list (ys.map T)) ∈ P) (hz : (ys.map (·.length)).sum + ys.length * x.length ≤ 16777216) (h : ∀ t s', Sim w s₀ L m P s' → Q (.str (Txt.join x ys) t) s') :
    wpAny (model prog w) A (call (.builtin "str.join") [.str x t, .ref a]) Q E s := by
  obtain ⟨vs, h1, h2⟩ := S.isl hm
  exact join_list h1 (strs_of h2) hz fun t' k => h _ _ S.toks

theorem dict_at {ob : Obj} {kvs : List (Int × Value)} {ep : Nat} (h1 : s.heap.get? a = some ob) (r : RelO w (.dict kvs ep) ob) : ∃ kvs', s.heap.DictAt (intKind prog w) a kvs' ep ∧ kvs'.map er2 = kvs := by
  obtain ⟨es, rfl, h2, h3⟩ := r
  obtain ⟨kvs', p, q, r⟩ := pairs_of (prog := prog) (w := w) h2
  refine ⟨kvs', ⟨_, es, h1, ⟨rfl, rfl, rfl⟩, rfl, fun e he => r e (Array.mem_toList_iff.mpr he), p, ?_⟩, q⟩
  rw [← q, List.map_map] at h3
  exact h3
/-- a dict of the text's own -/
theorem kdict_get {ob : Obj} {kvs : List (Int × Value)} {ep : Nat} {k : Int} {t : Tok} {dv : Value} {Q : Value → Shared → Prop} (G : Gr K s₀.heap) (S : Sim w s₀ L m P s) (hl : K.lookup a = some ob) (r : RelO w (.dict kvs ep) ob) (hs : (a == sysModules) = false)
    (h : All ((dget kvs k).getD (er dv)) fun v' => ∀ s', Sim w s₀ L m P s' → Q v' s') : wpAny (model prog w) A (call (.builtin "dict.get") [.ref a, .int k t, dv]) Q E s := by
  obtain ⟨kvs', h1, h2⟩ := dict_at (prog := prog) (S.K_in G a ob hl) r
  refine call_meetsIn F.slot_dict_get h1.dictOf.mapOf.typeIs F.entry_dict_get (F.args_dict_get_3 _ _ _) (meets_dict_get_default (intKind prog w) a (isInt_self k t) hs dv) ⟨_, h1.dictOf.mapOf, h.of ?_ _ S.toks⟩
  rw [← h2, ← valueAt_er]
  cases valueAt kvs' k <;> rfl
theorem kmeth_dict {ob : Obj} {name : Str} {id : String} {pl : Sem Bool} {Q : Value × List Value → Shared → Prop} (G : Gr K s₀.heap) (S : Sim w s₀ L m P s) (hl : K.lookup a = some ob) (hc : ob.cls = .type "dict") (hd : ob.dict = none) (slot : Slot "dict" name id)
    (ty : typeOf (.builtin id) = pure (.type "method_descriptor")) (h : Q (.builtin id, [.ref a]) s) : wpAny (model prog w) A (getMethod (.ref a) name pl) Q E s :=
  getMethod_builtin ⟨_, S.K_in G a ob hl, hc⟩ F.plainAttrs_dict slot ty (fun b e => by cases e; exact ⟨_, S.K_in G a ob hl, hd⟩) h
theorem hex_int {i : Int} {t : Tok} {Q : Value → Shared → Prop} (S : Sim w s₀ L m P s) (hz : (baseText "0x" 16 i).length ≤ sizeLine) (h : ∀ x t s', Sim w s₀ L m P s' → Q (.str x t) s') : wpAny (model prog w) A (call (.builtin "hex") [.int i t]) Q E s :=
  PySem.P.hex_of_int (h _ _ _ S.toks) hz
end
end Mine
namespace Mine
section
variable {prog : Program} {w : World} {K : Frag} {A : Around} {E : Value → Shared → Prop} {s₀ s : Shared} {L : Addr} {m : List (Str × Value)} {P P' : Led} {d : Nat} {env : Env} {a : Addr} {xs : List Value}
theorem strsAre_get {vs : List Value} {ys : List Str} (h : StrsAre vs ys) : ∀ (i : Nat) (y : Str), ys[i]? = some y → ∃ t, vs[i]? = some (.str y t) := by
  induction h with
  | nil => intro i y e; simp at e
  | cons z t _ ih =>
    intro i y e
    cases i with
    | zero => simp at e; subst e; exact ⟨t, rfl⟩
    | succ i => simpa using ih i y (by simpa using e)
theorem list_index_str {ys : List Str} {y : Str} {u : Tok} {j : Nat} {Q : Value → Shared → Prop} (S : Sim w s₀ L m P s) (hm : (a, .list (ys.map T)) ∈ P) (hj : ys[j]? = some y) (hno : ∀ i z, i < j → ys[i]? = some z → (z == y) = false) (hz : ys.length < 1000)
    (h : ∀ t s', Sim w s₀ L m P s' → Q (.int j t) s') : wpAny (model prog w) A (call (.builtin "list.index") [.ref a, .str y u]) Q E s := by
  obtain ⟨ob, h1, ⟨vs, n, rfl, hv⟩, _⟩ := S.get hm
  have hs := strs_of hv
  have hlen : vs.size = ys.length := by have := congrArg List.length hv; simpa using this
  have hjl : j < ys.length := (List.getElem?_eq_some_iff.mp hj).1
  obtain ⟨t, ht⟩ := strsAre_get hs j y hj
  refine call_meets F.slot_list_index ⟨_, h1, rfl⟩ F.entry_list_index (F.args_list_index_2 _ _) (MeetsSeq.list_index a vs n (.str y u) (isStrOf y) (fun z hz => eq_isStrOf y u hs z (Array.mem_toList_iff.mpr hz)) j (by omega) (by omega) ?_ ?_) ⟨h1, h _ _ S.toks⟩
  · have : vs[j] = .str y t := by
      have := ht; rw [Array.getElem?_toList] at this
      exact (Array.getElem?_eq_some_iff.mp this).2
    rw [this]; simp [isStrOf]
  · intro i hi hij
    obtain ⟨z, hz'⟩ : ∃ z, ys[i]? = some z := ⟨ys[i]'(by omega), by simp⟩
    obtain ⟨t', ht'⟩ := strsAre_get hs i z hz'
    have : vs[i] = .str z t' := by
      rw [Array.getElem?_toList] at ht'
      exact (Array.getElem?_eq_some_iff.mp ht').2
    rw [this]
    exact hno i z hij hz'
end
end Mine
namespace Mine
def pick (xs : List Value) (lo hi st : Option Int) : List Value := (slicePick xs.toArray lo hi st).toList
theorem pick_er (vs : List Value) (lo hi st : Option Int) : (slicePick vs.toArray lo hi st).toList.map er = pick (vs.map er) lo hi st := by
  unfold pick slicePick
  simp only [List.size_toArray, List.length_map]
  generalize sliceRange _ _ _ = r
  induction r with
  | nil => rfl
  | cons i r ih =>
    simp only [List.filterMap_cons, List.getElem?_toArray, List.getElem?_map] at ih ⊢
    cases vs[i]? with
    | none => exact ih
    | some v => simp only [Option.map_some, List.map_cons] at ih ⊢; exact congrArg _ ih
section
variable {prog : Program} {w : World} {K : Frag} {A : Around} {E : Value → Shared → Prop} {s₀ s : Shared} {L : Addr} {m : List (Str × Value)} {P P' : Led} {d : Nat} {env : Env} {a b : Addr} {xs ys : List Value}
theorem slice_end {vl vu : Value} {lo hi : Option Int} {Q : Value → Shared → Prop} (S : Sim w s₀ L m P s) (hm : (a, .list xs) ∈ P) (hz : xs.length ≤ sizeLine) (pl : IsPart vl lo) (pu : IsPart vu hi)
    (h : ∀ D s', Sim w s₀ L m ((D, .list (pick xs lo hi none)) :: P) s' → Q (.ref D) s') :
    ∃ l items lo hi, Value.ref a = .ref l ∧ s.heap.IsList l items ∧ items.size ≤ sizeLine ∧ IsPart vl lo ∧ IsPart vu hi ∧ Q (.ref (s.heap.objs.size + 1)) { s with heap := (s.heap.push { cls := .type "slice", data := .fields #[vl, vu, .none] }).push { cls := .type "list", data := .seq (slicePick items lo hi none) } } := by
  obtain ⟨vs, h1, h2⟩ := S.isl hm
  have hl : vs.length = xs.length := by rw [← h2]; simp
  refine ⟨a, vs.toArray, lo, hi, rfl, h1, by simpa [hl] using hz, pl, pu, ?_⟩
  have S1 := (S.push (o := .raw _) (tk := s.toks) (ob := { cls := .type "slice", data := .fields #[vl, vu, .none] }) rfl).drop
  have S2 := S1.push (o := .list (pick xs lo hi none)) (tk := s.toks) (ob := { cls := .type "list", data := .seq (slicePick vs.toArray lo hi none) }) ⟨_, _, rfl, by rw [pick_er, h2]⟩
  dsimp only at S2
  rw [Heap.size_push] at S2
  exact h _ _ S2
end
end Mine
namespace Mine
section
variable {prog : Program} {w : World} {K : Frag} {A : Around} {E : Value → Shared → Prop} {s₀ s : Shared} {L : Addr} {m : List (Str × Value)} {P P' : Led} {d : Nat} {env : Env} {a b : Addr} {xs ys : List Value}
end
end Mine
namespace Mine
section
variable {prog : Program} {w : World} {K : Frag} {A : Around} {E : Value → Shared → Prop} {s₀ s : Shared} {L : Addr} {m : List (Str × Value)} {P P' : Led} {d : Nat} {env : Env} {a b : Addr} {xs ys : List Value}
theorem items_of : ∀ {vs : List Value} {ns : List Int}, vs.map er = ns.map I → ∃ ps : List (Int × Tok), vs = ps.map (fun p => .int p.1 p.2) ∧ ps.map (·.1) = ns
  | [], [], _ => ⟨[], rfl, rfl⟩
  | [], _ :: _, h => by simp at h
  | _ :: _, [], h => by simp at h
  | v :: vs, n :: ns, h => by
    simp only [List.map_cons, List.cons.injEq] at h
    obtain ⟨t, rfl⟩ := er_int h.1
    obtain ⟨ps, h1, h2⟩ := items_of h.2
    exact ⟨(n, t) :: ps, by simp [h1], by simp [h2]⟩
theorem preSum_take (ps : List (Int × Tok)) : ∀ k, k ≤ ps.length → preSum (numAt ps.toArray) k = ((ps.map (·.1)).take k).sum
  | 0, _ => by simp [preSum]
  | k + 1, h => by
    have ih := preSum_take ps k (by omega)
    have hk : k < ps.length := by omega
    unfold preSum
    rw [ih, List.take_add_one, List.sum_append]
    simp [numAt, hk]
theorem list_sum {ns : List Int} {Q : Value → Shared → Prop} (hA : A.handled = none) (S : Sim w s₀ L m P s) (hm : (a, .list (ns.map I)) ∈ P)
    (h : ∀ t s', Sim w s₀ L m P s' → Q (.int ns.sum t) s') : wpAny (model prog w) A (call (.builtin "sum") [.ref a]) Q E s := by
  obtain ⟨vs, h1, h2⟩ := S.isl hm
  obtain ⟨ps, rfl, rfl⟩ := items_of h2
  have e : (ps.map fun p => Value.int p.1 p.2).toArray = intItems ps.toArray := by simp [intItems]
  rw [e] at h1
  refine sum_intListG hA h1 fun h' tk t' hk => ?_
  rw [show preSum (numAt ps.toArray) ps.toArray.size = (ps.map (·.1)).sum by rw [preSum_take ps _ (by simp)]; simp [List.take_of_length_le]]
  exact h t' _ (S.ext hk)
end
end Mine
namespace Mine
section
variable {prog : Program} {w : World} {K : Frag} {A : Around} {E : Value → Shared → Prop} {s₀ s : Shared} {L : Addr} {m : List (Str × Value)} {P P' : Led} {d : Nat} {env : Env} {a b : Addr} {xs ys : List Value}
end
end Mine
namespace Mine
section
variable {prog : Program} {w : World} {K : Frag} {A : Around} {E : Value → Shared → Prop} {s₀ s : Shared} {L : Addr} {m : List (Str × Value)} {P P' : Led} {d : Nat} {env : Env} {a b : Addr} {xs ys : List Value}
theorem slice3 {vl vu vs : Value} {lo hi st : Option Int} {Q : Value → Shared → Prop} (S : Sim w s₀ L m P s) (hm : (a, .list xs) ∈ P) (hz : xs.length ≤ sizeLine) (pl : IsPart vl lo) (pu : IsPart vu hi) (ps : IsPart vs st) (h0 : st ≠ some 0)
    (h : ∀ D s', Sim w s₀ L m ((D, .list (pick xs lo hi st)) :: P) s' → Q (.ref D) s') :
    ({ s with heap := s.heap.push { cls := .type "slice", data := .fields #[vl, vu, vs] } } : Shared).TypeIs (.ref a) "list" ∧ wpAny (model prog w) A (getItem (.ref a) (.ref s.heap.objs.size)) Q E { s with heap := s.heap.push { cls := .type "slice", data := .fields #[vl, vu, vs] } } := by
  have S1 := (S.push (o := .raw _) (tk := s.toks) (ob := { cls := .type "slice", data := .fields #[vl, vu, vs] }) rfl).drop
  obtain ⟨us, h1, h2⟩ := S1.isl hm
  have hl : us.length = xs.length := by rw [← h2]; simp
  refine ⟨h1.typeIs, wpAny_getItem_list_slice h1 ⟨_, Heap.get?_push_size _ rfl, rfl, rfl⟩ pl pu ps h0 ?_ (by simpa [hl] using hz)⟩
  exact h _ _ (S1.push (o := .list (pick xs lo hi st)) (tk := s.toks) (ob := { cls := .type "list", data := .seq (slicePick us.toArray lo hi st) }) ⟨_, _, rfl, by rw [pick_er, h2]⟩)
end
end Mine
namespace Mine
theorem pick_upto (xs : List Value) (b : Nat) : pick xs none (some b) none = xs.take b := by unfold pick; rw [slicePick_upto']
theorem pick_mem {xs : List Value} {lo hi st : Option Int} {v : Value} (h : v ∈ pick xs lo hi st) : v ∈ xs := by
  unfold pick slicePick at h
  simp only [List.mem_filterMap] at h
  obtain ⟨i, _, h⟩ := h
  rw [List.getElem?_toArray] at h
  exact List.mem_of_getElem? h
theorem ints_all {xs : List Value} : ∀ (h : ∀ v ∈ xs, ∃ n, v = I n), ∃ ns : List Int, xs = ns.map I := by
  induction xs with
  | nil => exact fun _ => ⟨[], rfl⟩
  | cons v xs ih =>
    intro h
    obtain ⟨n, rfl⟩ := h v (.head _)
    obtain ⟨ns, rfl⟩ := ih fun v hv => h v (.tail _ hv)
    exact ⟨n :: ns, rfl⟩
theorem pick_ints (ns : List Int) (lo hi st : Option Int) : ∃ ms : List Int, pick (ns.map I) lo hi st = ms.map I :=
  ints_all fun v hv => by
    obtain ⟨n, _, rfl⟩ := List.mem_map.mp (pick_mem hv)
    exact ⟨n, rfl⟩

abbrev NL := List (Addr × List Int)
def nest (rs : NL) : Led := rs.map fun r => (r.1, MO.list (r.2.map I))
def refs (rs : NL) : List Value := rs.map fun r => Value.ref r.1
abbrev cont (rs : NL) : List (List Int) := rs.map (·.2)
theorem nest_app (a b : NL) : nest (a ++ b) = nest a ++ nest b := List.map_append ..
theorem nest_one (r : Addr × List Int) : nest [r] = [(r.1, MO.list (r.2.map I))] := rfl
theorem refs_app (a b : NL) : refs (a ++ b) = refs a ++ refs b := List.map_append ..
theorem nest_mem {rs : NL} {r} (h : r ∈ rs) : (r.1, MO.list (r.2.map I)) ∈ nest rs := List.mem_map.mpr ⟨r, h, rfl⟩

section
variable {prog : Program} {w : World} {K : Frag} {A : Around} {E : Value → Shared → Prop} {s₀ s : Shared} {L : Addr} {m : List (Str × Value)} {P P' : Led} {d : Nat} {env : Env} {a b : Addr} {xs ys : List Value}
theorem any_eq (ns : List Int) (x : Int) : (ns.any (· == x)) = decide (x ∈ ns) := by
  rw [Bool.eq_iff_iff]; simp
theorem list_in {ns : List Int} {x : Int} {t : Tok} {Q : Value → Shared → Prop} (S : Sim w s₀ L m P s) (hm : (a, .list (ns.map I)) ∈ P) (h : Q (.bool (decide (x ∈ ns))) s) :
    wpAny (model prog w) A (compareOp .In (.int x t) (.ref a)) Q E s := by
  obtain ⟨vs, h1, h2⟩ := S.isl hm
  exact in_list_ints h1 (ints_of h2) (by rw [any_eq]; exact h)
/-- the items of a list or a tuple as star arguments -/
theorem star_list {Q : List Value → Shared → Prop} (S : Sim w s₀ L m P s) (hm : (a, .list xs) ∈ P) (hz : xs.length ≤ sizeLine) (h : ∀ vs s', vs.map er = xs → Sim w s₀ L m P s' → Q vs s') : StarOf (model prog w) A E (.ref a) Q s := by
  obtain ⟨ob, h1, ⟨vs, n, rfl, h2⟩, _⟩ := S.get hm
  have hl : vs.size = xs.length := by rw [← h2]; simp
  have hT' : s.TypeIs (.ref a) "list" := ⟨_, h1, rfl⟩
  have z : wpAny (model prog w) A (collect (.ref a)) Q E s :=
    wpAny_collect_seq a (.inl rfl) h1 rfl rfl (fun h' hk => h _ _ h2 (S.ext (tk := s.toks) hk)) (by omega)
  unfold StarOf notIterableAtAll
  exact wpAny_bind (wpAny_specialOf hT' PySem.F.slot_list_iter.lookup (wpAny_pure ⟨rfl, z⟩))
theorem star_tup {Q : List Value → Shared → Prop} (S : Sim w s₀ L m P s) (hm : (a, .tup xs) ∈ P) (hz : xs.length ≤ sizeLine) (h : ∀ vs s', vs.map er = xs → Sim w s₀ L m P s' → Q vs s') : StarOf (model prog w) A E (.ref a) Q s := by
  obtain ⟨ob, h1, ⟨vs, n, rfl, h2⟩, _⟩ := S.get hm
  have hl : vs.size = xs.length := by rw [← h2]; simp
  have hT' : s.TypeIs (.ref a) "tuple" := ⟨_, h1, rfl⟩
  have z : wpAny (model prog w) A (collect (.ref a)) Q E s :=
    wpAny_collect_seq a (.inr rfl) h1 rfl rfl (fun h' hk => h _ _ h2 (S.ext (tk := s.toks) hk)) (by omega)
  unfold StarOf notIterableAtAll
  exact wpAny_bind (wpAny_specialOf hT' PySem.F.slot_tuple_iter.lookup (wpAny_pure ⟨rfl, z⟩))
end
end Mine
namespace Mine
def SliceEnd (Q : Value → Shared → Prop) (o vl vu : Value) (s : Shared) : Prop :=
  ∃ l items lo hi, o = .ref l ∧ s.heap.IsList l items ∧ items.size ≤ sizeLine ∧ IsPart vl lo ∧ IsPart vu hi ∧
        Q (.ref (s.heap.objs.size + 1)) { s with heap := (s.heap.push { cls := .type "slice", data := .fields #[vl, vu, .none] }).push { cls := .type "list", data := .seq (slicePick items lo hi none) } }
def partOf : Value → Option Int
  | .int i _ => some i
  | _ => none
section
variable {prog : Program} {w : World} {K : Frag} {A : Around} {E : Value → Shared → Prop} {s₀ s : Shared} {L : Addr} {m : List (Str × Value)} {P P' : Led} {d : Nat} {env : Env} {a b : Addr} {xs ys : List Value}
theorem sub_slice {value : Expr} {lower upper : Option Expr} {p pos : Pos} {Q : Value → Shared → Prop}
    (h : wpAny (model prog w) A (eval value env) (fun o s₁ => wpAny (model prog w) A (evalPart lower env) (fun vl s₂ => wpAny (model prog w) A (evalPart upper env) (fun vu s₃ => SliceEnd Q o vl vu s₃) E s₂) E s₁) E s)
    (ht : ∀ o r, letTemporaryGo value o r = pure () := by intro _ _; rfl) :
    wpAny (model prog w) A (eval (.Subscript value (.Slice lower upper none p) pos) env) Q E s := wpAny_Subscript_list_slice h ht
theorem slice_two {v u : Value} {Q : Value → Shared → Prop} (S : Sim w s₀ L m P s) (hm : (a, .list xs) ∈ P) (hz : xs.length ≤ sizeLine) (hv : IsPart v (partOf v)) (hu : IsPart u (partOf u))
    (h : ∀ D s', Sim w s₀ L m ((D, .list (pick xs (partOf v) (partOf u) none)) :: P) s' → Q (.ref D) s') : SliceEnd Q (.ref a) v u s := slice_end S hm hz hv hu h
end
end Mine
namespace Mine
theorem refs_len (rs : NL) : (refs rs).length = rs.length := List.length_map ..
section
variable {prog : Program} {w : World} {K : Frag} {A : Around} {E : Value → Shared → Prop} {s₀ s : Shared} {L : Addr} {m : List (Str × Value)} {P P' : Led} {d : Nat} {env : Env} {a b : Addr} {xs ys : List Value}
theorem unpack2 {T : Addr} {v1 v2 : Value} {n : Nat} {Q : List Value → Shared → Prop} (hA : A.handled = none) (S : Sim w s₀ L m P s) (hm : (T, .tup [v1, v2]) ∈ P) (hn : n = 2)
    (h : All v1 fun u1 => All v2 fun u2 => ∀ s', Sim w s₀ L m P s' → Q [u1, u2] s') : wpAny (model prog w) A (unpackItems (.ref T) n none) Q E s := by
  subst hn
  obtain ⟨vs, h1, h2⟩ := S.ist hm
  obtain ⟨u1, u2, rfl, h3, h4⟩ := two_vals h2
  have := (h.of h3).of h4
  exact unpackItems_tuple (items := [u1, u2].toArray) hA h1 fun h' hs => this { s with heap := h' } (S.ext (tk := s.toks) fun b o e => hs b o (Nat.ne_of_lt (Heap.lt_size e)) e)
theorem assign_swap {x y : Str} {px py tpos pos : Pos} {k} {value : Expr} {Q : Flow → Shared → Prop}
    (h : wpAny (model prog w) A (eval value env) (fun v s₁ => wpAny (model prog w) A (unpackItems v 2 none) (fun items s₂ =>
      ∃ u1 u2, items = [u1, u2] ∧ wpAny (model prog w) A (storeName env y u2) (fun _ s₃ => wpAny (model prog w) A (storeName env x u1) (fun _ => Q .next) E s₃) E s₂) E s₁) E s)
    (hs : swapsWithSole [.Tuple [.Name x px, .Name y py] k tpos] value pos.line env = pure false := by rfl)
    (hw : swappedStores [.Tuple [.Name x px, .Name y py] k tpos] value env = pure (some [x, y]) := by rfl) :
    wpAny (model prog w) A (exec (.Assign [.Tuple [.Name x px, .Name y py] k tpos] value pos) env) Q E s := by
  refine Assign_Tuple_swapped (names := [x, y]) (wpAny_mono h (fun v s₁ h₁ => wpAny_mono h₁ (fun items s₂ h₂ => ?_) fun _ _ x => x) fun _ _ x => x) hs hw
  obtain ⟨u1, u2, rfl, h₂⟩ := h₂
  show wpAny _ _ (assignInOrder [bindName env y, bindName env x] [u2, u1]) _ _ _
  exact assignInOrder_cons (wpAny_bindName (wpAny_mono h₂ (fun _ s₃ h₃ => assignInOrder_cons (wpAny_bindName (wpAny_mono h₃ (fun _ s₄ h₄ => assignInOrder_nil h₄) fun _ _ x => x))) fun _ _ x => x))
end
end Mine
namespace Mine
section
variable {prog : Program} {w : World} {K : Frag} {A : Around} {E : Value → Shared → Prop} {s₀ s : Shared} {L : Addr} {m : List (Str × Value)} {P P' : Led} {d : Nat} {env : Env} {a b x dx C : Addr} {xs ys : List Value} {am : List (Str × Value)} {name : Str}
/-- a def with a star parameter; its code -/
theorem code_defV {f : Addr} {args rest : List Value} {binds : Value → List (Str × Value)} {fd : FuncData} {body : List Stmt} {o : Obj} {R : Result → Shared → Prop} (mL : Addr → List (Str × Value)) (G : Gr K s₀.heap) (k : OK A (d + 1)) (S : Sim w s₀ L m P s)
    (hf : K.lookup f = some o) (hd : o.data = .func fd) (hcd : codeIn K fd.code fd.qualname = true) (hb : fd.body = .stmts body)
    (hbind : bindArgs fd ⟨args, []⟩ = (newTuple rest >>= fun t => pure (binds t))) (hz : rest.length ≤ sizeLine)
    (hcell : ∀ x ∈ fd.scope.names, x.2 ≠ .cell) (hloc : ∀ t, ((binds t).all fun x => decide (fd.scope.names.lookup x.1 = some .local)) = true) (hmL : ∀ T, ∀ p ∈ mL T, ((binds (.ref T)).reverse.lookup p.1).map er = some p.2)
    (h : ∀ L' T s' A', Sim w s₀ L' (mL T) ((L, .frame m) :: (T, .tup (rest.map er)) :: P) s' → OK A' d →
      wpAny (model prog w) A' (execs body (callEnv fd L' f)) (fun fl s'' => R (.ok (.ret (retv fl))) s'') noE s')
    (hco : fd.scope.isCoroutine = false := by rfl) (hgen : fd.scope.isGenerator = false := by rfl) (hk : fd.scope.kind = .function := by rfl) :
    codeAny (model prog w) A (.call (.ref f) ⟨args, []⟩) R s := by
  have X := S.K_in G
  obtain ⟨p, l, mg, mb, T⟩ := G.T
  refine codeAny_call_function k.room (X _ _ hf) hd hco hgen hb (codeRec_of X hcd) ?_
  rw [hbind]
  refine wpAny_bind (wpAny_newTuple ?_ hz)
  refine wpAny_pure ?_
  have S₁ : Sim w s₀ L m ((s.heap.objs.size, .tup (rest.map er)) :: P) { s with heap := s.heap.push { cls := .type "tuple", data := .seq rest.toArray } } := S.push (tk := s.toks) ⟨rest.toArray, 0, rfl, by simp⟩
  refine wpAny_newFunctionEnv hcell (locs (hloc _)) (fun h₁ hn hsb => ⟨((T.nolimit.keeps S₁.keep)).fresh _ hsb, codeAny_func ?_⟩) hk
  refine wpAny_mono (h _ s.heap.objs.size _ _ (frame_new2 S₁ hn (fun b o e => hsb.extBut b o (Nat.ne_of_lt (Heap.lt_size e)) (Heap.get?_push_of_some _ e)) (hmL _)) k.deeper) (fun fl s' q => ?_) fun _ _ x => x.elim
  cases fl <;> exact q

structure BoundOK (K : Frag) (C : Addr) (name : Str) (f : Addr) : Prop where
  g : plainGet K C name = true
  h : hasDictIn K C = true
  a : findIn K (.ref C) name = some (some (.ref f))
  fn : isFn K (.ref f) = true
  gf : specialIn K (.ref f) "__get__" = some (some (.builtin "function.__get__"))
  t : takesIn K (.ref f) = some false
  c : copiedNames.contains name = false
  k : fnIn K f = true
abbrev MO.bnd (f x : Addr) : MO := .raw (methodObj (.ref f) (.ref x))
/-- a method as a value -/
theorem bound_get {f : Addr} (O : BoundOK K C name f) {expr : Bool} {Q : Value → Shared → Prop} (G : Gr K s₀.heap) (S : Sim w s₀ L m P s) (hx : (x, .inst C dx) ∈ P) (hd : (dx, .attrs am) ∈ P) (hl : am.lookup name = none)
    (h : ∀ q s', Sim w s₀ L m ((q, .bnd f x) :: P) s' → Q (.ref q) s') : wpAny (model prog w) A (getAttr (.ref x) name expr) Q E s := by
  obtain ⟨es, n, I, he⟩ := S.inst hx hd
  exact get_bind (S.K_in G) I (plainGet_of O.g).1 (findObj_fn O.h O.a O.gf O.t O.c (by show lookIn name (dictOf es n) = _; rw [lookIn_dict, attrs_none he hl])) (plainGet_of O.g).2
    (wpAny_call (fn_get (s := { s with toks := s.toks + 1 }) (S.K_in G) (beq_iff_eq.mp O.fn) (handed_on rfl (h s.heap.objs.size _ (S.push (tk := s.toks + 1) rfl)))))
theorem call_bound {f q : Addr} {vs : List Value} {Q : Value → Shared → Prop} (S : Sim w s₀ L m P s) (hq : (q, MO.bnd f x) ∈ P)
    (h : codeAny (model prog w) A (.call (.ref f) ⟨.ref x :: vs, []⟩) (fun r s' => match r with | .ok (.ret v) => Q v s' | .ok _ => False | .error e => E e s') s) : wpAny (model prog w) A (call (.ref q) vs) Q E s := by
  obtain ⟨ob, h1, h2, _⟩ := S.get hq
  cases h2
  exact wpAny_call (method_call h1 h)
/-- a method called with a star -/
theorem starCall {o : Expr} {apos pos : Pos} {args : List Expr} {Q : Value → Shared → Prop}
    (h : wpAny (model prog w) A (eval o env) (fun ov s₁ => wpAny (model prog w) A (getAttr ov name true) (fun f s₂ => wpAny (model prog w) A (callWith pos f [] (backTo pos (starEach args env)) []) Q E s₂) E s₁) E s)
    (he : eval (.Call (.Attribute o name apos) args [] pos) env = (do
      let ov ← eval o env
      standAt apos.atName
      let (f, first) ← holding [ov] (do pure (← getAttr ov name true, []))
      callWith pos f first (backTo pos (starEach args env)) []) := by rfl) :
    wpAny (model prog w) A (eval (.Call (.Attribute o name apos) args [] pos) env) Q E s := by
  rw [he]
  refine wpAny_bind (wpAny_mono h (fun ov s₁ h₁ => wpAny_bind (wpAny_standAt (wpAny_bind (wpAny_holding (wpAny_bind (wpAny_mono h₁ (fun fx s₂ h₂ => wpAny_pure ?_) fun _ _ x => x)))))) fun _ _ x => x)
  exact h₂
theorem callWith_B1 {pos p : Pos} {f q : Addr} {e : Expr} {Q : Value → Shared → Prop} (hk : fnIn K f = true) (h : wpAny (model prog w) A (eval e env) (fun v s₁ => StarOf (model prog w) A E v (fun vs s₂ => MethP K q f (.ref x) s₂.heap ∧ wpAny (model prog w) A (call (.ref q) vs) Q E s₂) s₁) E s)
    (he : starEach [.Starred e p] env = [(true, eval e env)] := by rfl) :
    wpAny (model prog w) A (callWith pos (.ref q) [] (backTo pos (starEach [.Starred e p] env)) []) Q E s := by
  rw [he]
  exact ks_call rfl (keeps_M hk) (ks_lone h)
theorem callWith_B2 {pos : Pos} {f q : Addr} {e : Expr} {rest : List Expr} {Q : Value → Shared → Prop} (hk : fnIn K f = true) (h : wpAny (model prog w) A (spliced (backTo pos (starEach (e :: rest) env))) (fun vs s₁ => MethP K q f (.ref x) s₁.heap ∧ wpAny (model prog w) A (call (.ref q) vs) Q E s₁) E s)
    (he : starEach (e :: rest) env = (false, eval e env) :: starEach rest env := by rfl) (hst : (backTo pos (starEach rest env)).any (·.1) = true := by rfl) :
    wpAny (model prog w) A (callWith pos (.ref q) [] (backTo pos (starEach (e :: rest) env)) []) Q E s := by
  rw [he] at h ⊢
  exact ks_call (by show (false || (backTo pos (starEach rest env)).any (·.1)) = true; rw [hst]; rfl) (keeps_M hk) (evalArgs_plain h)
theorem Sim.methP {f q : Addr} (G : Gr K s₀.heap) (S : Sim w s₀ L m P s) (hq : (q, MO.bnd f x) ∈ P) : MethP K q f (.ref x) s.heap := by
  obtain ⟨ob, h1, h2, _⟩ := S.get hq
  cases h2
  exact ⟨h1, S.K_in G⟩
end
end Mine
namespace Mine
section
variable {prog : Program} {w : World} {K : Frag} {A : Around} {E : Value → Shared → Prop} {s₀ s : Shared} {L : Addr} {m : List (Str × Value)} {P P' : Led} {d : Nat} {env : Env} {a b : Addr} {xs ys : List Value}
/-- a slice of a list that stood before the call -/
theorem slice_base {v u : Value} {us : List Value} {Q : Value → Shared → Prop} (S : Sim w s₀ L m P s) (hm : s₀.heap.IsList a us.toArray) (hz : us.length ≤ sizeLine) (hv : IsPart v (partOf v)) (hu : IsPart u (partOf u))
    (h : ∀ D s', Sim w s₀ L m ((D, .list (pick (us.map er) (partOf v) (partOf u) none)) :: P) s' → Q (.ref D) s') : SliceEnd Q (.ref a) v u s := by
  have hl : s.heap.IsList a us.toArray := by
    obtain ⟨o, h1, h2⟩ := hm
    exact ⟨o, S.keep _ _ h1, h2⟩
  refine ⟨a, us.toArray, partOf v, partOf u, rfl, hl, by simpa using hz, hv, hu, ?_⟩
  have S1 := (S.push (o := .raw _) (tk := s.toks) (ob := { cls := .type "slice", data := .fields #[v, u, .none] }) rfl).drop
  have := h _ _ (S1.push (o := .list (pick (us.map er) (partOf v) (partOf u) none)) (tk := s.toks) (ob := { cls := .type "list", data := .seq (slicePick us.toArray (partOf v) (partOf u) none) }) ⟨_, _, rfl, pick_er _ _ _ _⟩)
  rw [Heap.size_push] at this
  exact this
theorem frame_rel {h : Heap} {mm : Str → Option Value} (hn : h.Ns L mm) (hm : ∀ p ∈ m, (mm p.1).map er = some p.2) : ∃ ob, h.get? L = some ob ∧ RelO w (.frame m) ob := by
  obtain ⟨ob, es, ep, a1, a2, a3, a4⟩ := hn
  exact ⟨ob, a1, es, ep, a2, a3, fun x v e => by rw [a4]; exact hm _ (mem_of_lookup e)⟩
end
end Mine
namespace Mine
section
variable {prog : Program} {w : World} {K : Frag} {A : Around} {E : Value → Shared → Prop} {s₀ s : Shared} {L : Addr} {m : List (Str × Value)} {P P' : Led} {d : Nat} {env : Env}
/-- the second clause of a comprehension is begun -/
theorem clause2 {iter' : Expr} {c : Value → Code} {c' : Code} {Q : Fin → Shared → Prop} (h : wpAny (model prog w) A (eval iter' env) (fun x s₁ => wpAny (model prog w) A (pyIter x) (fun i s₂ =>
      codeAny (model prog w) A (c i) (fun r s₃ => match r with | .ok _ => Q (.again c') s₃ | .error _ => False) s₂) noE s₁) noE s)
    (hs : ∀ x, foldedSetIterable iter' env x = pure x := by intro _; rfl) :
    wpAny (model prog w) A (do
      let x ← eval iter' env
      standAt iter'.pos
      let x ← foldedSetIterable iter' env x
      let i ← holding [x] (pyIter x)
      let _ ← runOwn (c i) env
      again c') Q E s := by
  refine wpAny_bind (wpAny_mono (wpAny_noRaise h) (fun x s₁ h₁ => wpAny_bind (wpAny_standAt ?_)) fun _ _ x => x)
  rw [hs x]
  refine wpAny_bind (wpAny_pure (wpAny_bind (wpAny_holding (wpAny_mono (wpAny_noRaise h₁) (fun i s₂ h₂ => wpAny_bind (wpAny_runOwn (codeAny_mono h₂ fun r s₃ h₃ => ?_))) fun _ _ x => x))))
  cases r with
  | ok f => exact wpAny_pure h₃
  | error e => exact h₃.elim
end
end Mine
namespace Mine
/-- the places rise -/
def Rise (xs : Array Nat) : Prop := xs.toList.Pairwise (· < ·)
theorem Rise.lt {xs : Array Nat} (h : Rise xs) {p q : Nat} (hpq : p < q) (hq : q < xs.size) : xs.getD p 0 < xs.getD q 0 := by
  have := List.pairwise_iff_getElem.mp h p q (by simp; omega) (by simpa using hq) hpq
  simpa [Array.getD, show p < xs.size by omega, hq] using this
theorem below_go {xs : Array Nat} (h : Rise xs) (j : Nat) : ∀ (fuel lo hi : Nat), lo ≤ hi → hi ≤ xs.size → hi - lo ≤ fuel → (∀ p < lo, xs.getD p 0 < j) → (∀ p, hi ≤ p → p < xs.size → j ≤ xs.getD p 0) →
    SetTable.below.go xs j fuel lo hi ≤ xs.size ∧ (∀ p < SetTable.below.go xs j fuel lo hi, xs.getD p 0 < j) ∧ ∀ p, SetTable.below.go xs j fuel lo hi ≤ p → p < xs.size → j ≤ xs.getD p 0
  | 0, lo, hi, h1, h2, h3, h4, h5 => by
    have : hi = lo := by omega
    subst this
    exact ⟨h2, h4, h5⟩
  | fuel + 1, lo, hi, h1, h2, h3, h4, h5 => by
    unfold SetTable.below.go
    by_cases hlt : lo < hi
    · rw [if_pos hlt]
      dsimp only
      rw [show xs.getD ((lo + hi) / 2) j = xs.getD ((lo + hi) / 2) 0 by simp [Array.getD, show (lo + hi) / 2 < xs.size by omega]]
      by_cases hm : xs.getD ((lo + hi) / 2) 0 < j
      · rw [if_pos hm]
        refine below_go h j fuel _ hi (by omega) h2 (by omega) (fun p hp => ?_) h5
        by_cases e : p = (lo + hi) / 2
        · rw [e]; exact hm
        · exact Nat.lt_trans (h.lt (q := (lo + hi) / 2) (by omega) (by omega)) hm
      · rw [if_neg hm]
        refine below_go h j fuel lo _ (by omega) (by omega) (by omega) h4 (fun p hp hps => ?_)
        by_cases e : p = (lo + hi) / 2
        · rw [e]; omega
        · have := h.lt (p := (lo + hi) / 2) (q := p) (by omega) hps
          omega
    · rw [if_neg hlt]
      have : hi = lo := by omega
      subst this
      exact ⟨h2, h4, h5⟩
theorem below_spec {xs : Array Nat} (h : Rise xs) (j : Nat) : SetTable.below xs j ≤ xs.size ∧ (∀ p < SetTable.below xs j, xs.getD p 0 < j) ∧ ∀ p, SetTable.below xs j ≤ p → p < xs.size → j ≤ xs.getD p 0 :=
  below_go h j xs.size 0 xs.size (Nat.zero_le _) (Nat.le_refl _) (by omega) (fun p hp => absurd hp (Nat.not_lt_zero _)) (fun p h1 h2 => by omega)
theorem below_zero {xs : Array Nat} (h : Rise xs) : SetTable.below xs 0 = 0 := by
  obtain ⟨h1, h2, h3⟩ := below_spec h 0
  rcases Nat.eq_zero_or_pos (SetTable.below xs 0) with e | e
  · exact e
  · have := h2 0 e; omega
theorem below_next {xs : Array Nat} (h : Rise xs) {i : Nat} (hi : i < xs.size) : SetTable.below xs (xs.getD i 0 + 1) = i + 1 := by
  obtain ⟨h1, h2, h3⟩ := below_spec h (xs.getD i 0 + 1)
  rcases Nat.lt_trichotomy (SetTable.below xs (xs.getD i 0 + 1)) (i + 1) with e | e | e
  · have := h3 i (by omega) hi; omega
  · exact e
  · have := h2 (i + 1) e
    have := h.lt (p := i) (q := i + 1) (by omega) (by omega); omega
theorem insertAt_list {α : Type} (xs : Array α) (p : Nat) (x : α) : (SetTable.insertAt xs p x).toList = xs.toList.take p ++ x :: xs.toList.drop p := by
  unfold SetTable.insertAt
  simp [Array.toList_extract, List.take_of_length_le]
theorem rise_insert {xs : Array Nat} (h : Rise xs) {j : Nat} (hj : ¬ (xs[SetTable.below xs j]? == some j) = true) : Rise (SetTable.insertAt xs (SetTable.below xs j) j) := by
  obtain ⟨h1, h2, h3⟩ := below_spec h j
  generalize SetTable.below xs j = p at *
  unfold Rise at h ⊢
  rw [insertAt_list]
  have ht : ∀ x ∈ xs.toList.take p, x < j := by
    intro x hx
    obtain ⟨q, hq, rfl⟩ := List.mem_iff_getElem.mp hx
    simp only [List.length_take, Array.length_toList] at hq
    have := h2 q (by omega)
    rw [List.getElem_take]
    simpa [Array.getD, show q < xs.size by omega] using this
  have hd : ∀ x ∈ xs.toList.drop p, j < x := by
    intro x hx
    obtain ⟨q, hq, rfl⟩ := List.mem_iff_getElem.mp hx
    simp only [List.length_drop, Array.length_toList] at hq
    rw [List.getElem_drop]
    have hpq := h3 (p + q) (by omega) (by omega)
    have e1 : xs.getD (p + q) 0 = xs.toList[p + q]'(by simp; omega) := by simp [Array.getD, show p + q < xs.size by omega]
    rw [← e1]
    rcases Nat.lt_or_ge j (xs.getD (p + q) 0) with q1 | q1
    · exact q1
    · exfalso
      have e2 : xs.getD (p + q) 0 = j := by omega
      rcases Nat.eq_zero_or_pos q with q0 | q0
      · subst q0
        refine hj ?_
        rw [beq_iff_eq, Array.getElem?_eq_getElem (show p < xs.size by omega)]
        simpa [Array.getD, show p < xs.size by omega] using e2
      · have := List.pairwise_iff_getElem.mp h p (p + q) (by simp; omega) (by simp; omega) (by omega)
        have h4 := h3 p (Nat.le_refl _) (by omega)
        have e3 : xs.getD p 0 = xs.toList[p]'(by simp; omega) := by simp [Array.getD, show p < xs.size by omega]
        rw [← e3, ← e1] at this
        omega
  refine List.pairwise_append.mpr ⟨h.sublist (List.take_sublist _ _), List.pairwise_cons.mpr ⟨hd, h.sublist (List.drop_sublist _ _)⟩, fun a ha b hb => ?_⟩
  rcases List.mem_cons.mp hb with rfl | hb
  · exact ht a ha
  · exact Nat.lt_trans (ht a ha) (hd b hb)
theorem rise_range (n : Nat) : Rise (Array.range n) := by
  unfold Rise
  rw [Array.toList_range]
  exact List.pairwise_lt_range
theorem slot_free {t : SetTable} {j : Nat} (h : t.slot j ≠ .live (SetTable.below t.place j)) : ¬ (t.place[SetTable.below t.place j]? == some j) = true := by
  intro e
  refine h ?_
  unfold SetTable.slot
  dsimp only
  rw [if_pos e]
theorem slot_not_live {t : SetTable} {j : Nat} {x : SetTable.Slot} (h : t.slot j = x) (hx : ∀ i, x ≠ .live i) : ¬ (t.place[SetTable.below t.place j]? == some j) = true :=
  slot_free fun e => hx _ (h.symm.trans e)
theorem advance_dummy (t : SetTable) (p : SetTable.Probe) : (t.advance p).dummy = p.dummy := by
  unfold SetTable.advance; split <;> rfl
theorem probe_free {t : SetTable} {h : Int} : ∀ (fuel : Nat) (p : SetTable.Probe) (j : Nat) (dm : Option Nat), (∀ d, p.dummy = some d → t.slot d = .dummy) → SetTable.probe.go t (fun _ => h + 1) h fuel p = some (.empty j dm) →
    t.slot j = .empty ∧ ∀ d, dm = some d → t.slot d = .dummy
  | 0, p, j, dm, _, e => by unfold SetTable.probe.go at e; cases e
  | fuel + 1, p, j, dm, hd, e => by
    unfold SetTable.probe.go at e
    cases hs : t.slot p.j with
    | empty => rw [hs] at e; cases e; exact ⟨hs, hd⟩
    | dummy =>
      rw [hs] at e
      refine probe_free fuel _ j dm (fun d q => ?_) e
      rw [advance_dummy] at q
      cases q; exact hs
    | live i =>
      rw [hs] at e
      dsimp only at e
      have hne : (h + 1 == h) = false := by rw [beq_eq_false_iff_ne]; omega
      rw [hne] at e
      exact probe_free fuel _ j dm (fun d q => hd d (by rw [advance_dummy] at q; exact q)) (by simpa using e)
theorem freeSlot_ok {t : SetTable} {h : Int} {slot : Nat} {b : Bool} (e : t.freeSlot h = some (slot, b)) : ¬ (t.place[SetTable.below t.place slot]? == some slot) = true := by
  unfold SetTable.freeSlot at e
  split at e
  · rename_i j dm hp
    obtain ⟨h1, h2⟩ := probe_free (t := t) (h := h) _ _ j dm (fun d q => by cases q) hp
    cases dm with
    | none => cases e; exact slot_not_live h1 (fun i q => by cases q)
    | some d => cases e; exact slot_not_live (h2 d rfl) (fun i q => by cases q)
  · cases e
theorem layNew_rise {t : SetTable} (h : Rise t.place) (es : Array (Int × Value)) (hh : Int) (x : Value) : Rise (layNew t es hh x).2.1.place ∧ (layNew t es hh x).2.1.led = t.led := by
  unfold layNew
  split
  · rename_i slot wd hf
    have hr := rise_insert h (freeSlot_ok hf)
    dsimp only
    unfold SetTable.orStandIn
    split
    · exact ⟨hr, rfl⟩
    · exact ⟨rise_range _, rfl⟩
  · exact ⟨rise_range _, rfl⟩
theorem relayAll_rise {t : SetTable} (h : Rise t.place) (es : Array (Int × Value)) (n : Nat) : Rise (relayAll t es n).2.1.place ∧ (relayAll t es n).2.1.led = t.led := by
  unfold relayAll
  split
  · rename_i t' order hl
    dsimp only
    split
    · unfold SetTable.relaid SetTable.laid at hl
      simp only [Option.bind_eq_bind, Option.bind_eq_some_iff, Option.pure_def, Option.some.injEq, Prod.mk.injEq] at hl
      obtain ⟨owner, _, rfl, _⟩ := hl
      refine ⟨?_, rfl⟩
      unfold Rise
      dsimp only
      have hsub : ∀ l : List Nat, ((l.filterMap fun j => (owner.getD j none).map fun x => (j, x)).map (·.1)).Sublist l := by
        intro l
        induction l with
        | nil => exact .slnil
        | cons a l ih =>
          rw [List.filterMap_cons]
          cases owner.getD a none with
          | none => exact ih.cons a
          | some p => exact ih.cons_cons a
      exact List.Pairwise.sublist (hsub _) List.pairwise_lt_range
    · exact ⟨rise_range _, rfl⟩
  · exact ⟨rise_range _, rfl⟩
end Mine
namespace Mine
def keyOf (e : Int × Value) : Int := match e.2 with | .int k _ => k | _ => 0
abbrev setObj (es : Array (Int × Value)) (ep : Nat) (t : SetTable) : Obj := { cls := .type "set", data := .set es ep t }
structure SetE (w : World) (es : Array (Int × Value)) (t : SetTable) : Prop where
  el : ∀ e ∈ es.toList, ∃ k u, e = (hashInt k, .int k u)
  nd : (es.toList.map keyOf).Nodup
  sz : es.size < scanBound
  fi : t.fits es.size = true
  ri : Rise t.place
  le : w.params.followText "set-order" = true ∨ t.led = true
theorem keys_er {es : List (Int × Value)} (h : ∀ e ∈ es, ∃ k u, e = (hashInt k, .int k u)) : es.map (fun e => er e.2) = (es.map keyOf).map I := by
  rw [List.map_map]
  refine List.map_congr_left fun e he => ?_
  obtain ⟨k, u, rfl⟩ := h e he
  rfl
section
variable {prog : Program} {w : World} {A : Around} {E : Value → Shared → Prop} {s : Shared}
theorem SetE.of {es : Array (Int × Value)} {t : SetTable} (h : SetE w es t) : ElemsOf (intKind prog w) es.toList := fun e he => by
  obtain ⟨k, u, rfl⟩ := h.el e he
  exact ⟨⟨k, isInt_self k u, rfl⟩, rfl⟩
theorem set_store {a : Addr} {es : Array (Int × Value)} {ep : Nat} {t : SetTable} {es' : Array (Int × Value)} {t' : SetTable} {Q : Unit → Shared → Prop} (ho : s.heap.get? a = some (setObj es ep t)) (hz : es'.size < scanBound)
    (h : ∀ h', Heap.SameBut a s.heap h' → h'.get? a = some (setObj es' (ep + 1) t') → Q () { s with heap := h' }) : wpAny (model prog w) A (storeSet a es' t') Q E s := by
  refine wpAny_storeSet_of ho rfl (h _ (Heap.SameBut.update ..) ?_) (fits_of_scanBound hz)
  have := Heap.get?_update_self (Obj.putSet es' t') ho (by rfl)
  exact this
theorem add_tail {g : Bool → Sem Unit} (hg : ∀ (b : Bool) (s₁ : Shared) (Q' : Unit → Shared → Prop), Q' () s₁ → wpAny (model prog w) A (g b) Q' E s₁)
    {a : Addr} {es : Array (Int × Value)} {ep : Nat} {t : SetTable} (ho : s.heap.get? a = some (setObj es ep t)) {es1 : Array (Int × Value)} {t2 : SetTable} (hE : SetE w es1 t2) {wd : Bool} {R : Option Bool → Shared → Prop}
    (h : ∀ h' es' ep' t', Heap.SameBut a s.heap h' → h'.get? a = some (setObj es' ep' t') → SetE w es' t' → es'.toList.Perm es1.toList → R (some true) { s with heap := h' }) :
    wpAny (model prog w) A (do
        storeSet a es1 t2
        if (!wd && t2.tooFull) = true then do
            g (relayAll t2 es1 (SetTable.grown es1.size)).2.2
            storeSet a (relayAll t2 es1 (SetTable.grown es1.size)).1 (relayAll t2 es1 (SetTable.grown es1.size)).2.1
            pure (some true)
          else pure (some true)) R E s := by
  refine wpAny_bind (set_store ho hE.sz fun h1 hs1 ho1 => ?_)
  split
  · have hp := relayAll_perm t2 es1 (SetTable.grown es1.size)
    have hf := relayAll_fits t2 es1 (SetTable.grown es1.size)
    have hr := relayAll_rise hE.ri es1 (SetTable.grown es1.size)
    generalize relayAll t2 es1 (SetTable.grown es1.size) = Rl at hp hf hr ⊢
    obtain ⟨es2, t3, gave2⟩ := Rl
    dsimp only at hp hf hr ⊢
    have hsz : es2.size = es1.size := by rw [← Array.length_toList, hp.length_eq, Array.length_toList]
    refine wpAny_bind (hg _ _ _ ?_)
    refine wpAny_bind (set_store (s := { s with heap := h1 }) ho1 (by rw [hsz]; exact hE.sz) fun h2 hs2 ho2 => ?_)
    exact wpAny_pure (h h2 _ _ _ (hs1.trans hs2) ho2 ⟨fun e he => hE.el e (hp.mem_iff.mp he), (hp.map keyOf).nodup_iff.mpr hE.nd, by rw [hsz]; exact hE.sz, hf, hr.1, by rw [hr.2]; exact hE.le⟩ hp)
  · exact wpAny_pure (h h1 _ _ _ hs1 ho1 hE (.refl _))
theorem set_put {a : Addr} {es : Array (Int × Value)} {ep : Nat} {t : SetTable} {k : Int} {u : Tok} {Q : Bool → Shared → Prop} (ho : s.heap.get? a = some (setObj es ep t)) (hE : SetE w es t) (hz : es.size + 1 < scanBound)
    (h : ∀ h' es' ep' t' r, Heap.SameBut a s.heap h' → h'.get? a = some (setObj es' ep' t') → SetE w es' t' → (∀ x, x ∈ es'.toList.map keyOf ↔ x = k ∨ x ∈ es.toList.map keyOf) → es'.size ≤ es.size + 1 → Q r { s with heap := h' }) :
    wpAny (model prog w) A (setAddHashed a (.int k u) (hashInt k)) Q E s := by
  have hel : ElemsOf (intKind prog w) es.toList := hE.of
  have hb := hE.sz
  have hf := hE.fi
  unfold setAddHashed setAddHashedIn
  refine wpAny_holding (wpAny_bind (wpAny_setState_of ho rfl hf ?_))
  dsimp only
  rw [byScan_of (knd := intKind prog w) rfl hb hel]
  simp only [↓reduceIte]
  unfold setAddByScan
  refine wpAny_bind ?_
  refine wpAny_bind (wpAny_rule ?_)
  refine wpAny_bind (wpAny_setScan_of (knd := intKind prog w) (k := k) (isInt_self k u) ho rfl hf hel ?_)
  cases hr : List.findIdx? (fun e => (intKind prog w).is k e.2) es.toList with
  | some j =>
    dsimp only
    obtain ⟨hj, hpj, _⟩ := List.findIdx?_eq_some_iff_getElem.mp hr
    have hin : k ∈ es.toList.map keyOf := by
      obtain ⟨k', u', e⟩ := hE.el _ (List.getElem_mem hj)
      rw [e] at hpj
      have hk : k = k' := by
        have hp' : Value.isInt k (Value.int k' u') = true := hpj
        obtain ⟨_, q⟩ := Value.isInt_shape hp'
        cases q; rfl
      subst hk
      exact List.mem_map.mpr ⟨_, List.getElem_mem hj, by rw [e]; rfl⟩
    refine wpAny_pure (wpAny_pure ?_)
    have e : s = { s with heap := s.heap } := by cases s; rfl
    rw [e]
    exact h s.heap es ep t _ (Heap.SameBut.refl a s.heap) ho hE (fun x => ⟨.inr, fun q => q.elim (fun q => q ▸ hin) id⟩) (Nat.le_succ _)
  | none =>
    dsimp only
    have hout : k ∉ es.toList.map keyOf := by
      intro hin
      obtain ⟨e, he, q⟩ := List.mem_map.mp hin
      obtain ⟨k', u', rfl⟩ := hE.el e he
      have q' : k' = k := q
      subst q'
      have := List.findIdx?_eq_none_iff.mp hr _ he
      rw [isInt_self] at this
      cases this
    have hperm := layNew_perm t es (hashInt k) (.int k u)
    have hfits := layNew_fits t es (hashInt k) (.int k u)
    have hris := layNew_rise hE.ri es (hashInt k) (.int k u)
    generalize hL : layNew t es (hashInt k) (.int k u) = L at hperm hfits hris ⊢
    obtain ⟨es1, t1, wasDummy, gave⟩ := L
    dsimp only at hperm hfits hris ⊢
    rw [Array.toList_push] at hperm
    have hel1 : ∀ e ∈ es1.toList, ∃ k u, e = (hashInt k, .int k u) := fun e he => by
      rcases List.mem_append.mp (hperm.mem_iff.mp he) with q | q
      · exact hE.el e q
      · rw [List.mem_singleton.mp q]; exact ⟨k, u, rfl⟩
    have hkp : (es1.toList.map keyOf).Perm (es.toList.map keyOf ++ [k]) := by simpa [keyOf] using hperm.map keyOf
    have hsz1 : es1.size = es.size + 1 := by rw [← Array.length_toList, hperm.length_eq, List.length_append, Array.length_toList]; rfl
    have hnd1 : (es1.toList.map keyOf).Nodup := by
      rw [hkp.nodup_iff, List.nodup_append]
      refine ⟨hE.nd, by simp, fun a ha b hb e => ?_⟩
      rw [List.mem_singleton] at hb
      rw [e, hb] at ha; exact hout ha
    have hmem1 : ∀ x, x ∈ es1.toList.map keyOf ↔ x = k ∨ x ∈ es.toList.map keyOf := fun x => by
      rw [hkp.mem_iff, List.mem_append, List.mem_singleton, or_comm]
    have hE1 : SetE w es1 t1 := ⟨hel1, hnd1, by rw [hsz1]; exact hz, hfits, hris.1, by rw [hris.2]; exact hE.le⟩
    have fin : ∀ h' es' ep' t', Heap.SameBut a s.heap h' → h'.get? a = some (setObj es' ep' t') → SetE w es' t' → es'.toList.Perm es1.toList → ∀ r, Q r { s with heap := h' } := fun h' es' ep' t' q1 q2 q3 q4 r =>
      h h' es' ep' t' r q1 q2 q3 (fun x => by rw [(q4.map keyOf).mem_iff, hmem1]) (by rw [← Array.length_toList, q4.length_eq, Array.length_toList, hsz1]; exact Nat.le_refl _)
    have hg : ∀ (b : Bool) (s₁ : Shared) (Q' : Unit → Shared → Prop), Q' () s₁ → wpAny (model prog w) A (match b with | true => rule "set.scan.the-table-gave-way" | false => pure ()) Q' E s₁ :=
      fun b s₁ Q' hq => by cases b <;> first | exact wpAny_pure hq | exact wpAny_rule hq
    have hend : ∀ h' es' ep' t', Heap.SameBut a s.heap h' → h'.get? a = some (setObj es' ep' t') → SetE w es' t' → es'.toList.Perm es1.toList →
        wpAny (model prog w) A (match some true with | some added => pure added | none => setAddHashedIn a (.int k u) (hashInt k) 99999) Q E { s with heap := h' } := fun h' es' ep' t' q1 q2 q3 q4 => wpAny_pure (fin h' es' ep' t' q1 q2 q3 q4 _)
    refine wpAny_bind ?_
    · cases gave
      · refine wpAny_pure ?_
        split
        · refine wpAny_bind ?_
          rw [hashByValue_scannable 8 rfl]
          refine wpAny_pure ?_
          simp only [plainKind, ↓reduceIte]
          exact add_tail (by intro b s₁ Q' hq; cases b <;> first | exact wpAny_pure hq | exact wpAny_rule hq) ho hE1 fun h' es' ep' t' q1 q2 q3 q4 => hend h' es' ep' t' q1 q2 q3 q4
        · refine wpAny_bind (wpAny_pure ?_)
          simp only [↓reduceIte]
          exact add_tail (by intro b s₁ Q' hq; cases b <;> first | exact wpAny_pure hq | exact wpAny_rule hq) ho hE1 fun h' es' ep' t' q1 q2 q3 q4 => hend h' es' ep' t' q1 q2 q3 q4
      · refine wpAny_rule ?_
        split
        · refine wpAny_bind ?_
          rw [hashByValue_scannable 8 rfl]
          refine wpAny_pure ?_
          simp only [plainKind, ↓reduceIte]
          exact add_tail (by intro b s₁ Q' hq; cases b <;> first | exact wpAny_pure hq | exact wpAny_rule hq) ho hE1 fun h' es' ep' t' q1 q2 q3 q4 => hend h' es' ep' t' q1 q2 q3 q4
        · refine wpAny_bind (wpAny_pure ?_)
          simp only [↓reduceIte]
          exact add_tail (by intro b s₁ Q' hq; cases b <;> first | exact wpAny_pure hq | exact wpAny_rule hq) ho hE1 fun h' es' ep' t' q1 q2 q3 q4 => hend h' es' ep' t' q1 q2 q3 q4
end
end Mine
namespace Mine
section
variable {prog : Program} {w : World} {A : Around} {E : Value → Shared → Prop} {s : Shared} {R : Result → Shared → Prop} {J : Addr} {fp wr : List Addr} {G : Array GenState → Array GenState → Prop} {n : Nat} {P : Nat → Value → Prop} {St : Nat → Shared → Prop}
/-- what a set holds after some numbers -/
def SetUpTo (w : World) (val : Nat → Int) (i : Nat) (S : Addr) (h : Heap) : Prop :=
  ∃ es ep t, h.get? S = some (setObj es ep t) ∧ SetE w es t ∧ (∀ x, x ∈ es.toList.map keyOf ↔ ∃ j < i, x = val j) ∧ es.size ≤ i
theorem update_loop (W : WalksS prog w A.in1 J fp wr G n P St) (S : Addr) (hSf : S ∉ fp) (val : Nat → Int) (hval : ∀ i v, P i v → ∃ t, v = .int (val i) t) (hb : n + 1 < scanBound) :
    ∀ (k i : Nat) (s : Shared), n - i = k → i ≤ n → St i s → SetUpTo w val i S s.heap →
      (∀ s', Moved (S :: wr) G s s' → SetUpTo w val n S s'.heap → R (.ok (.ret .none)) s') →
      codeAny (model prog w) A (.builtin "set.update.loop" ⟨[.ref S, .ref J], []⟩) R s := by
  have hSw : S ∉ wr := fun h => hSf (W.sub _ h)
  have hsub : ∀ b ∈ wr, b ∈ S :: wr := fun b hb => List.mem_cons_of_mem _ hb
  intro k
  induction k with
  | zero =>
    intro i s hk hi hst hS hR
    have hin : i = n := by omega
    subst hin
    refine codeAny_builtin PyProof.Rows.F.entry_set_update_loop ?_
    rw [Around.under_plainId PyProof.Rows.F.plain_set_update_loop _]
    show wpAny _ A.in1 (pyNext (.ref J) >>= _) _ _ s
    refine wpAny_bind (W.done s _ _ hst fun s' hm => ?_)
    show wpAny _ A.in1 (ret Value.none) _ _ s'
    obtain ⟨es, ep, t, ho, rest⟩ := hS
    exact wpAny_pure (hR s' (hm.mono hsub) ⟨es, ep, t, hm.heap S _ hSw ho, rest⟩)
  | succ k ih =>
    intro i s hk hi hst hS hR
    have hlt : i < n := by omega
    refine codeAny_builtin PyProof.Rows.F.entry_set_update_loop ?_
    rw [Around.under_plainId PyProof.Rows.F.plain_set_update_loop _]
    show wpAny _ A.in1 (pyNext (.ref J) >>= _) _ _ s
    refine wpAny_bind (W.item i s _ _ hlt hst fun v s' hP hst' hm => ?_)
    obtain ⟨t, rfl⟩ := hval i v hP
    obtain ⟨es, ep, tb, ho, hE, hmem, hsz⟩ := hS
    have ho' := hm.heap S _ hSw ho
    show wpAny _ A.in1 (holding [Value.int (val i) t] (setAdd S (.int (val i) t)) >>= _) _ _ s'
    refine wpAny_bind (wpAny_holding ?_)
    unfold setAdd
    refine wpAny_holding ?_
    refine wpAny_bind ((intKind prog w).pyHash (k := val i) (isInt_self _ _) ?_)
    refine set_put (s := { s' with toks := s'.toks + 1 }) ho' hE (by omega) fun h' es' ep' t' r hsb ho2 hE2 hmem2 hsz2 => ?_
    refine wpAny_pure ⟨plainId_quiet PyProof.Rows.F.plain_set_update_loop _, ih (i + 1) _ (by omega) hlt (W.frame _ s' _ _ hst' (Nat.le_succ _) fun b hb o e => ?_) ⟨es', ep', t', ho2, hE2, fun x => ?_, by omega⟩ fun s'' hm'' hS'' => ?_⟩
    · rw [hsb.2 b (fun h : b = S => hSf (by rw [← h]; exact hb))]; exact e
    · rw [hmem2, hmem]
      constructor
      · rintro (rfl | ⟨j, hj, rfl⟩)
        · exact ⟨i, by omega, rfl⟩
        · exact ⟨j, by omega, rfl⟩
      · rintro ⟨j, hj, rfl⟩
        by_cases e : j = i
        · exact .inl (by rw [e])
        · exact .inr ⟨j, by omega, rfl⟩
    · refine hR s'' (Moved.trans W.gtrans ((hm.mono hsub).then_heap (Nat.le_succ _) fun b o hb e => ?_) hm'') hS''
      rw [hsb.2 b (fun h : b = S => hb (by rw [h]; exact List.mem_cons_self))]; exact e

theorem code_set_new (a : Value) {Q₁ : Value → Shared → Prop}
    (h : Q₁ (.ref s.heap.objs.size) { s with heap := s.heap.push (setObj #[] 0 (.fresh 0 0 (!w.params.followText "set-order"))) }) :
    codeAny (model prog w) A (.call (.builtin "set.__new__") ⟨[.type "set", a], []⟩) (wants Q₁ E) s := by
  refine codeAny_of_tree ?_
  show wpAny _ A.in1 (do checkBuiltinCall "set.__new__" ⟨[.type "set", a], []⟩; again (.builtin "set.__new__" ⟨[.type "set", a], []⟩)) _ _ s
  refine wpAny_bind (wpAny_of_eq (PySem.F.newCall_set_1 a) (wpAny_pure ⟨plainId_quiet PySem.F.plain_set_new _, codeAny_builtin PySem.F.entry_set_new ?_⟩))
  rw [Around.under_plainId PySem.F.plain_set_new _]
  unfold Builtin.«set.__new__» Builtin.Frozenset.newClass
  have hsub := PySem.sub_set_self
  obtain ⟨hp, g, d, tk, os⟩ := s
  dsimp only
  wp_walk
  refine wpAny_askSetting (wpAny_pure ?_)
  dsimp only
  simp only [newObj]
  refine wpAny_bind (wpAny_alloc (wpAny_pure ?_))
  exact wpAny_pure h
end
end Mine
namespace Mine
section
variable {prog : Program} {w : World} {K : Frag} {A : Around} {E : Value → Shared → Prop} {s₀ s : Shared} {L : Addr} {m : List (Str × Value)} {P P' : Led} {d : Nat} {env : Env} {a b : Addr} {xs ys : List Value}
theorem code_set_init {l : Addr} {items : Array Value} {ns : List Int} {led : Bool} {s : Shared} (hh : A.handled = none) (hl : s.heap.IsList l items) (hi : PyProof.Rows.IntsAre items.toList ns) (hb : items.size + 1 < scanBound)
    {S : Addr} (hlt : l < S) (hend : S + 1 = s.heap.objs.size) (hS : s.heap.get? S = some (setObj #[] 0 (.fresh 0 0 led))) (hE : SetE w #[] (.fresh 0 0 led)) {R : Result → Shared → Prop}
    (h : ∀ (h' : Heap) (tk : Nat), SetUpTo w (fun i => ns.getD i 0) items.size S h' → (∀ b o, b < S → s.heap.get? b = some o → h'.get? b = some o) → R (.ok (.ret .none)) { s with heap := h', toks := tk }) :
    codeAny (model prog w) A (.call (.builtin "set.__init__") ⟨[.ref S, .ref l], []⟩) R s := by
  have hT : Shared.TypeIs s (.ref S) "set" := ⟨_, hS, rfl⟩
  refine codeAny_call_builtin PySem.F.called_set.init.plain PySem.F.entry_set_init (check_set_init_1 hT ?_)
  obtain ⟨ol, hol, hcl, nl, hdl⟩ := hl
  obtain ⟨ocls, odict, odata, oslots⟩ := ol
  simp only at hcl hdl
  subst hcl; subst hdl
  have hsls := PySem.F.sub_list_set
  have hslf := PySem.F.sub_list_frozenset
  have hne : (Value.type "list" == Value.type "dict") = false := by decide
  have hl1 : s.heap.IsList l items := ⟨_, hol, rfl, nl, rfl⟩
  unfold Builtin.«set.__init__» noKeywords Builtin.Frozenset.updateFrom
  generalize hPI : pyIter = PI
  obtain ⟨hp, g, dr, tk0, os⟩ := s
  dsimp only at *
  wp_walk
  subst hPI
  refine wpAny_pyIter_list (s := { heap := hp, gens := g, drawn := dr, toks := _, os := os }) hl1 ?_
  refine wpAny_bind (wpAny_runValue ?_)
  have hh3 : A.in1.in1.handled = none := by simp [hh]
  have hlt' : @LT.lt Nat _ l S := hlt
  have hend' : @Eq Nat (Nat.succ S) hp.objs.size := hend
  have hneI : l ≠ hp.objs.size := fun e => by have e' : @Eq Nat l hp.objs.size := e; omega
  have hSf : S ∉ [hp.objs.size, l] := by
    simp only [List.mem_cons, List.mem_singleton, List.not_mem_nil, or_false, not_or]
    exact ⟨fun e => by have e' : @Eq Nat S hp.objs.size := e; omega, fun e => by have e' : @Eq Nat S l := e; omega⟩
  have hval : ∀ (i : Nat) (v : Value), items[i]? = some v → ∃ t, v = .int ((fun i => ns.getD i 0) i) t := fun i v hv =>
    PyProof.Rows.IntsAre.int_at hi i v (by rw [Array.getElem?_toList]; exact hv)
  refine update_loop ((Walks.list hh3 _ l hneI items).toS) S hSf (fun i => ns.getD i 0) hval hb (items.size - 0) 0 { heap := hp.push { cls := .type "list_iterator", data := .fields #[.ref l, .int 0 0] }, gens := g, drawn := dr, toks := _, os := os } (by omega) (Nat.zero_le _)
    ⟨⟨_, Heap.get?_push_size _ rfl, rfl, rfl⟩, (hl1.push _)⟩ ?hS0 ?hR
  case hS0 => exact ⟨_, _, _, Heap.get?_push_of_some _ hS, hE, fun x => by simp, Nat.le_refl _⟩
  case hR =>
    intro s' hm hS'
    obtain ⟨h', g', d', tk', os'⟩ := s'
    have eg : g' = g := hm.gens
    have ed : d' = dr := hm.drawn
    have eo : os' = os := hm.os
    subst eg; subst ed; subst eo
    refine wpAny_pure ?_
    refine wpAny_pure (h h' tk' hS' fun b o hb e => ?_)
    exact hm.heap b o (by simp only [List.mem_cons, List.mem_singleton, List.not_mem_nil, or_false, not_or]; exact ⟨fun e => by have e' : @Eq Nat b S := e; have hb' : @LT.lt Nat _ b S := hb; omega, fun e => by have e' : @Eq Nat b hp.objs.size := e; have hb' : @LT.lt Nat _ b S := hb; omega⟩) (Heap.get?_push_of_some _ e)
end
end Mine
namespace Mine
section
variable {prog : Program} {w : World} {K : Frag} {A : Around} {E : Value → Shared → Prop} {s₀ s : Shared} {L : Addr} {m : List (Str × Value)} {P P' : Led} {d : Nat} {env : Env} {a b : Addr} {xs ys : List Value}
theorem SetE.fresh : SetE w #[] (.fresh 0 0 (!w.params.followText "set-order")) where
  el := fun e he => by simp at he
  nd := by simp
  sz := by decide
  fi := by rfl
  ri := by show List.Pairwise _ _; exact .nil
  le := by
    cases h : w.params.followText "set-order" with
    | true => exact .inl rfl
    | false => exact .inr rfl
/-- the set of a list of numbers -/
theorem set_list {ns : List Int} {Q : Value → Shared → Prop} (hh : A.handled = none) (S : Sim w s₀ L m P s) (hm : (a, .list (ns.map I)) ∈ P) (hb : ns.length + 1 < scanBound)
    (h : ∀ b es ep t s', SetE w es t → (∀ x, x ∈ es.toList.map keyOf ↔ x ∈ ns) → es.size ≤ ns.length → Sim w s₀ L m ((b, .raw (setObj es ep t)) :: P) s' → Q (.ref b) s') :
    wpAny (model prog w) A (call (.type "set") [.ref a]) Q E s := by
  obtain ⟨vs, hl, hv⟩ := S.isl hm
  have hlen : vs.length = ns.length := by have := congrArg List.length hv; simpa using this
  have hlt : a < s.heap.objs.size := by obtain ⟨o, ho, _⟩ := hl; exact Heap.lt_size ho
  obtain ⟨c, tl, hmro⟩ := PySem.F.called_set.mro
  have hmade := PySem.F.called_set.made
  have hsub := PySem.F.called_set.sub
  refine wpAny_call (codeAny_of_tree ?_)
  show wpAny _ _ (callAny (.type "set") _) _ _ _
  refine wpAny_pure ⟨Code.quiet_builtin _ (by decide +kernel), codeAny_builtin PySem.F.entry_type_call ?_⟩
  rw [Around.under_plain (weight_type_call_type "set" [.ref a] []) rfl]
  have h1 := PySem.F.called_set.notType
  have h2 := PySem.F.called_set.canCreate
  have hct := PySem.F.typeCall_set_1 (.ref a)
  repeat (any_goals (first | assumption | wp_step))
  refine codeAny_mono (code_set_new (.ref a) (E := E) (Q₁ := fun obj s₁ => obj = .ref s.heap.objs.size ∧ s₁ = { s with heap := s.heap.push (setObj #[] 0 (.fresh 0 0 (!w.params.followText "set-order"))) }) ⟨rfl, rfl⟩) fun r s₁ hr => ?_
  cases r with
  | error e => exact hr
  | ok fl =>
    cases fl with
    | ret obj =>
      obtain ⟨rfl, rfl⟩ := hr
      have hS : (s.heap.push (setObj #[] 0 (.fresh 0 0 (!w.params.followText "set-order")))).get? s.heap.objs.size = some (setObj #[] 0 (.fresh 0 0 (!w.params.followText "set-order"))) := Heap.get?_push_size _ rfl
      have hT : Shared.TypeIs { s with heap := s.heap.push (setObj #[] 0 (.fresh 0 0 (!w.params.followText "set-order"))) } (.ref s.heap.objs.size) "set" := ⟨_, hS, rfl⟩
      have hli := PySem.F.called_set.init.lookup
      have hbi := PySem.F.called_set.init.bind (.ref s.heap.objs.size)
      repeat (any_goals (first | assumption | wp_step))
      refine code_set_init (ns := ns) (items := vs.toArray) (by simp [hh]) (hl.push _) (ints_of hv) (by simpa [hlen] using hb) hlt (by rw [Heap.size_push]) hS SetE.fresh fun h' tk hU hk => ?_
      obtain ⟨es, ep, t, ho, hE, hmem, hsz⟩ := hU
      repeat (any_goals (first | assumption | wp_step))
      have fin := h s.heap.objs.size es ep t { s with heap := h', toks := tk } hE (fun x => ?_) (by simpa [hlen] using hsz) (S.push' (tk := tk) (fun b o e => hk b o (Heap.lt_size e) (Heap.get?_push_of_some _ e)) (Nat.le_refl _) ho rfl)
      · exact fin
      · rw [hmem]
        simp only [List.size_toArray, hlen]
        constructor
        · rintro ⟨j, hj, rfl⟩; simp [List.getD, hj]
        · intro hx
          obtain ⟨j, hj, rfl⟩ := List.mem_iff_getElem.mp hx
          exact ⟨j, hj, by simp [List.getD, hj]⟩
    | _ => exact hr.elim
end
end Mine
namespace Mine
theorem erase_perm {α : Type} : ∀ (l : List α) (i : Nat) (x : α), l[i]? = some x → l.Perm (x :: l.eraseIdx i)
  | [], i, x, h => by simp at h
  | y :: l, 0, x, h => by simp at h; subst h; exact .refl _
  | y :: l, i + 1, x, h => by
    have := erase_perm l i x (by simpa using h)
    rw [List.eraseIdx_cons_succ]
    exact (this.cons y).trans (.swap ..)
theorem pick_go {α : Type} (next : Nat → Nat) : ∀ (fuel k : Nat) (left : List α) (out : Array α), fuel = left.length → (pickOrder.go next fuel k left out).toList.Perm (out.toList ++ left)
  | 0, k, left, out, h => by
    have : left = [] := List.length_eq_zero_iff.mp h.symm
    subst this; unfold pickOrder.go; simp
  | fuel + 1, k, left, out, h => by
    have hlt : next k % left.length < left.length := Nat.mod_lt _ (by omega)
    have hx : left[next k % left.length]? = some left[next k % left.length] := List.getElem?_eq_getElem hlt
    unfold pickOrder.go
    rw [hx]
    dsimp only
    have ih := pick_go next fuel (k + 1) (left.eraseIdx (next k % left.length)) (out.push left[next k % left.length]) (by rw [List.length_eraseIdx_of_lt hlt]; omega)
    refine ih.trans ?_
    rw [Array.toList_push, List.append_assoc]
    exact (erase_perm left _ _ hx).symm.append_left _
theorem pickOrder_perm {α : Type} (next : Nat → Nat) (xs : Array α) : (pickOrder next xs).toList.Perm xs.toList := by
  unfold pickOrder
  simpa using pick_go next xs.size 0 xs.toList #[] (by simp)
section
variable {M : Model} {prog : Program} {w : World} {K : Frag} {A : Around} {E : Value → Shared → Prop} {s₀ s : Shared} {L : Addr} {m : List (Str × Value)} {P P' : Led} {d : Nat} {env : Env} {a b : Addr}
theorem any_choose {src : Source} {n : Nat} {Q : Nat → Shared → Prop} (hn : n ≠ 0) (h : ∀ i < n, ∀ dr, Q i { s with drawn := dr }) : wpAny M A (choose src n) Q E s := fun Γ p _ => by
  unfold choose
  rw [Sem.wp_choose]
  exact ⟨hn, by rw [Sem.wp_pure]; exact h _ (Nat.mod_lt _ (Nat.pos_of_ne_zero hn)) _⟩
theorem any_drawOrder {α : Type} : ∀ (n : Nat) (xs : List α) (s : Shared) {Q : List α → Shared → Prop}, n = xs.length → (∀ ys dr, ys.Perm xs → Q ys { s with drawn := dr }) → wpAny M A (drawOrder n xs) Q E s
  | 0, xs, s, Q, hn, h => by
    have : xs = [] := List.length_eq_zero_iff.mp hn.symm
    subst this
    exact wpAny_pure (h [] s.drawn (.refl _))
  | n + 1, [], s, Q, hn, h => by simp at hn
  | n + 1, x :: xs, s, Q, hn, h => by
    show wpAny M A (choose .order (x :: xs).length >>= _) Q E s
    refine wpAny_bind (any_choose (by simp) fun i hi dr => ?_)
    have hx : (x :: xs)[i]? = some (x :: xs)[i] := List.getElem?_eq_getElem hi
    rw [hx]
    refine wpAny_bind (any_drawOrder n _ _ (by rw [List.length_eraseIdx_of_lt hi]; simp at hn ⊢; omega) fun ys dr' hp => wpAny_pure ?_)
    exact h _ dr' ((hp.cons _).trans (erase_perm _ i _ hx).symm)
theorem any_byText {Q : Bool → Shared → Prop} (h : Q (M.w.params.followText "set-order") s) : wpAny M A setsByText Q E s := by
  unfold setsByText
  exact wpAny_bind (wpAny_askSetting (wpAny_pure h))
end
theorem slot_si_next : Slot "set_iterator" "__next__" "set_iterator.__next__" :=
  .of (owner := "set_iterator") (n := "__next__") (by rw [typeLookup_type, builtinLookup_eq_fast]; kernel_rfl) (by decide +kernel) (by decide +kernel) (by decide +kernel)
    (by first | exact .inl (by decide +kernel) | exact .inr (by decide +kernel)) (by rw [isSubtype_type]; kernel_rfl)
theorem entry_si_next : entryFor table "set_iterator.__next__" = some Builtin.«set_iterator.__next__» := entryFor_of_tree (by kernel_rfl)
theorem args_si_next (a : Value) : argsOk "set_iterator.__next__" ⟨[a], []⟩ := by unfold argsOk; kernel_rfl
theorem entry_set_iter : entryFor table "set.__iter__" = some Builtin.«frozenset.__iter__» :=
  entryFor_alias (id' := "frozenset.__iter__") (by kernel_rfl) rfl (by decide +kernel) (by kernel_rfl)
abbrev setIt (first : Value) (i : Nat) (b : Addr) (n ep : Nat) : Obj := { cls := .type "set_iterator", data := .fields #[first, .int i 0, .ref b, .int n 0, .int ep 0] }
end Mine
namespace Mine
section
variable {prog : Program} {w : World} {K : Frag} {A : Around} {E : Value → Shared → Prop} {s₀ s : Shared} {L : Addr} {m : List (Str × Value)} {P P' : Led} {d : Nat} {env : Env} {a b it : Addr} {es : Array (Int × Value)} {ep i slot : Nat} {t : SetTable}
theorem si_go {first : Value} {Q : Fin → Shared → Prop} (hit : s.heap.get? it = some (setIt first i b es.size ep)) (hb : s.heap.get? b = some (setObj es ep t)) (hf : t.fits es.size = true)
    (h : wpAny (model prog w) A (if let .int slot _ := first then do
    match ← setNext b slot.toNat (i : Int).toNat (ep : Int).toNat with
    | some (x, next) =>
      setField (.ref it) 0 (rawInt next)
      setField (.ref it) 1 (rawInt (i + 1))
      ret x
    | none => setField (.ref it) 2 .none; raiseNew (← newExc (.type "StopIteration") [])
  else do
    let some places ← seqItems? first | unsupported "internal:set_iterator"
    match places[(i : Int).toNat]? with
    | some (.int place _) =>
      let x ← setNextDrawn b place.toNat (ep : Int).toNat
      setField (.ref it) 1 (rawInt (i + 1))
      ret x
    | some _ => unsupported "internal:set_iterator"
    | none => setField (.ref it) 0 (rawInt 0); setField (.ref it) 2 .none; raiseNew (← newExc (.type "StopIteration") [])) Q E s) :
    wpAny (model prog w) A (Builtin.«set_iterator.__next__» ⟨[.ref it], []⟩) Q E s := by
  unfold Builtin.«set_iterator.__next__»
  refine wpAny_bind (m := slotArgs _ _ _) (wpAny_pure ?_)
  dsimp only
  refine wpAny_bind (wpAny_fieldsOf hit rfl ?_)
  show wpAny _ _ (setEntries b >>= _) _ _ _
  refine wpAny_bind (wpAny_setEntries_of hb rfl hf ?_)
  rw [if_neg (by simp)]
  exact h

theorem next_text {Q : Option (Value × Nat) → Shared → Prop} (hT : w.params.followText "set-order" = true) (hb : s.heap.get? b = some (setObj es ep t)) (hf : t.fits es.size = true)
    (h : Q (((pickOrder (w.params.setOrder b ep) es)[i]?).map fun e => (e.2, slot)) s) : wpAny (model prog w) A (setNext b slot i ep) Q E s := by
  unfold setNext
  refine wpAny_bind (wpAny_setState_of hb rfl hf ?_)
  dsimp only
  refine wpAny_bind (any_byText ?_)
  rw [if_pos (show (model prog w).w.params.followText "set-order" = true from hT), if_neg (by simp)]
  refine wpAny_bind (m := setWalk b) ?_
  unfold setWalk
  refine wpAny_bind (wpAny_setState_of hb rfl hf ?_)
  dsimp only
  refine wpAny_bind (any_byText ?_)
  rw [if_pos (show (model prog w).w.params.followText "set-order" = true from hT)]
  refine wpAny_bind (wpAny_askSetting (wpAny_pure ?_))
  exact wpAny_pure h
theorem next_led {Q : Option (Value × Nat) → Shared → Prop} (hT : w.params.followText "set-order" = false) (hl : t.led = true) (hd : (!t.plain && decide (es.size > 1)) = false) (hb : s.heap.get? b = some (setObj es ep t)) (hf : t.fits es.size = true)
    (h : Q (match es[SetTable.below t.place slot]?, t.place[SetTable.below t.place slot]? with
      | some (_, x), some j => some (x, j + 1)
      | _, _ => none) s) : wpAny (model prog w) A (setNext b slot i ep) Q E s := by
  unfold setNext
  refine wpAny_bind (wpAny_setState_of hb rfl hf ?_)
  dsimp only
  refine wpAny_bind (any_byText ?_)
  rw [if_neg (show ¬ (model prog w).w.params.followText "set-order" = true by show ¬ w.params.followText "set-order" = true; rw [hT]; decide)]
  rw [if_neg (by show ¬ (!t.plain && decide (es.size > 1)) = true; rw [hd]; decide)]
  refine wpAny_bind ?_
  show wpAny _ _ (if (!t.led && !es.isEmpty) = true then unsupported "set:maker-not-led" else pure ()) _ _ _
  rw [if_neg (by rw [hl]; simp)]
  exact wpAny_pure (wpAny_pure h)

theorem si_item {x : Value} {nx : Nat} {Q : Option Value → Shared → Prop} (hit : s.heap.get? it = some (setIt (.int slot 0) i b es.size ep)) (hb : s.heap.get? b = some (setObj es ep t)) (hf : t.fits es.size = true)
    (hn : ∀ (A' : Around) (E' : Value → Shared → Prop) (Q' : Option (Value × Nat) → Shared → Prop), Q' (some (x, nx)) s → wpAny (model prog w) A' (setNext b slot i ep) Q' E' s)
    (hq : ∀ h', Heap.SameBut it s.heap h' → h'.get? it = some (setIt (.int nx 0) (i + 1) b es.size ep) → Q (some x) { s with heap := h' }) : wpAny (model prog w) A (pyNext (.ref it)) Q E s := by
  have hT : s.TypeIs (.ref it) "set_iterator" := ⟨_, hit, rfl⟩
  unfold pyNext
  refine wpAny_bind (wpAny_attempt (wpAny_callSpecial?_slot (name := Str.ofString "__next__") hT slot_si_next
    (wpAny_call_entry slot_si_next hT entry_si_next ?_ (args_si_next _))))
  refine si_go hit hb hf ?_
  dsimp only
  simp only [Int.toNat_natCast]
  refine wpAny_bind (hn _ _ _ ?_)
  dsimp only
  refine wpAny_bind (wpAny_setField hit rfl (by simp) ?_)
  have g1 := Heap.get?_update_self (Obj.mapFields (·.setIfInBounds 0 (rawInt nx))) hit (by rfl)
  refine wpAny_bind (wpAny_setField (s := { s with heap := s.heap.update it (Obj.mapFields (·.setIfInBounds 0 (rawInt nx))) }) g1 rfl (by simp) (wpAny_pure ⟨x, rfl, wpAny_pure (hq _ ?_ ?_)⟩))
  · exact (Heap.SameBut.update ..).trans (Heap.SameBut.update ..)
  · have := Heap.get?_update_self (Obj.mapFields (·.setIfInBounds 1 (rawInt ((i : Int) + 1)))) g1 (by rfl)
    exact this

theorem si_end {Q : Option Value → Shared → Prop} (hh : A.handled = none) (hit : s.heap.get? it = some (setIt (.int slot 0) i b es.size ep)) (hb : s.heap.get? b = some (setObj es ep t)) (hf : t.fits es.size = true)
    (hn : ∀ (A' : Around) (E' : Value → Shared → Prop) (Q' : Option (Value × Nat) → Shared → Prop), Q' none s → wpAny (model prog w) A' (setNext b slot i ep) Q' E' s)
    (hq : ∀ h', Heap.ExtBut it s.heap h' → Q none { s with heap := h' }) : wpAny (model prog w) A (pyNext (.ref it)) Q E s := by
  have hT : s.TypeIs (.ref it) "set_iterator" := ⟨_, hit, rfl⟩
  unfold pyNext
  refine wpAny_bind (wpAny_attempt (wpAny_callSpecial?_slot (name := Str.ofString "__next__") hT slot_si_next
    (wpAny_call_entry slot_si_next hT entry_si_next ?_ (args_si_next _))))
  refine si_go hit hb hf ?_
  dsimp only
  simp only [Int.toNat_natCast]
  refine wpAny_bind (hn _ _ _ ?_)
  dsimp only
  refine wpAny_bind (wpAny_setField hit rfl (by simp) ?_)
  show wpAny _ _ (newExc (.type "StopIteration") [] >>= _) _ _ _
  refine wpAny_bind ?_
  simp only [newExc, newTuple]
  refine wpAny_bind (wpAny_newObj_type ?_ (by size_fits))
  refine wpAny_bind (m := firstArgMember _ _) (wpAny_of_eq (a := Value.none) (by first | rfl | (simp only [firstArgMember]; rfl)) ?_)
  refine wpAny_newObj_type ?_ (by size_fits)
  simp only [raiseNew]
  refine wpAny_bind (wpAny_handled ?_)
  rw [show A.in1.handled = none from hh]
  refine wpAny_bind (wpAny_pure (wpAny_throw ?_))
  refine wpAny_bind (wpAny_isInstance (T := "StopIteration") (b := true) ⟨_, Heap.get?_push_size _ rfl, rfl⟩ isSubtype_stop ?_)
  exact wpAny_pure (hq _ (((Heap.SameBut.update ..).extBut.push _).push _))

/-- a set whose order is drawn: the places stand in a tuple -/
theorem sd_item {tp : Addr} {tv : Array Value} {tn pl : Nat} {e : Int × Value} {Q : Option Value → Shared → Prop} (hit : s.heap.get? it = some (setIt (.ref tp) i b es.size ep)) (hb : s.heap.get? b = some (setObj es ep t)) (hf : t.fits es.size = true)
    (htp : s.heap.get? tp = some { cls := .type "tuple", data := .seq tv tn }) (hpl : tv[i]? = some (.int pl 0)) (he : es[pl]? = some e)
    (hq : ∀ h', Heap.SameBut it s.heap h' → h'.get? it = some (setIt (.ref tp) (i + 1) b es.size ep) → Q (some e.2) { s with heap := h' }) : wpAny (model prog w) A (pyNext (.ref it)) Q E s := by
  have hT : s.TypeIs (.ref it) "set_iterator" := ⟨_, hit, rfl⟩
  unfold pyNext
  refine wpAny_bind (wpAny_attempt (wpAny_callSpecial?_slot (name := Str.ofString "__next__") hT slot_si_next
    (wpAny_call_entry slot_si_next hT entry_si_next ?_ (args_si_next _))))
  refine si_go hit hb hf ?_
  dsimp only
  refine wpAny_bind (wpAny_seqItems htp rfl ?_)
  simp only [Int.toNat_natCast, hpl]
  refine wpAny_bind (m := setNextDrawn b pl ep) ?_
  unfold setNextDrawn
  refine wpAny_bind (wpAny_setState_of hb rfl hf ?_)
  dsimp only
  rw [if_neg (by simp), he]
  refine wpAny_pure ?_
  refine wpAny_bind (wpAny_setField hit rfl (by simp) (wpAny_pure ⟨e.2, rfl, wpAny_pure (hq _ (Heap.SameBut.update ..) ?_)⟩))
  exact Heap.get?_update_self (Obj.mapFields (·.setIfInBounds 1 (rawInt ((i : Int) + 1)))) hit (by rfl)
theorem sd_end {tp : Addr} {tv : Array Value} {tn : Nat} {Q : Option Value → Shared → Prop} (hh : A.handled = none) (hit : s.heap.get? it = some (setIt (.ref tp) i b es.size ep)) (hb : s.heap.get? b = some (setObj es ep t)) (hf : t.fits es.size = true)
    (htp : s.heap.get? tp = some { cls := .type "tuple", data := .seq tv tn }) (hpl : tv[i]? = none)
    (hq : ∀ h', Heap.ExtBut it s.heap h' → Q none { s with heap := h' }) : wpAny (model prog w) A (pyNext (.ref it)) Q E s := by
  have hT : s.TypeIs (.ref it) "set_iterator" := ⟨_, hit, rfl⟩
  unfold pyNext
  refine wpAny_bind (wpAny_attempt (wpAny_callSpecial?_slot (name := Str.ofString "__next__") hT slot_si_next
    (wpAny_call_entry slot_si_next hT entry_si_next ?_ (args_si_next _))))
  refine si_go hit hb hf ?_
  dsimp only
  refine wpAny_bind (wpAny_seqItems htp rfl ?_)
  simp only [Int.toNat_natCast, hpl]
  refine wpAny_bind (wpAny_setField hit rfl (by simp) ?_)
  have g1 := Heap.get?_update_self (Obj.mapFields (·.setIfInBounds 0 (rawInt 0))) hit (by rfl)
  refine wpAny_bind (wpAny_setField (s := { s with heap := s.heap.update it (Obj.mapFields (·.setIfInBounds 0 (rawInt 0))) }) g1 rfl (by simp) ?_)
  show wpAny _ _ (newExc (.type "StopIteration") [] >>= _) _ _ _
  refine wpAny_bind ?_
  simp only [newExc, newTuple]
  refine wpAny_bind (wpAny_newObj_type ?_ (by size_fits))
  refine wpAny_bind (m := firstArgMember _ _) (wpAny_of_eq (a := Value.none) (by first | rfl | (simp only [firstArgMember]; rfl)) ?_)
  refine wpAny_newObj_type ?_ (by size_fits)
  simp only [raiseNew]
  refine wpAny_bind (wpAny_handled ?_)
  rw [show A.in1.handled = none from hh]
  refine wpAny_bind (wpAny_pure (wpAny_throw ?_))
  refine wpAny_bind (wpAny_isInstance (T := "StopIteration") (b := true) ⟨_, Heap.get?_push_size _ rfl, rfl⟩ isSubtype_stop ?_)
  exact wpAny_pure (hq _ ((((Heap.SameBut.update ..).trans (Heap.SameBut.update ..)).extBut.push _).push _))
end
end Mine
namespace Mine
abbrev tupO (tv : Array Value) (tn : Nat) : Obj := { cls := .type "tuple", data := .seq tv tn }
inductive SMode (w : World) (it b : Addr) (es : Array (Int × Value)) (ep : Nat) (t : SetTable) (vs : List Value) (i : Nat) (h : Heap) : Prop
  | text : w.params.followText "set-order" = true → h.get? it = some (setIt (.int (0 : Nat) 0) i b es.size ep) → vs = (pickOrder (w.params.setOrder b ep) es).toList.map (·.2) → SMode w it b es ep t vs i h
  | led : w.params.followText "set-order" = false → t.led = true → (!t.plain && decide (es.size > 1)) = false → h.get? it = some (setIt (.int ((if i = 0 then 0 else t.place.getD (i - 1) 0 + 1 : Nat) : Int) 0) i b es.size ep) → vs = es.toList.map (·.2) → SMode w it b es ep t vs i h
  | drawn (tp : Addr) (tv : Array Value) (tn : Nat) (ps : List Nat) : h.get? it = some (setIt (.ref tp) i b es.size ep) → h.get? tp = some (tupO tv tn) → tp ≠ it → tv.toList = ps.map (fun p : Nat => Value.int p 0) → ps.Perm (List.range es.size) →
      vs = ps.map (fun p => (es.toList.map (·.2)).getD p .none) → SMode w it b es ep t vs i h
structure WSt (w : World) (it b : Addr) (es : Array (Int × Value)) (ep : Nat) (t : SetTable) (vs : List Value) (i : Nat) (h : Heap) : Prop where
  hb : h.get? b = some (setObj es ep t)
  hE : SetE w es t
  ne : b ≠ it
  hm : SMode w it b es ep t vs i h
theorem place_size {t : SetTable} {n : Nat} (h : t.fits n = true) : t.place.size = n := by
  simp only [SetTable.fits, Bool.and_eq_true, beq_iff_eq, decide_eq_true_eq] at h
  exact h.1
section
variable {prog : Program} {w : World} {K : Frag} {A : Around} {E : Value → Shared → Prop} {s₀ s : Shared} {L : Addr} {m : List (Str × Value)} {P P' : Led} {d : Nat} {env : Env} {a b it : Addr} {es : Array (Int × Value)} {ep i slot : Nat} {t : SetTable} {vs : List Value} {h : Heap}
theorem WSt.perm (x : WSt w it b es ep t vs i h) : vs.Perm (es.toList.map (·.2)) := by
  cases x.hm with
  | text _ _ e => rw [e]; exact (pickOrder_perm _ _).map _
  | led _ _ _ _ e => rw [e]
  | drawn tp tv tn ps _ _ _ _ hp e =>
    rw [e]
    refine (hp.map _).trans ?_
    have e2 : (List.range es.size).map (fun p => (es.toList.map (·.2)).getD p .none) = es.toList.map (·.2) := by
      apply List.ext_getElem
      · simp
      · intro j h1 h2
        simp only [List.length_map, List.length_range] at h1
        simp [List.getD, h1]
    rw [e2]
theorem WSt.len (x : WSt w it b es ep t vs i h) : vs.length = es.size := by simpa using x.perm.length_eq
theorem WSt.moved (x : WSt w it b es ep t vs i h) {h' : Heap} (hk : ∀ c o, h.get? c = some o → (c = b ∨ c = it ∨ o.cls = .type "tuple") → h'.get? c = some o) : WSt w it b es ep t vs i h' := by
  refine ⟨hk _ _ x.hb (.inl rfl), x.hE, x.ne, ?_⟩
  cases x.hm with
  | text q1 q2 q3 => exact .text q1 (hk _ _ q2 (.inr (.inl rfl))) q3
  | led q1 q2 q3 q4 q5 => exact .led q1 q2 q3 (hk _ _ q4 (.inr (.inl rfl))) q5
  | drawn tp tv tn ps q1 q2 q3 q4 q5 q6 => exact .drawn tp tv tn ps (hk _ _ q1 (.inr (.inl rfl))) (hk _ _ q2 (.inr (.inr rfl))) q3 q4 q5 q6
theorem WSt.item (x : WSt w it b es ep t vs i s.heap) (hi : i < vs.length) {Q : Option Value → Shared → Prop} (hq : ∀ h', Heap.SameBut it s.heap h' → WSt w it b es ep t vs (i + 1) h' → Q (some (vs[i]'hi)) { s with heap := h' }) :
    wpAny (model prog w) A (pyNext (.ref it)) Q E s := by
  have hn := x.len
  have hf := x.hE.fi
  have hps := place_size hf
  have keep : ∀ h', Heap.SameBut it s.heap h' → h'.get? b = some (setObj es ep t) := fun h' hs => (hs.2 b x.ne).trans x.hb
  cases x.hm with
  | text q1 q2 q3 =>
    refine si_item (x := vs[i]) (nx := 0) q2 x.hb hf (fun A' E' Q' hQ => next_text q1 x.hb hf ?_) fun h' hs hit' => hq h' hs ⟨keep h' hs, x.hE, x.ne, .text q1 hit' q3⟩
    have e : (pickOrder (w.params.setOrder b ep) es)[i]?.map (fun e => (e.2, 0)) = some (vs[i], 0) := by
      have h1 : vs[i]? = some vs[i] := List.getElem?_eq_getElem hi
      have h0 : vs[i]? = ((pickOrder (w.params.setOrder b ep) es)[i]?).map (·.2) := by rw [q3, List.getElem?_map, Array.getElem?_toList]
      rw [h1] at h0
      cases hz : (pickOrder (w.params.setOrder b ep) es)[i]? with
      | none => rw [hz] at h0; cases h0
      | some y => rw [hz] at h0; simp at h0; simp [h0]
    rw [e]; exact hQ
  | led q1 q2 q3 q4 q5 =>
    have hsl : SetTable.below t.place (if i = 0 then 0 else t.place.getD (i - 1) 0 + 1) = i := by
      by_cases h0 : i = 0
      · rw [if_pos h0, h0]; exact below_zero x.hE.ri
      · rw [if_neg h0]
        have := below_next x.hE.ri (i := i - 1) (by omega)
        rw [this]; omega
    refine si_item (x := vs[i]) (nx := t.place.getD i 0 + 1) q4 x.hb hf (fun A' E' Q' hQ => next_led q1 q2 q3 x.hb hf ?_) fun h' hs hit' => hq h' hs ⟨keep h' hs, x.hE, x.ne, .led q1 q2 q3 ?_ q5⟩
    · rw [hsl]
      have h2 : es[i]? = some (es[i]'(by omega)) := Array.getElem?_eq_getElem _
      have h3 : t.place[i]? = some (t.place[i]'(by omega)) := Array.getElem?_eq_getElem _
      rw [h2, h3]
      have e1 : vs[i] = (es[i]'(by omega)).2 := by simp [q5]
      have e2 : t.place.getD i 0 = t.place[i]'(by omega) := by simp [Array.getD, show i < t.place.size by omega]
      rw [e1, e2] at hQ
      exact hQ
    · rw [if_neg (by omega), Nat.add_sub_cancel]; exact hit'
  | drawn tp tv tn ps q1 q2 q3 q4 q5 q6 =>
    have hpl : ps.length = es.size := by simpa using q5.length_eq
    have hip : i < ps.length := by omega
    have hlt : ps[i] < es.size := List.mem_range.mp (q5.mem_iff.mp (List.getElem_mem hip))
    have h2 : es[ps[i]]? = some es[ps[i]] := Array.getElem?_eq_getElem hlt
    refine sd_item (pl := ps[i]) (e := es[ps[i]]) q1 x.hb hf q2 ?_ h2 fun h' hs hit' => ?_
    · rw [← Array.getElem?_toList, q4]; simp [hip]
    · have e1 : vs[i] = es[ps[i]].2 := by
        simp only [q6, List.getElem_map]
        simp [List.getD, hlt]
      rw [← e1]
      exact hq h' hs ⟨keep h' hs, x.hE, x.ne, .drawn tp tv tn ps hit' ((hs.2 tp q3).trans q2) q3 q4 q5 q6⟩
theorem WSt.stop (x : WSt w it b es ep t vs vs.length s.heap) (hh : A.handled = none) {Q : Option Value → Shared → Prop} (hq : ∀ h', Heap.ExtBut it s.heap h' → Q none { s with heap := h' }) :
    wpAny (model prog w) A (pyNext (.ref it)) Q E s := by
  have hn := x.len
  have hf := x.hE.fi
  have hps := place_size hf
  cases x.hm with
  | text q1 q2 q3 =>
    refine si_end hh q2 x.hb hf (fun A' E' Q' hQ => next_text q1 x.hb hf ?_) hq
    have e : (pickOrder (w.params.setOrder b ep) es)[vs.length]? = none := by
      rw [← Array.getElem?_toList]
      refine List.getElem?_eq_none ?_
      rw [(pickOrder_perm _ _).length_eq]; simp [hn]
    rw [e]; exact hQ
  | led q1 q2 q3 q4 q5 =>
    have hsl : SetTable.below t.place (if vs.length = 0 then 0 else t.place.getD (vs.length - 1) 0 + 1) = vs.length := by
      by_cases h0 : vs.length = 0
      · rw [if_pos h0, h0]; exact below_zero x.hE.ri
      · rw [if_neg h0]
        have := below_next x.hE.ri (i := vs.length - 1) (by omega)
        rw [this]; omega
    refine si_end hh q4 x.hb hf (fun A' E' Q' hQ => next_led q1 q2 q3 x.hb hf ?_) hq
    rw [hsl]
    have h2 : es[vs.length]? = none := Array.getElem?_eq_none (by omega)
    rw [h2]; exact hQ
  | drawn tp tv tn ps q1 q2 q3 q4 q5 q6 =>
    refine sd_end hh q1 x.hb hf q2 ?_ hq
    have hpl : ps.length = es.size := by simpa using q5.length_eq
    rw [← Array.getElem?_toList, q4]
    exact List.getElem?_eq_none (by simp; omega)
end
end Mine
namespace Mine
section
variable {prog : Program} {w : World} {K : Frag} {A : Around} {E : Value → Shared → Prop} {s₀ s : Shared} {L : Addr} {m : List (Str × Value)} {P P' : Led} {d : Nat} {env : Env} {a b it : Addr} {es : Array (Int × Value)} {ep i slot : Nat} {t : SetTable} {vs : List Value} {h : Heap}
theorem Sim.late (S : Sim w s₀ L m P s) {s' : Shared} (k : ∀ b o, s.heap.get? b = some o → s'.heap.get? b = some o) (h1 : s'.os = s.os) (h2 : s'.gens = s.gens) : Sim w s₀ L m P s' :=
  ⟨⟨h1.trans S.eq.1, h2.trans S.eq.2⟩, fun b o e => k b o (S.keep b o e), fun p hp => let ⟨ob, x, y⟩ := S.led p hp; ⟨ob, k _ _ x, y⟩, S.nd⟩
/-- iter of a set -/
theorem set_iter {Q : Value → Shared → Prop} (hb : s.heap.get? b = some (setObj es ep t)) (hE : SetE w es t)
    (h : ∀ it s' vs, s.heap.objs.size ≤ it → WSt w it b es ep t vs 0 s'.heap → (∀ c o, s.heap.get? c = some o → s'.heap.get? c = some o) → s'.os = s.os → s'.gens = s.gens → s'.toks = s.toks → Q (.ref it) s') :
    wpAny (model prog w) A (pyIter (.ref b)) Q E s := by
  have hT : s.TypeIs (.ref b) "set" := ⟨_, hb, rfl⟩
  have hf := hE.fi
  have hblt := Heap.lt_size hb
  refine wpAny_pyIter_slot hT PySem.F.slot_set_iter (wpAny_call_entry PySem.F.slot_set_iter hT entry_set_iter ?_ (PySem.F.args_set_iter_1 _))
  unfold Builtin.«frozenset.__iter__» Builtin.Frozenset.slot0 slotArgs
  simp only [List.isEmpty_nil, Bool.not_true, Bool.false_eq_true, ↓reduceIte, bind_assoc, List.length_nil, bne_self_eq_false]
  unfold Builtin.Frozenset.addrOf Builtin.Frozenset.sizeOf
  refine wpAny_bind (wpAny_pure ?_)
  try dsimp only
  refine wpAny_bind (wpAny_pure ?_)
  refine wpAny_bind (wpAny_bind (wpAny_setEntries_of hb rfl hf (wpAny_pure ?_)))
  refine wpAny_bind (m := setDrawn b) ?_
  unfold setDrawn
  refine wpAny_bind (wpAny_setState_of hb rfl hf ?_)
  dsimp only
  refine wpAny_bind (any_byText (wpAny_pure ?_))
  show wpAny _ _ (if (!w.params.followText "set-order" && (!t.plain && decide (es.size > 1))) = true then _ else _) _ _ _
  by_cases hc : (!w.params.followText "set-order" && (!t.plain && decide (es.size > 1))) = true
  · rw [if_pos hc]
    refine wpAny_bind (any_drawOrder _ _ _ (by simp) fun ps dr hp => ?_)
    have hz : (ps.map fun i : Nat => rawInt i).length ≤ sizeLine := by
      have := hp.length_eq
      have := hE.sz
      have h2 : scanBound = 4096 := rfl
      simp only [List.length_map, List.length_range] at *
      rw [sizeLine_eq]; omega
    refine wpAny_bind (wpAny_newTuple ?_ hz)
    have hb2 : (s.heap.push (tupO (ps.map fun i : Nat => rawInt i).toArray 0)).get? b = some (setObj es ep t) := Heap.get?_push_of_some _ hb
    refine wpAny_bind (wpAny_setEpoch_of (s := { s with heap := s.heap.push (tupO (ps.map fun i : Nat => rawInt i).toArray 0), drawn := dr }) hb2 rfl hf ?_)
    refine wpAny_bind (wpAny_newObj_type (wpAny_pure ⟨_, rfl, "set_iterator", _, ⟨_, Heap.get?_push_size _ rfl, rfl⟩, slot_si_next.lookup, ?_⟩))
    have e1 : (s.heap.push (tupO (ps.map fun i : Nat => rawInt i).toArray 0)).objs.size = s.heap.objs.size + 1 := Heap.size_push ..
    have hit : ((s.heap.push (tupO (ps.map fun i : Nat => rawInt i).toArray 0)).push (setIt (.ref s.heap.objs.size) 0 b es.size ep)).get? (s.heap.push (tupO (ps.map fun i : Nat => rawInt i).toArray 0)).objs.size = some (setIt (.ref s.heap.objs.size) 0 b es.size ep) := Heap.get?_push_size _ rfl
    have htp : ((s.heap.push (tupO (ps.map fun i : Nat => rawInt i).toArray 0)).push (setIt (.ref s.heap.objs.size) 0 b es.size ep)).get? s.heap.objs.size = some (tupO (ps.map fun i : Nat => rawInt i).toArray 0) := Heap.get?_push_of_some _ (Heap.get?_push_size _ rfl)
    refine h _ { s with heap := (s.heap.push (tupO (ps.map fun i : Nat => rawInt i).toArray 0)).push (setIt (.ref s.heap.objs.size) 0 b es.size ep), drawn := dr } _ (by rw [e1]; exact Nat.le_succ _) ⟨Heap.get?_push_of_some _ hb2, hE, ?_, .drawn s.heap.objs.size _ _ ps hit htp ?_ (by simp [rawInt]) hp rfl⟩ (fun c o e => Heap.get?_push_of_some _ (Heap.get?_push_of_some _ e)) rfl rfl rfl
    · rw [e1]; exact Nat.ne_of_lt (Nat.lt_succ_of_lt hblt)
    · rw [e1]; exact Nat.ne_of_lt (Nat.lt_succ_self _)
  · rw [if_neg hc]
    refine wpAny_bind (wpAny_pure ?_)
    refine wpAny_bind (wpAny_setEpoch_of hb rfl hf ?_)
    refine wpAny_bind (wpAny_newObj_type (wpAny_pure ⟨_, rfl, "set_iterator", _, ⟨_, Heap.get?_push_size _ rfl, rfl⟩, slot_si_next.lookup, ?_⟩))
    have hne : b ≠ s.heap.objs.size := Nat.ne_of_lt hblt
    have hit : (s.heap.push (setIt (.int (0 : Nat) 0) 0 b es.size ep)).get? s.heap.objs.size = some (setIt (.int (0 : Nat) 0) 0 b es.size ep) := Heap.get?_push_size _ rfl
    have hmode : ∃ vs, SMode w s.heap.objs.size b es ep t vs 0 (s.heap.push (setIt (.int (0 : Nat) 0) 0 b es.size ep)) := by
      cases hT : w.params.followText "set-order" with
      | true => exact ⟨_, .text hT hit rfl⟩
      | false =>
        rw [hT] at hc
        refine ⟨_, .led hT (hE.le.resolve_left (by rw [hT]; decide)) (by simpa using hc) hit rfl⟩
    obtain ⟨vs, hm⟩ := hmode
    exact h s.heap.objs.size { s with heap := s.heap.push (setIt (.int (0 : Nat) 0) 0 b es.size ep) } vs (Nat.le_refl _) ⟨Heap.get?_push_of_some _ hb, hE, hne, hm⟩ (fun c o e => Heap.get?_push_of_some _ e) rfl rfl rfl

theorem set_extend {S : Addr} {res : Value} (hh : A.handled = none) (hSi : S ≠ it) (hSb : S ≠ b) (hz : vs.length ≤ sizeLine) {R : Result → Shared → Prop} :
    ∀ (k i : Nat) (s : Shared) (acc : Array Value) (c : Nat), vs.length - i = k → i ≤ vs.length → WSt w it b es ep t vs i s.heap → s.heap.get? S = some { cls := .type "list", data := .seq acc c } → acc.toList = vs.take i →
      (∀ h' acc' c', (∀ x o, x ≠ S → x ≠ it → s.heap.get? x = some o → h'.get? x = some o) → h'.get? S = some { cls := .type "list", data := .seq acc' c' } → acc'.toList = vs → R (.ok (.ret res)) { s with heap := h' }) →
      codeAny (model prog w) A (.builtin "list.extend.loop" ⟨[.ref S, .ref it, res], []⟩) R s := by
  intro k
  induction k with
  | zero =>
    intro i s acc c hk hi hst hS hacc hR
    have hin : i = vs.length := by omega
    subst hin
    refine codeAny_builtin PySem.F.entry_extend_loop ?_
    rw [Around.under_plainId PySem.F.plain_extend_loop _]
    show wpAny _ A.in1 (pyNext (.ref it) >>= _) _ _ s
    refine wpAny_bind (hst.stop (prog := prog) (A := A.in1) hh fun h' hx => ?_)
    show wpAny _ A.in1 (ret res) _ _ _
    refine wpAny_pure (hR h' acc c (fun x o h1 h2 e => hx x o h2 e) (hx S _ hSi hS) ?_)
    rw [hacc]; exact List.take_of_length_le (Nat.le_refl _)
  | succ k ih =>
    intro i s acc c hk hi hst hS hacc hR
    have hlt : i < vs.length := by omega
    refine codeAny_builtin PySem.F.entry_extend_loop ?_
    rw [Around.under_plainId PySem.F.plain_extend_loop _]
    show wpAny _ A.in1 (pyNext (.ref it) >>= _) _ _ s
    refine wpAny_bind (hst.item hlt fun h' hx hst' => ?_)
    have hS' : h'.get? S = some { cls := .type "list", data := .seq acc c } := (hx.2 S hSi).trans hS
    have hal : acc.size ≤ sizeLine := by
      have := congrArg List.length hacc
      simp only [Array.length_toList, List.length_take] at this
      omega
    show wpAny _ A.in1 (Builtin.List.listUpdate (.ref S) (·.push vs[i]) >>= _) _ _ _
    unfold Builtin.List.listUpdate
    refine wpAny_bind (wpAny_updateSeq (s := { s with heap := h' }) hS' rfl ?_ (hz := by simpa using hal) (_hz' := by simp; omega))
    refine wpAny_pure ⟨plainId_quiet PySem.F.plain_extend_loop _, ?_⟩
    have hsb : Heap.SameBut S h' (h'.update S (Obj.mapSeq fun x => x.push vs[i])) := Heap.SameBut.update ..
    obtain ⟨c2, hS2⟩ : ∃ c2, (h'.update S (Obj.mapSeq fun x => x.push vs[i])).get? S = some { cls := .type "list", data := .seq (acc.push vs[i]) c2 } := ⟨_, Heap.get?_update_self (Obj.mapSeq fun x => x.push vs[i]) hS' (by rfl)⟩
    refine ih (i + 1) _ (acc.push vs[i]) c2 (by omega) hlt (hst'.moved fun x o e hx' => ?_) ?_ ?_ fun h'' acc' c' q1 q2 q3 => ?_
    · have hne : x ≠ S := by
        rcases hx' with rfl | rfl | hc
        · exact hSb.symm
        · exact hSi.symm
        · rintro rfl; rw [hS'] at e; cases e; exact absurd hc (by show Value.type "list" ≠ Value.type "tuple"; decide)
      exact (hsb.2 x hne).trans e
    · exact hS2
    · rw [Array.toList_push, hacc, List.take_add_one, List.getElem?_eq_getElem hlt]; rfl
    · refine hR h'' acc' c' (fun x o h1 h2 e => q1 x o h1 h2 ((hsb.2 x h1).trans ((hx.2 x h2).trans e))) q2 q3

theorem nolen_set : typeLookup (.type "set") "__len__" = pure (some (.builtin "set.__len__")) := by rw [typeLookup_type, builtinLookup_eq_fast]; kernel_rfl
theorem collect_set {Q : List Value → Shared → Prop} (hh : A.handled = none) (hb : s.heap.get? b = some (setObj es ep t)) (hE : SetE w es t)
    (h : ∀ s' vs, vs.Perm (es.toList.map (·.2)) → (∀ c o, s.heap.get? c = some o → s'.heap.get? c = some o) → s'.os = s.os → s'.gens = s.gens → Q vs s') :
    wpAny (model prog w) A (collect (.ref b)) Q E s := by
  have hblt := Heap.lt_size hb
  unfold collect
  refine wpAny_bind (wpAny_runValue (codeAny_builtin PySem.F.entry_proto_collect ?_))
  rw [Around.under_plainId PySem.F.plain_proto_collect _]
  show wpAny _ A.in1 (newList [] >>= fun l => again (.builtin "list.__iadd__" ⟨[l, .ref b], []⟩)) _ _ s
  refine wpAny_bind (wpAny_newObj_type ?_)
  refine wpAny_pure ⟨plainId_quiet PySem.F.plain_list_iadd _, codeAny_builtin PySem.F.entry_list_iadd ?_⟩
  rw [Around.under_plainId PySem.F.plain_list_iadd _]
  have hS : (s.heap.push { cls := .type "list", data := .seq ([] : List Value).toArray }).get? s.heap.objs.size = some { cls := .type "list", data := .seq ([] : List Value).toArray } := Heap.get?_push_size _ rfl
  have hb1 : (s.heap.push { cls := .type "list", data := .seq ([] : List Value).toArray }).get? b = some (setObj es ep t) := Heap.get?_push_of_some _ hb
  have hne : s.heap.objs.size ≠ b := (Nat.ne_of_lt hblt).symm
  have h1 : Builtin.List.listSameRef (.ref s.heap.objs.size) (.ref b) = false := by simp [Builtin.List.listSameRef, hne]
  show wpAny _ A.in1 (Builtin.List.listExtendWith (.ref s.heap.objs.size) (.ref b) (.ref s.heap.objs.size)) _ _ _
  unfold Builtin.List.listExtendWith
  refine wpAny_bind (wpAny_typeOf (T := "set") ⟨_, hb1, rfl⟩ ?_)
  rw [if_neg (by rw [h1]; decide)]
  refine wpAny_bind (set_iter (s := { s with heap := s.heap.push { cls := .type "list", data := .seq ([] : List Value).toArray } }) hb1 hE fun it s₁ vs hsz hst hk ho hg ht => ?_)
  have hz : vs.length ≤ sizeLine := by rw [hst.len]; exact fits_of_scanBound hE.sz
  have hS1 := hk _ _ hS
  have hSit : s.heap.objs.size ≠ it := by
    have : (s.heap.push { cls := .type "list", data := .seq ([] : List Value).toArray }).objs.size = s.heap.objs.size + 1 := Heap.size_push ..
    intro e
    have hsz' : (s.heap.push { cls := .type "list", data := .seq ([] : List Value).toArray }).objs.size ≤ it := hsz
    rw [this, ← e] at hsz'
    exact absurd hsz' (Nat.not_succ_le_self _)
  refine wpAny_bind (wpAny_holding ?_)
  unfold Builtin.List.listLengthHint
  refine wpAny_bind (wpAny_specialOf (T := "set") ⟨_, hst.hb, rfl⟩ nolen_set ?_)
  dsimp only
  rw [show splitId "set.__len__" = some ("set", "__len__") by decide +kernel]
  refine wpAny_bind (wpAny_isInstance (T := "set") (b := true) ⟨_, hst.hb, rfl⟩ (by rw [isSubtype_type]; kernel_rfl) ?_)
  rw [if_neg (by decide), if_pos (by decide +kernel)]
  refine wpAny_bind (wpAny_typeOf (T := "set") ⟨_, hst.hb, rfl⟩ ?_)
  refine wpAny_pure ?_
  rw [if_pos (by decide +kernel)]
  refine wpAny_bind (wpAny_rule ?_)
  unfold Builtin.List.listTouch Builtin.List.listUpdate
  refine wpAny_bind (wpAny_bind (wpAny_updateSeq hS1 rfl ?_ (hz := by simp) (_hz' := by simp)))
  obtain ⟨c1, hS2⟩ : ∃ c1, (s₁.heap.update s.heap.objs.size (Obj.mapSeq fun x => x.push Value.none)).get? s.heap.objs.size = some { cls := .type "list", data := .seq #[Value.none] c1 } := ⟨_, Heap.get?_update_self (Obj.mapSeq fun x => x.push Value.none) hS1 (by rfl)⟩
  refine wpAny_updateSeq (s := { s₁ with heap := s₁.heap.update s.heap.objs.size (Obj.mapSeq fun x => x.push Value.none) }) hS2 rfl ?_ (hz := by simp; decide) (_hz' := by simp)
  obtain ⟨c3, hS3⟩ : ∃ c3, ((s₁.heap.update s.heap.objs.size (Obj.mapSeq fun x => x.push Value.none)).update s.heap.objs.size (Obj.mapSeq fun x => x.pop)).get? s.heap.objs.size = some { cls := .type "list", data := .seq #[] c3 } := ⟨_, Heap.get?_update_self (Obj.mapSeq fun x => x.pop) hS2 (by rfl)⟩
  have sb1 : Heap.SameBut s.heap.objs.size s₁.heap (s₁.heap.update s.heap.objs.size (Obj.mapSeq fun x => x.push Value.none)) := Heap.SameBut.update ..
  have sb2 : Heap.SameBut s.heap.objs.size s₁.heap ((s₁.heap.update s.heap.objs.size (Obj.mapSeq fun x => x.push Value.none)).update s.heap.objs.size (Obj.mapSeq fun x => x.pop)) := sb1.trans (Heap.SameBut.update ..)
  refine wpAny_pure ⟨plainId_quiet PySem.F.plain_extend_loop _, set_extend (it := it) (b := b) (es := es) (ep := ep) (t := t) (vs := vs) hh hSit hne hz (vs.length - 0) 0 _ #[] c3 rfl (Nat.zero_le _) (hst.moved fun x o e hx => ?_) hS3 rfl fun h' acc' c' q1 q2 q3 => ?_⟩
  · refine (sb2.2 x ?_).trans e
    rcases hx with rfl | rfl | hc
    · exact hne.symm
    · exact hSit.symm
    · rintro rfl; rw [hS1] at e; cases e; exact absurd hc (by show Value.type "list" ≠ Value.type "tuple"; decide)
  · show wpAny _ A (load s.heap.objs.size >>= _) _ _ _
    refine wpAny_bind (wpAny_load q2 ?_)
    refine wpAny_pure ?_
    show Q acc'.toList _
    rw [q3]
    refine h _ vs hst.perm (fun x o e => ?_) ho hg
    have hx := Heap.lt_size e
    have n1 : x ≠ s.heap.objs.size := Nat.ne_of_lt hx
    have n2 : x ≠ it := by
      intro e2
      have hsz' : (s.heap.push { cls := .type "list", data := .seq ([] : List Value).toArray }).objs.size ≤ it := hsz
      rw [Heap.size_push, ← e2] at hsz'
      exact absurd (Nat.lt_of_lt_of_le hx (Nat.le_of_succ_le hsz')) (Nat.lt_irrefl _)
    exact q1 x o n1 n2 ((sb2.2 x n1).trans (hk _ _ (Heap.get?_push_of_some _ e)))
end
end Mine
namespace Mine
section
variable {prog : Program} {w : World} {K : Frag} {A : Around} {E : Value → Shared → Prop} {s₀ s : Shared} {L : Addr} {m : List (Str × Value)} {P P' : Led} {d : Nat} {env : Env} {a b it : Addr} {es : Array (Int × Value)} {ep i slot : Nat} {t : SetTable} {xs ys : List Value}
/-- sorted of a set's numbers -/
theorem sorted_set {Q : Value → Shared → Prop} (hh : A.handled = none) (S : Sim w s₀ L m P s) (hm : (b, .raw (setObj es ep t)) ∈ P) (hE : SetE w es t) (h64 : es.size < 64)
    (h : ∀ D (ns : List Int) s', ns.Perm (es.toList.map keyOf) → ns.Pairwise (· ≤ ·) → Sim w s₀ L m ((D, .list (ns.map I)) :: P) s' → Q (.ref D) s') :
    wpAny (model prog w) A (call (.builtin "sorted") [.ref b]) Q E s := by
  obtain ⟨ob, hb, hob, _⟩ := S.get hm
  cases hob
  refine Calls.call_function_entry kind_sorted plain_sorted entry_sorted (args_sorted1 _) ?_
  unfold Builtin.«sorted»
  refine wpAny_bind (m := checkCount "sorted" 1 1 _) (wpAny_pure ?_)
  refine wpAny_bind (collect_set (by simpa using hh) hb hE fun s' vs hp hk ho hg => ?_)
  have S' := S.late hk ho hg
  obtain ⟨ks, hks, hkv⟩ : ∃ ks : List Int, ks.Perm (es.toList.map keyOf) ∧ vs.map er = ks.map I := by
    have h1 : (vs.map er).Perm ((es.toList.map keyOf).map I) := by
      rw [← keys_er hE.el]
      have := hp.map er
      rwa [List.map_map] at this
    obtain ⟨ks, e⟩ := ints_all (xs := vs.map er) fun v hv => by
      obtain ⟨n, _, q⟩ := List.mem_map.mp (h1.mem_iff.mp hv)
      exact ⟨n, q.symm⟩
    refine ⟨ks, ?_, e⟩
    rw [e] at h1
    have h2 := h1.map (fun v => match v with | Value.int i _ => i | _ => (0 : Int))
    simpa [List.map_map, Function.comp_def] using h2
  have hl : vs.length = es.size := by have := hp.length_eq; simpa using this
  refine wpAny_bind (wpAny_newList ?_ (by rw [hl, sizeLine_eq]; omega))
  have hoL : (s'.heap.push (seqObj "list" vs.toArray 0)).get? s'.heap.objs.size = some (seqObj "list" vs.toArray 0) := Heap.get?_push_size _ rfl
  show wpAny _ _ _ _ _ { s' with heap := s'.heap.push (seqObj "list" vs.toArray 0) }
  refine wpAny_bind (wpAny_holding (wpAny_call_entry slot_list_sort ⟨_, hoL, rfl⟩ entry_list_sort (list_sort_tree hoL (ints_of hkv) (by omega) fun out ns' a1 a2 a3 => ⟨_, rfl, ?_⟩) (args_list_sort _)))
  refine wpAny_pure ⟨_, rfl, h s'.heap.objs.size ns' _ (a2.trans hks) a3 ?_⟩
  obtain ⟨e, he⟩ := sortedHeap_at (out := out) hoL
  refine S'.push' (tk := s'.toks) (fun c o q => ?_) (Nat.le_refl _) he ⟨_, _, rfl, ?_⟩
  · have hlt := Heap.lt_size q
    rw [sortedHeap_old (Nat.ne_of_lt hlt) (by rw [Heap.size_push]; exact Nat.lt_succ_of_lt hlt)]
    exact Heap.get?_push_of_some _ q
  · exact of_ints a1
end
end Mine
namespace Mine
section
variable {prog : Program} {w : World} {K : Frag} {A : Around} {E : Value → Shared → Prop} {s₀ s : Shared} {L : Addr} {m : List (Str × Value)} {P P' : Led} {d : Nat} {env : Env}
end
end Mine
namespace Mine
section
variable {prog : Program} {w : World} {K : Frag} {A : Around} {E : Value → Shared → Prop} {s₀ s : Shared} {L : Addr} {m : List (Str × Value)} {P P' : Led} {d : Nat} {env : Env}
/-- a def with cells, the frames told -/
theorem call_defCF {f : Addr} {args : List Value} {binds : List (Str × Value)} {fd : FuncData} {body : List Stmt} {o : Obj} {Q : Value → Shared → Prop} {fs : List Env} (mL : List (Str × Value)) (ce : Addr → Led)
    (G : Gr K s₀.heap) (k : OK A (d + 1)) (F : Frames A L m P fs) (S : Sim w s₀ L m P s)
    (hf : K.lookup f = some o) (hd : o.data = .func fd) (hcd : codeIn K fd.code fd.qualname = true) (hb : fd.body = .stmts body) (hbind : bindArgs fd ⟨args, []⟩ = pure binds) (hcl : fd.closure = [])
    (hkind : (binds.all fun y => fd.scope.names.lookup y.1 == some .local || fd.scope.names.lookup y.1 == some .cell) = true)
    (hnd : ((cellsFrom 0 fd.scope.names []).map (·.1)).Nodup)
    (hmL : ∀ p ∈ mL, ((bindL (callEnvC fd 0 f).kindOf binds fun _ => none) p.1).map er = some p.2)
    (hce : ∀ L', (cellsFrom (L' + 1) fd.scope.names []).map (fun p => (p.2, MO.cell (((bindC (callEnvC fd 0 f).kindOf binds fun _ => none) p.1).map er))) = ce L')
    (h : ∀ L' s' A', Sim w s₀ L' mL (ce L' ++ (L, .frame m) :: P) s' → OK A' d → A'.frames = some (callEnvC fd L' f :: fs) →
      wpAny (model prog w) A' (execs body (callEnvC fd L' f)) (fun fl s'' => Q (retv fl) s'') noE s')
    (hco : fd.scope.isCoroutine = false := by rfl) (hgen : fd.scope.isGenerator = false := by rfl) (hk : fd.scope.kind = .function := by rfl) :
    wpAny (model prog w) A (call (.ref f) args) Q noE s := by
  have X := S.K_in G
  obtain ⟨p, l, mg, mb, T⟩ := G.T
  refine wpAny_call (codeAny_call_cells k.room (X _ _ hf) hd (T.nolimit.keeps S.keep) (codeRec_of X hcd) hb hbind hcl (kindsX hkind _) (fun s₁ x => ?_) hco hgen hk)
  have S₁ := frame_newC (mL := mL) S x (cellsFrom_names fd.scope.names 0 (s.heap.objs.size + 1) [] [] rfl ▸ hnd) hmL
  refine wpAny_mono (h _ _ _ (hce s.heap.objs.size ▸ S₁) k.deeper (by show A.frames.map _ = _; rw [F.1]; rfl)) (fun fl s' q => ?_) fun _ _ x => x.elim
  cases fl <;> exact q
end
end Mine
namespace Mine
section
variable {prog : Program} {w : World} {K : Frag} {A : Around} {E : Value → Shared → Prop} {s₀ s : Shared} {L : Addr} {m : List (Str × Value)} {P P' : Led} {d : Nat} {env : Env} {a : Addr} {xs : List Value}
end
end Mine
namespace Mine
/-- the ground of a text with makers -/
structure GM (K : Frag) (h : Heap) : Prop where
  G : Gr K h
  B : ∃ mg bm ob, h.Ns mainGlobals mg ∧ mg "__builtins__" = some (.ref bm) ∧ bm ≠ builtinsNs ∧ bm ≠ mainGlobals ∧ h.get? bm = some ob ∧ ob.cls = .type "module" ∧ ob.dict = some builtinsNs ∧ ob.data = .plain
abbrev tab1 (pos : Pos) (c' : Addr) : Array Value := #[rawInt pos.line, rawInt pos.col, .ref c']
def tabLed (Pt : Addr) (pos : Pos) : Option (Addr × Obj) → Led
  | none => [(Pt, .raw (tabObj #[]))]
  | some (c', oc) => [(Pt, .raw (tabObj (tab1 pos c'))), (c', .raw oc)]
def TabOK (q : Str) : Option (Addr × Obj) → Prop
  | none => True
  | some (_, oc) => ∃ vs t, oc.data = .fields vs ∧ vs[1]? = some (.str q t)
section
variable {prog : Program} {w : World} {K : Frag} {A : Around} {E : Value → Shared → Prop} {s₀ s : Shared} {L : Addr} {m : List (Str × Value)} {P P' R : Led} {d : Nat} {env : Env} {a : Addr} {xs : List Value}
theorem Sim.take (S : Sim w s₀ L m P s) {a o ob} (ha : s.heap.get? a = some ob) (r : RelO w o ob) (hf : Fresh s₀ a o) (hn : ∀ p ∈ (L, MO.frame m) :: P, p.1 ≠ a) : Sim w s₀ L m ((a, o) :: P) s := by
  refine ⟨S.eq, S.keep, fun p hp => ?_, ?_⟩
  · rcases List.mem_cons.mp hp with rfl | hp
    · exact S.led _ (.head _)
    · rcases List.mem_cons.mp hp with rfl | hp
      · exact ⟨ob, ha, r, hf⟩
      · exact S.led _ (.tail _ hp)
  · have nd := S.nd
    simp only [List.map_cons, List.nodup_cons, List.mem_cons, not_or] at nd ⊢
    refine ⟨⟨hn _ (.head _), nd.1⟩, fun q => ?_, nd.2⟩
    obtain ⟨p, hp, e⟩ := List.mem_map.mp q
    exact hn p (.tail _ hp) e
theorem Sim.below (S : Sim w s₀ L m P s) {a : Addr} (ha : s.heap.objs.size ≤ a) : ∀ p ∈ (L, MO.frame m) :: P, p.1 ≠ a := fun p hp e => by
  obtain ⟨ob, h1, _⟩ := S.led p hp
  have := Nat.lt_of_lt_of_le (Heap.lt_size h1) ha
  rw [e] at this
  exact Nat.lt_irrefl _ this
theorem keeps_fn {f : Addr} {o : Obj} {fd : FuncData} (hd : o.data = .func fd) (h : Heap) (X : h.get? f = some o) : ∃ k, (k = Keeper.frame ∨ k = Keeper.machine ∨ k = Keeper.boundFrame) ∧ Looks (model prog w) h (keeperOf (.ref f)) k := by
  refine ⟨.frame, .inl rfl, (Looks.ld (part := none) X).andThen ?_⟩
  rw [hd]
  exact .now

/-- a lambda is evaluated -/
theorem lam_new {params : Arguments} {body : Expr} {scope : Scope} {pos : Pos} {cl : List (Str × Addr)} {c Pt : Addr} {t : Option (Addr × Obj)} {Q : Value → Shared → Prop} (GMm : GM K s₀.heap) (C : CodeHd s₀.heap c Pt) (S : Sim w s₀ L m (tabLed Pt pos t ++ R) s) (ok : TabOK (env.qual ++ "<lambda>") t)
    (h : ∀ f c' oc pm ctv s', TabOK (env.qual ++ "<lambda>") (some (c', oc)) → Sim w s₀ L m ((f, .raw (kla_obj "<lambda>" (env.qual ++ "<lambda>") params body scope cl pm c' ctv)) :: (tabLed Pt pos (some (c', oc)) ++ R)) s' → Q (.ref f) s')
    (hcl : closureFor scope env = pure cl := by rfl) (hdef : defaultsOf params env = ([], []) := by rfl) (hge : env.globals = mainGlobals := by rfl) (hcode : env.code = .ref c := by rfl) :
    wpAny (model prog w) A (eval (.Lambda params body scope pos) env) Q E s := by
  obtain ⟨mg, bm, ob, hg, b1, b2, b3, b4, b5, b6, b7⟩ := GMm.B
  have hgs := hg.keeps S.keep
  have hPf : ∀ {x : MO}, (Pt, x) ∈ (L, MO.frame m) :: (tabLed Pt pos t ++ R) → s₀.heap.get? Pt = none := fun hx => by
    obtain ⟨_, _, _, q⟩ := S.led _ hx
    exact q.1
  refine kla_eval hdef ?_
  cases t with
  | none =>
    have hPm : (Pt, MO.raw (tabObj #[])) ∈ (L, MO.frame m) :: (tabLed Pt pos none ++ R) := .tail _ (.head _)
    have hP0 := hPf hPm
    obtain ⟨op, hP, hop, _⟩ := S.led _ hPm
    cases hop
    have hgP : mainGlobals ≠ Pt := fun q => by
      obtain ⟨o, es, ep, e, hd, _⟩ := hg
      rw [q, hP0] at e; cases e
    have hbP : bm ≠ Pt := fun q => by rw [q, hP0] at b4; cases b4
    refine kla_makeFunction hcl hge hgs hcode (C.keeps S.keep) hP trivial rfl hgP ⟨bm, ob, b1, b2, b3, hbP, S.keep _ _ b4, b5, b6, b7⟩ fun c' ctv h' tk hx hsz hlt hrec htb => ?_
    obtain ⟨c₂, oc, vs, t, e2, hoc, hd, hv⟩ := hrec
    cases e2
    have S1 : Sim w s₀ L m ((Pt, .raw (tabObj (tab1 pos c'))) :: R) { s with heap := h', toks := tk } := S.upd' (tk := tk) (P := (Pt, .raw (tabObj #[])) :: R) Upd.head hx htb rfl
    have S2 : Sim w s₀ L m ((c', .raw oc) :: (Pt, .raw (tabObj (tab1 pos c'))) :: R) { s with heap := h', toks := tk } := S1.take hoc rfl (S.new hsz) fun p hp => by
      have := S.below hsz
      rcases List.mem_cons.mp hp with rfl | hp
      · exact this _ (.head _)
      · rcases List.mem_cons.mp hp with rfl | hp
        · exact this (Pt, .raw (tabObj #[])) (.tail _ (.head _))
        · exact this p (.tail _ (.tail _ hp))
    have S3 := (S2.perm (P' := (Pt, .raw (tabObj (tab1 pos c'))) :: (c', .raw oc) :: R) (.swap ..)).push (tk := tk) (o := .raw (kla_obj "<lambda>" (env.qual ++ "<lambda>") params body scope cl ((mg "__name__").getD .none) c' ctv)) rfl
    exact h _ c' oc _ ctv _ ⟨vs, t, hd, hv⟩ S3
  | some p =>
    obtain ⟨c', oc⟩ := p
    have hPm : (Pt, MO.raw (tabObj (tab1 pos c'))) ∈ (L, MO.frame m) :: (tabLed Pt pos (some (c', oc)) ++ R) := .tail _ (.head _)
    have hP0 := hPf hPm
    obtain ⟨op, hP, hop, _⟩ := S.led _ hPm
    cases hop
    have hbP : bm ≠ Pt := fun q => by rw [q, hP0] at b4; cases b4
    refine kla_makeFunctionHit (cv := .ref c') hcl hge hgs hcode (C.keeps S.keep) hP (by show TriplesOk [rawInt pos.line, rawInt pos.col, .ref c']; trivial) (by show codeAmong pos [rawInt pos.line, rawInt pos.col, .ref c'] = _; simp [codeAmong, rawInt]) ⟨bm, ob, b1, b2, b3, hbP, S.keep _ _ b4, b5, b6, b7⟩ fun ctv h' tk hk hsz => ?_
    have S1 : Sim w s₀ L m (tabLed Pt pos (some (c', oc)) ++ R) { s with heap := h', toks := tk } := S.ext hk
    have S3 := S1.push (tk := tk) (o := .raw (kla_obj "<lambda>" (env.qual ++ "<lambda>") params body scope cl ((mg "__name__").getD .none) c' ctv)) rfl
    exact h _ c' oc _ ctv _ ok S3

/-- a lambda is called -/
theorem call_lam {f c' : Addr} {oc : Obj} {name qual : Str} {params : Arguments} {body : Expr} {scope : Scope} {cl : List (Str × Addr)} {pm ctv : Value} {args : List Value} {binds : List (Str × Value)} {Q : Value → Shared → Prop} (mL : List (Str × Value)) (G : Gr K s₀.heap) (k : OK A (d + 1)) (S : Sim w s₀ L m P s)
    (hm : (f, .raw (kla_obj name qual params body scope cl pm c' ctv)) ∈ P) (hc : (c', .raw oc) ∈ P) (ok : TabOK qual (some (c', oc)))
    (hbind : bindArgs (kla_fn name qual params body scope cl pm (.ref c') ctv) ⟨args, []⟩ = pure binds) (hloc : (binds.all fun x => decide (scope.names.lookup x.1 = some .local)) = true) (hmL : ∀ p ∈ mL, (binds.reverse.lookup p.1).map er = some p.2)
    (h : ∀ L' s' A', Sim w s₀ L' mL ((L, .frame m) :: P) s' → OK A' d → wpAny (model prog w) A' (eval body (envX qual scope L' f (.ref c') cl)) Q noE s')
    (hcell : ∀ x ∈ scope.names, x.2 ≠ .cell := by decide) (hco : scope.isCoroutine = false := by rfl) (hgen : scope.isGenerator = false := by rfl) (hk : scope.kind = .function := by rfl) :
    wpAny (model prog w) A (call (.ref f) args) Q E s := by
  obtain ⟨o1, hf, e1, _⟩ := S.get hm
  cases e1
  obtain ⟨o2, hcc, e2, _⟩ := S.get hc
  cases e2
  obtain ⟨vs, t, hd, hv⟩ := ok
  obtain ⟨p, l, mg, mb, T⟩ := G.T
  refine wpAny_call (kla_callFunE k.room hf rfl hco hgen rfl ⟨c', oc, vs, t, rfl, hcc, hd, hv⟩ ?_)
  rw [hbind]
  refine wpAny_pure (wpAny_newFunctionEnv hcell (locs hloc) (fun h₁ hn hsb => ⟨((T.nolimit).keeps S.keep).fresh _ hsb, kla_codeExpr ?_⟩) hk)
  have hk₁ : ∀ b o, s.heap.get? b = some o → h₁.get? b = some o := fun b o e => hsb.extBut b o (Nat.ne_of_lt (Heap.lt_size e)) (Heap.get?_push_of_some _ e)
  refine wpAny_mono (h s.heap.objs.size _ _ (frame_new2 S hn hk₁ hmL) k.deeper) (fun v s' q => q) fun _ _ x => x.elim
end
end Mine
namespace Mine
section
variable {M : Model} {A : Around} {E : Value → Shared → Prop} {s : Shared} {env : Env} {pos : Pos} {f : Value} {first : List Value} {Q : Value → Shared → Prop}
/-- a call whose callee a heap keeps -/
theorem callWith_P {P : Heap → Prop} {e : Expr} {rest : List Expr} (hk : ∀ h, P h → ∃ k, (k = Keeper.frame ∨ k = Keeper.machine ∨ k = Keeper.boundFrame) ∧ Looks M h (keeperOf f) k)
    (h : wpAny M A (spliced (backTo pos (starEach (e :: rest) env))) (fun vs s₁ => P s₁.heap ∧ wpAny M A (call f (first ++ vs)) Q E s₁) E s)
    (he : starEach (e :: rest) env = (false, eval e env) :: starEach rest env := by rfl) (hplain : (backTo pos (starEach rest env)).any (·.1) = false := by rfl) :
    wpAny M A (callWith pos f first (backTo pos (starEach (e :: rest) env)) []) Q E s := by
  rw [he] at h ⊢
  exact callWith_of (by show ((false || (backTo pos (starEach rest env)).any (·.1)) || false) = false; rw [hplain]; rfl) hk (evalArgs_plain h)
end
end Mine
namespace Mine
section
variable {prog : Program} {w : World} {K : Frag} {A : Around} {E : Value → Shared → Prop} {s₀ s : Shared} {L : Addr} {m : List (Str × Value)} {P P' R : Led} {d : Nat} {env : Env} {a b : Int} {t u : Tok} {Q : Value → Shared → Prop}
theorem o_fdiv (S : Sim w s₀ L m P s) (hb : b ≠ 0) (hp : Builtin.divisionGoesByPylong a b = false) (h : ∀ t s', Sim w s₀ L m P s' → Q (.int (a.fdiv b) t) s') : wpAny (model prog w) A (binaryOp .FloorDiv (.int a t) (.int b u)) Q E s :=
  floordiv_int hb (h _ _ S.toks) (.inl hp)
theorem int_divmod (S : Sim w s₀ L m P s) (hb : b ≠ 0) (hp : Builtin.divisionGoesByPylong a b = false) (h : ∀ D s', Sim w s₀ L m ((D, .tup [I (a.fdiv b), I (a.fmod b)]) :: P) s' → Q (.ref D) s') : wpAny (model prog w) A (call (.builtin "divmod") [.int a t, .int b u]) Q E s :=
  divmod_int hb (h _ _ (S.push (tk := s.toks + 1 + 1) ⟨_, _, rfl, by simp [er]⟩)) (.inl hp)
end
end Mine
namespace Mine
section
variable {prog : Program} {w : World} {K : Frag} {A : Around} {E : Value → Shared → Prop} {s₀ s : Shared} {L : Addr} {m : List (Str × Value)} {P P' R : Led} {d : Nat} {env : Env} {a : Addr} {k : Int} {t : Tok} {kvs : List (Int × Value)} {ep : Nat}
theorem turn_dict2a {kx vx target iter ifs target' iter' ifs' scope pos it acc} : compTurn (.DictComp kx vx [⟨target, iter, ifs, 0⟩, ⟨target', iter', ifs', 0⟩] scope pos) 0 it acc env = turnOf (.DictComp kx vx [⟨target, iter, ifs, 0⟩, ⟨target', iter', ifs', 0⟩] scope pos) 0 it acc env target iter ifs (do
    let x ← eval iter' env
    standAt iter'.pos
    let x ← foldedSetIterable iter' env x
    let i ← holding [x] (pyIter x)
    let _ ← runOwn (.compStart (.DictComp kx vx [⟨target, iter, ifs, 0⟩, ⟨target', iter', ifs', 0⟩] scope pos) 1 i acc env) env
    again (.compLoop (.DictComp kx vx [⟨target, iter, ifs, 0⟩, ⟨target', iter', ifs', 0⟩] scope pos) 0 it acc env)) := by rfl
theorem turn_dict2b {kx vx target iter ifs target' iter' ifs' scope pos it D} : compTurn (.DictComp kx vx [⟨target, iter, ifs, 0⟩, ⟨target', iter', ifs', 0⟩] scope pos) 1 it (.ref D) env = turnOf (.DictComp kx vx [⟨target, iter, ifs, 0⟩, ⟨target', iter', ifs', 0⟩] scope pos) 1 it (.ref D) env target' iter' ifs'
    ((do
      let kv ← eval kx env
      let vv ← holding [kv] (eval vx env)
      standAt { kx.pos with endLine := vx.pos.endLine, endCol := vx.pos.endCol }
      holding [kv, vv] (dictSet D kv vv)) >>= fun _ => again (.compLoop (.DictComp kx vx [⟨target, iter, ifs, 0⟩, ⟨target', iter', ifs', 0⟩] scope pos) 1 it (.ref D) env)) := by rfl
theorem emit_dict {D : Addr} {kx vx : Expr} {p : Pos} {c : Code} {Q : Fin → Shared → Prop} (h : wpAny (model prog w) A (eval kx env) (fun x s₁ => wpAny (model prog w) A (eval vx env) (fun y s₂ => wpAny (model prog w) A (dictSet D x y) (fun _ s₃ => Q (.again c) s₃) E s₂) E s₁) E s) :
    wpAny (model prog w) A ((do
      let kv ← eval kx env
      let vv ← holding [kv] (eval vx env)
      standAt p
      holding [kv, vv] (dictSet D kv vv)) >>= fun _ => again c) Q E s := by
  refine wpAny_bind (wpAny_bind (wpAny_mono h (fun x s₁ h₁ => wpAny_bind (wpAny_holding (wpAny_mono h₁ (fun y s₂ h₂ => wpAny_bind (wpAny_standAt (wpAny_holding (wpAny_mono h₂ (fun _ s₃ h₃ => wpAny_pure h₃) fun _ _ x => x)))) fun _ _ x => x))) fun _ _ x => x))
theorem newDict_ {Q : Value → Shared → Prop} (S : Sim w s₀ L m P s) (h : ∀ a s', Sim w s₀ L m ((a, .dict [] 0) :: P) s' → Q (.ref a) s') : wpAny (model prog w) A (newDict : Sem Value) Q E s := by
  unfold newDict newObj
  refine wpAny_bind (wpAny_alloc (wpAny_pure ?_))
  exact h _ _ (Sim.raw_dict (S.push (tk := s.toks) rfl))
theorem dict_comp {kx vx target iter : Expr} {ifs : List Expr} {gs : List Comprehension} {scope : Scope} {pos : Pos} {cl : List (Str × Addr)} {Q : Value → Shared → Prop}
    (hclos : closureFor scope env = pure cl)
    (h : wpAny (model prog w) A (eval iter env) (fun x s₁ => wpAny (model prog w) A (pyIter x) (fun it s₂ => wpAny (model prog w) A (newDict : Sem Value) (fun acc s₃ =>
      CompIn scope cl env (fun C cenv s₄ =>
        codeAny (model prog w) A (.compStart (.DictComp kx vx (⟨target, iter, ifs, 0⟩ :: gs) scope pos) 0 it acc cenv) (compPost (model prog w) A E none Q acc C) s₄) s₃) E s₂) E s₁) E s)
    (hs : ∀ x, foldedSetIterable iter env x = pure x := by intro _; rfl) (hkind : scope.kind = .function := by rfl) (hnames : ∀ x ∈ scope.names, x.2 = .local → scope.names.lookup x.1 = some .local := by decide) :
    wpAny (model prog w) A (eval (.DictComp kx vx (⟨target, iter, ifs, 0⟩ :: gs) scope pos) env) Q E s := by
  rw [arm_eval_DictComp]
  exact wpAny_comprehension_free (use := none) (g := ⟨target, iter, ifs, 0⟩) (gs := gs) rfl hs hclos hkind hnames (wpAny_mono h (fun _ _ h => wpAny_mono h (fun _ _ h => wpAny_mono h (fun _ _ h => h _ _ _) fun _ _ x => x) fun _ _ x => x) fun _ _ x => x)
theorem comp_startD {kx vx : Expr} {gens : List Comprehension} {scope : Scope} {pos : Pos} {dp : Nat} {it acc : Value} {target iter : Expr} {ifs : List Expr} {R : Result → Shared → Prop} (hg : gens[dp]? = some ⟨target, iter, ifs, 0⟩)
    (h0 : codeAny (model prog w) A (.compLoop (.DictComp kx vx gens scope pos) dp it acc env) R s)
    (h : wpAny (model prog w) A (pyIter it) (fun it' s' => it' = it ∧ s' = s) noE s) :
    codeAny (model prog w) A (.compStart (.DictComp kx vx gens scope pos) dp it acc env) R s := by
  refine codeAny_of_tree ?_
  show wpAny _ _ ((compStart (.DictComp kx vx gens scope pos) dp it acc env).onRaise (fun x => do noteFrame x env; standAt theWindowsPlace)) _ _ s
  refine wpAny_notedAt ?_
  unfold compStart
  simp only [clausesOf, hg]
  show wpAny _ _ (ask >>= _) _ _ s
  refine wpAny_bind (wpAny_askSetting (wpAny_ite ?_))
  split
  · exact wpAny_bind (wpAny_pure (wpAny_pure (And.intro rfl h0)))
  · refine wpAny_bind (wpAny_rule ?_)
    show wpAny _ _ (standAt iter.pos >>= _) _ _ s
    refine wpAny_bind (wpAny_standAt (wpAny_bind (wpAny_mono (wpAny_noRaise h) (fun it' s' h' => ?_) fun _ _ x => x)))
    obtain ⟨rfl, rfl⟩ := h'
    exact wpAny_pure (And.intro rfl h0)
theorem dict_setD {v : Value} {Q : Unit → Shared → Prop} (S : Sim w s₀ L m P s) (hm : (a, .dict kvs ep) ∈ P) (hz : kvs.length ≤ sizeLine)
    (h : ∀ ep' P' s', Mine.Upd a (.dict kvs ep) (.dict (dput kvs k (er v)) ep') P P' → Sim w s₀ L m P' s' → Q () s') : wpAny (model prog w) A (dictSet a (.int k t) v) Q E s := by
  obtain ⟨kvs', h1, h2⟩ := S.dict (prog := prog) hm
  have hlen : kvs'.length = kvs.length := by rw [← h2]; simp
  refine wpAny_dictSet_pairs (isInt_self k t) h1.dictOf (fun h' hd hs => ?_) (hlen ▸ hz)
  obtain ⟨ep', hd'⟩ := hd.dictAt
  obtain ⟨ob, g1, g2⟩ := relO_dict hd'
  rw [stored_er k v kvs' h1.nodup, h2] at g2
  obtain ⟨X, Y, rfl⟩ := List.append_of_mem hm
  have U : Mine.Upd a (.dict kvs ep) (.dict (dput kvs k (er v)) ep') (X ++ (a, .dict kvs ep) :: Y) (X ++ (a, .dict (dput kvs k (er v)) ep') :: Y) := .right .head
  exact h ep' _ _ U (S.upd (tk := s.toks + 1) U hs g1 g2)
theorem dict_putD {v : Value} {P₁ : Led} {Q : Unit → Shared → Prop} (S : Sim w s₀ L m P s) (hr : Rem (a, .dict kvs ep) P P₁) (hz : kvs.length ≤ sizeLine)
    (h : ∀ ep' s', Sim w s₀ L m ((a, .dict (dput kvs k (er v)) ep') :: P₁) s' → Q () s') : wpAny (model prog w) A (dictSet a (.int k t) v) Q E s := by
  refine dict_setD (S.at hr) (.head _) hz fun ep' P' s' U S' => ?_
  obtain ⟨X, Y, e1, e2⟩ := U.split
  cases X with
  | nil => cases e1; subst e2; exact h ep' _ S'
  | cons p X =>
    exfalso
    simp only [List.cons_append, List.cons.injEq] at e1
    obtain ⟨rfl, rfl⟩ := e1
    have nd := (S.at hr).nd
    simp at nd
end
end Mine
namespace Mine
theorem pick_butLast (xs : List Value) : pick xs none (some (-1)) none = xs.dropLast := by
  have := slicePick_butLast xs.toArray 1 (by decide)
  unfold pick
  rw [show (-1 : Int) = -((1 : Nat) : Int) from rfl, this, List.dropLast_eq_take]
  simp
section
variable {prog : Program} {w : World} {K : Frag} {A : Around} {E : Value → Shared → Prop} {s₀ s : Shared} {L : Addr} {m : List (Str × Value)} {P P' : Led} {d : Nat} {env : Env} {a : Addr} {xs : List Value}
theorem list_lastT {value slice : Expr} {u : Tok} {x : Value} {Q : Value → Shared → Prop} (S : Sim w s₀ L m P s) (hm : (a, .list xs) ∈ P) (hx : xs[xs.length - 1]? = some x) (h : All x fun v => Q v s)
    (hs : subscripted slice false (.ref a) (.int (-1) u) = operate [.ref a, .int (-1) u] (getItem (.ref a) (.int (-1) u)) := by with_unfolding_all rfl) :
    wpAny (model prog w) A (subscriptTail value slice (.ref a) (.int (-1) u)) Q E s := by
  obtain ⟨vs, h1, h2⟩ := S.isl hm
  refine tail_any h1.typeIs slot_list_getitem.lookup ?_ hs
  have hl : vs.length = xs.length := by rw [← h2]; simp
  have hp : 0 < xs.length := by
    refine Nat.pos_of_ne_zero fun e => ?_
    rw [List.length_eq_zero_iff.mp e] at hx; cases hx
  rw [← h2, List.getElem?_map] at hx
  cases q : vs[(vs.map er).length - 1]? with
  | none => rw [q] at hx; cases hx
  | some v =>
    rw [q] at hx
    refine wpAny_getItem_list_neg h1 (by decide) (by simp; omega) (by decide) (x := v) ?_ (h.of (Option.some.inj hx))
    rw [← q]
    simp only [List.size_toArray, List.length_map, List.getElem?_toArray]
    congr 1
    omega
end
end Mine
namespace Mine
section
variable {prog : Program} {w : World} {K : Frag} {A : Around} {E : Value → Shared → Prop} {s₀ s : Shared} {L : Addr} {m : List (Str × Value)} {P P' : Led} {d : Nat} {env : Env} {a b : Addr}
theorem hits_true {B : Around} {kb : List (Int × Value)} : ∀ (ka : List (Int × Value)), (∀ p ∈ ka.map er2, ∃ n, p.2 = I n ∧ dget (kb.map er2) p.1 = some (I n)) → KeqHits B s kb ka true
  | [], _ => .nil
  | (k, v) :: r, h => by
    obtain ⟨n, h1, h2⟩ := h (er2 (k, v)) (.head _)
    have ih := hits_true (B := B) (kb := kb) r fun p hp => h p (.tail _ hp)
    change er v = I n at h1
    have e : (valueAt kb k).map er = some (I n) := by rw [valueAt_er]; exact h2
    cases q : valueAt kb k with
    | none => rw [q] at e; cases e
    | some y =>
      rw [q] at e
      have hy : er y = I n := Option.some.inj e
      cases v <;> first | cases h1 | skip
      cases y <;> first | cases hy | skip
      rename_i t u
      have := KeqHits.hit (A := B) (s := s) (v := .int n t) (r := r) q (SeqAt.EqAt.int_int n t n u) ih
      simpa using this
theorem dict_eq_true {k1 k2 : List (Int × Value)} {e1 e2 : Nat} {Q : Value → Shared → Prop} (G : Gr K s₀.heap) (k : OK A d) (S : Sim w s₀ L m P s) (ha : (a, .dict k1 e1) ∈ P) (hb : (b, .dict k2 e2) ∈ P) (hl : k1.length = k2.length)
    (hv : ∀ p ∈ k1, ∃ n, p.2 = I n ∧ dget k2 p.1 = some (I n)) (h : Q (.bool true) s) : wpAny (model prog w) A (compareOp .Eq (.ref a) (.ref b)) Q E s := by
  obtain ⟨ka, a1, a2⟩ := S.dict (prog := prog) ha
  obtain ⟨kb, b1, b2⟩ := S.dict (prog := prog) hb
  have hl' : ka.length = kb.length := by
    have h1 := congrArg List.length a2
    have h2 := congrArg List.length b2
    simp at h1 h2; omega
  refine keq_eq (r := true) (S.notSys G ha) (S.notSys G hb) a1.dictOf b1.dictOf k.units (fun _ => hits_true ka ?_) ?_
  · rw [a2, b2]; exact hv
  · rw [hl', beq_self_eq_true]; exact h
end
end Mine
namespace Mine
def keptAt (p : Program) (is : List Nat) : List Stmt := is.filterMap fun i => p.main.body[i]?
def view : Program := { PySem.Challenge.pw_om0095_01 with main := { PySem.Challenge.pw_om0095_01.main with body := keptAt PySem.Challenge.pw_om0095_01 [0, 2, 5, 6, 8, 9, 10, 11, 12, 14, 15, 16, 17, 18, 19, 20, 21, 22, 23] } }
abbrev loose : List Str := [Str.ofString "_initial_missing", Str.ofString "reduce", Str.ofString "COMPILER_FLAG_NAMES", Str.ofString "_NodeInfo"]
set_option hygiene false in
local macro_rules | `(tactic| o_head $H) => `(tactic| refine holds_open (q := Mine.view) (loose := Mine.loose) (Xt := fun s => xlAt Mine.view [] s && recOk [] s) (XP := XL Mine.view []) (Yf := Hook.obs $H) (Ya := Hook.val $H) (YP := Hook.says $H) (N := 3324) (byRow2 "special-get-raises" (fun w => by kernel_rfl) (fun w => by kernel_rfl)) (Hook.of $H) (Hook.keeps $H) (fun s e => xl_of s (Bool.and_eq_true_iff.mp e).1) XL.keeps (by rfl) (by rfl) (by rfl) (fun s e => recFacts_of (Bool.and_eq_true_iff.mp e).2) (by rfl) (by first | assumption | decide +kernel) (by decide +kernel) ⟨rfl, rfl, rfl, rfl, rfl, by decide +kernel⟩ ?hw ?hc)
local macro_rules | `(tactic| o_law) => `(tactic| refine holds_law (by decide +kernel) fun said => ?_)
open_top hd for PySem.Challenge.rw_om0095_01
end Mine
namespace Mine
noncomputable abbrev K (w : World) : Frag := Mine.hd.heap_1 w.params
theorem aN2I {w} : AttrOK (K w) 154 "_node2info" := ⟨by rfl, by rfl, by rfl, by rfl, by rfl, by rfl⟩
theorem aRdy {w} : AttrOK (K w) 154 "_ready_nodes" := ⟨by rfl, by rfl, by rfl, by rfl, by rfl, by rfl⟩
theorem aPas {w} : AttrOK (K w) 154 "_npassedout" := ⟨by rfl, by rfl, by rfl, by rfl, by rfl, by rfl⟩
theorem aFin {w} : AttrOK (K w) 154 "_nfinished" := ⟨by rfl, by rfl, by rfl, by rfl, by rfl, by rfl⟩
theorem sNod {w} : SlotOK (K w) 57 "node" 58 0 := ⟨by rfl, by rfl, by rfl, by rfl, by rfl, by rfl, by rfl, by rfl, by rfl, by rfl, by decide⟩
theorem sNpr {w} : SlotOK (K w) 57 "npredecessors" 59 1 := ⟨by rfl, by rfl, by rfl, by rfl, by rfl, by rfl, by rfl, by rfl, by rfl, by rfl, by decide⟩
theorem sSuc {w} : SlotOK (K w) 57 "successors" 60 2 := ⟨by rfl, by rfl, by rfl, by rfl, by rfl, by rfl, by rfl, by rfl, by rfl, by rfl, by decide⟩
theorem mGet {w} : MethOK (K w) 154 "_get_nodeinfo" 97 := ⟨by rfl, by rfl, by rfl, by rfl⟩
theorem mPrep {w} : MethOK (K w) 154 "prepare" 109 := ⟨by rfl, by rfl, by rfl, by rfl⟩
theorem mReady {w} : MethOK (K w) 154 "get_ready" 116 := ⟨by rfl, by rfl, by rfl, by rfl⟩
theorem mAct {w} : MethOK (K w) 154 "is_active" 123 := ⟨by rfl, by rfl, by rfl, by rfl⟩
theorem mCyc {w} : MethOK (K w) 154 "_find_cycle" 144 := ⟨by rfl, by rfl, by rfl, by rfl⟩

set_option hygiene false
local macro_rules | `(tactic| ktf_call $t) => `(tactic| with_reducible show wpAny _ _ $t _ _ _)
local macro_rules | `(tactic| walk_at "ct") => `(tactic| (clear S; intro t s S))
local macro_rules | `(tactic| walk_at "cs") => `(tactic| (clear S; intro s S))
local macro_rules | `(tactic| walk_at "ci") => `(tactic| (clear S; intro it s S))
local macro_rules | `(tactic| walk_at "at") => `(tactic| (dsimp only [All, I, T]; (first | ((with_reducible show ∀ _ : Tok, _); intro t) | skip)))
local macro_rules | `(tactic| walk_at "ar") => `(tactic| (clear S; dsimp only [All, I, T]; (repeat ((with_reducible show ∀ _ : Tok, _); intro t)); intro s S))
local macro_rules | `(tactic| walk_at "mem") => `(tactic| first | exact List.Mem.head _ | (refine' List.Mem.tail _ ?mb; (case mb => walk_at "mem")) | assumption | (refine' List.mem_append_right _ ?mb; (case mb => walk_at "mem")) | (refine' List.mem_append_left _ ?mb; (case mb => walk_at "mem")))
local macro_rules | `(tactic| walk_at "upd") => `(tactic| first | exact Mine.Upd.head | (refine' Mine.Upd.tail ?ub; (case ub => walk_at "upd")) | assumption | (refine' Mine.Upd.right ?ub; (case ub => walk_at "upd")) | (refine' Mine.Upd.left ?ub; (case ub => walk_at "upd")))
local macro_rules | `(tactic| walk_at "rem") => `(tactic| first | exact Mine.Rem.head | (refine' Mine.Rem.tail ?rb; (case rb => walk_at "rem")) | (refine' Mine.Rem.right ?rb; (case rb => walk_at "rem")) | (refine' Mine.Rem.left ?rb; (case rb => walk_at "rem")))
local macro_rules | `(tactic| walk_at "rems") => `(tactic| first | exact Mine.Rems.head | exact Mine.Rems.all | (refine' Mine.Rems.tail ?rsb; (case rsb => walk_at "rems")) | (refine' Mine.Rems.right ?rsb; (case rsb => walk_at "rems")) | (refine' Mine.Rems.left ?rsb; (case rsb => walk_at "rems")))
local macro_rules | `(tactic| walk_at "sub") => `(tactic| first | exact Mine.SubM.refl | exact Mine.SubM.nil | ((with_reducible show Mine.SubM _ (_ :: _)); refine' Mine.SubM.cons ?sa ?sb; (case sa => walk_at "rem"); (case sb => walk_at "sub")) | ((with_reducible show Mine.SubM _ (_ ++ _)); refine' Mine.SubM.seg ?sa ?sb; (case sa => walk_at "rems"); (case sb => walk_at "sub")) | ((fail_if_success (with_reducible show Mine.SubM _ (_ :: _))); (first | refine' Mine.SubM.drop ?sb | refine' Mine.SubM.dropL ?sb); (case sb => walk_at "sub")))
local macro_rules | `(tactic| walk_at "vars") => `(tactic| repeat' (first | exact List.forall_mem_nil _ | (refine List.forall_mem_cons.mpr ⟨by rfl, ?_⟩)))
local macro_rules | `(tactic| walk_at "aok") => `(tactic| first | exact aN2I | exact aRdy | exact aPas | exact aFin)
local macro_rules | `(tactic| walk_at "sok") => `(tactic| first | exact sNpr | exact sSuc | exact sNod)
local macro_rules | `(tactic| walk_at "mok") => `(tactic| first | exact mGet | exact mAdd | exact mPrep | exact mReady | exact mAct | exact mDone | exact mCyc)
local macro_rules | `(tactic| walk_at "size") => `(tactic| first | size_fits | (simp only [List.length_map, sizeLine_eq]; omega) | (simp only [List.length_map, List.length_append, List.length_cons, List.length_nil, refs_len, sizeLine_eq]; omega) | (simp only [List.length_map, List.length_append, List.length_cons, List.length_nil, refs2_len, sizeLine_eq]; omega))
local macro_rules | `(tactic| walk_at "len") => `(tactic| first | (simp only [List.length_map]; omega) | (simp only [List.length_map, List.length_append, List.length_cons, List.length_nil, refs_len]; omega))
local macro_rules | `(tactic| walk_at "puta") => `(tactic| skip)
local macro_rules | `(tactic| walk_at "cells") => `(tactic| simp only [cellLed_l, cellLed_f, cellLed_g, cellLed_c, cellLed_n] at S)
local macro_rules | `(tactic| walk_at "st") => `(tactic| first
  | (ktf_call (execs (_ :: _) _); refine wpAny_execs_cons ?_)
  | (ktf_call (execs [] _); refine wpAny_execs_nil ?_)
  | (ktf_call (exec (Stmt.Return (some _) _) _); refine wpAny_Return_some ?_)
  | (ktf_call (exec (Stmt.If _ _ _ _) _); refine wpAny_If ?_)
  | (ktf_call (exec (Stmt.Assign [Expr.Name _ _] (Expr.ListComp _ (_ :: _) _ _) _) _); first | refine assign_comp (by rfl) (by rfl) ?_ | refine wpAny_Assign_Name ?_)
  | (ktf_call (exec (Stmt.Assign [Expr.Name _ _] _ _) _); refine wpAny_Assign_Name ?_)
  | (ktf_call (eval (Expr.ListComp _ (_ :: _) _ _) _); refine list_comp (by rfl) ?_)
  | ((with_reducible show CompIn _ _ _ _ _); refine comp_in S ?_; clear S; intro C s S; walk_at "cells")
  | (ktf_call (call (Value.type "range") _); (first | refine range1 S ?_ | refine range2 S ?_ | refine range3 S (by decide) (PyProof.noPylong_small (by omega)) ?_); (clear S; intro r tr1 tr2 tr3 s S))
  | (ktf_call (call (Value.type "enumerate") _); refine enum_list S (by walk_at "mem") ?_; clear S; intro e it s S)
  | (ktf_call (call (Value.builtin "dict.values") _); refine dict_vals G S (by walk_at "mem") ?_; clear S; intro vw s S)
  | (ktf_call (assign (Expr.Tuple [_, _] _ _) _ (Value.ref _)); refine assign_pair k.h S (by walk_at "mem") ?_; (walk_at "ar"))
  | (ktf_call (forIn [] true _); refine tests_nil ?_)
  | (ktf_call (forIn [_] true _); refine tests_one ?_)
  | (ktf_call ((do let x ← call (Value.builtin "list.append") [_, ← eval _ _]; pure ()) >>= _); refine emit_list ?_)
  | ((with_reducible show SliceEnd _ _ _ _ _); refine slice_two S (by walk_at "mem") (by walk_at "size") (by first | exact IsPart.none | exact IsPart.int _ _) (by first | exact IsPart.none | exact IsPart.int _ _) ?_; clear S; intro D s S; dsimp only [partOf] at S)
  | (ktf_call (exec (Stmt.Assign [Expr.Tuple _ _ _] _ _) _); first | refine Assign_Tuple ?_ | refine assign_swap ?_)
  | (ktf_call (unpackItems (Value.ref _) _ none); refine unpack2 k.h S (by walk_at "mem") rfl ?_; (walk_at "ar"; refine ⟨_, _, rfl, ?_⟩))
  | (ktf_call (exec (Stmt.Assign [Expr.Attribute _ _ _] _ _) _); refine plainObj_wpAny_Assign_Attribute ?_)
  | (ktf_call (exec (Stmt.Assign [Expr.Subscript _ _ _] _ _) _); refine wpAny_Assign_Subscript ?_)
  | (ktf_call (exec (Stmt.Assign [_, _] _ _) _); refine wpAny_Assign_two ?_)
  | (ktf_call (exec (Stmt.AugAssign (Expr.Name _ _) _ _ _) _); refine wpAny_AugAssign_Name ?_)
  | (ktf_call (exec (Stmt.AugAssign (Expr.Attribute _ _ _) _ _ _) _); refine wpAny_AugAssign_AttributeAny ?_)
  | (ktf_call (exec (Stmt.Expr _ _) _); refine wpAny_Expr_any ?_)
  | (ktf_call (exec (Stmt.For _ _ _ _ _) _); refine wpAny_For ?_)
  | (ktf_call (exec (Stmt.While _ _ _ _) _); refine wpAny_While ?_)
  | (ktf_call (pyIter (Value.ref _)); first | (refine list_iter S (by walk_at "mem") ?_; walk_at "ci") | (refine tup_iter S (by walk_at "mem") ?_; walk_at "ci") | (refine vals_iter S (by walk_at "mem") (by walk_at "mem") ?_; walk_at "ci") | (refine keys_iter G S (by walk_at "mem") ?_; walk_at "ci") | (refine iter_self (self_enum S (by walk_at "mem")) ?_))
  | (ktf_call (exec (Stmt.Delete [_] _) _); refine wpAny_Delete (wpAny_deleteEach_cons ?_))
  | (ktf_call (deleteEach [] _); refine wpAny_deleteEach_nil ?_)
  | (ktf_call (delete (Expr.Subscript _ _ _) _); refine wpAny_delete_Subscript ?_)
  | (ktf_call (exec (Stmt.Break _) _); refine wpAny_Break ?_)
  | (ktf_call (exec (Stmt.Continue _) _); refine wpAny_Continue ?_)
  | (ktf_call (isTrue (Expr.Compare _ [_] [_] _) _ _); refine wpAny_isTrue_Compare1 ?_)
  | (ktf_call (isTrue (Expr.UnaryOp UnaryOp.Not _ _) _ _); refine wpAny_isTrue_Not ?_)
  | (ktf_call (isTrue (Expr.Name _ _) _ _); refine wpAny_isTrue_value ?_)
  | (ktf_call (isTrue (Expr.BinOp _ _ _ _) _ _); refine wpAny_isTrue_value ?_)
  | (ktf_call (isTrue (Expr.Constant _ _ _) _ _); refine wpAny_isTrue_value ?_)
  | (ktf_call (call (Value.type "set") _); refine new_set S ?_; clear S; intro a s S)
  | (ktf_call (call (Value.builtin "iter") _); refine iter_list S (by walk_at "mem") ?_; walk_at "ci")
  | (ktf_call (compareOp CmpOp.In (Value.int _ _) (Value.ref _)); first | (refine set_in S (by walk_at "mem") ?_; walk_at "cs") | (refine dict_in G S (by walk_at "mem") ?_; walk_at "cs"))
  | (ktf_call (truthy (Value.ref _)); refine list_truthy S (by walk_at "mem") (by walk_at "len") ?_; walk_at "cs")
  | (ktf_call (eval (Expr.Call (Expr.Subscript _ _ _) _ [] _) _); refine Call_ ?_)
  | (ktf_call (callWith _ (Value.ref _) [] (backTo _ (starEach [] _)) []); refine callWith_w S (by walk_at "mem") ?_)
  | (ktf_call (isTrue (Expr.Call _ _ _ _) _ _); refine wpAny_isTrue_value ?_)
  | (ktf_call (eval (Expr.BinOp _ _ _ _) _); refine wpAny_BinOp ?_)
  | (ktf_call (eval (Expr.UnaryOp _ _ _) _); refine wpAny_UnaryOp ?_)
  | (ktf_call (eval (Expr.Compare _ [_] [_] _) _); refine wpAny_Compare1 ?_)
  | (ktf_call (eval (Expr.Constant (Const.int _) _ _) _); (first | with_reducible refine c_int S ?_ | refine c_int S ?_); walk_at "ct")
  | (ktf_call (eval (Expr.Constant (Const.str _) _ _) _); refine c_str S ?_; walk_at "ct")
  | (ktf_call (eval (Expr.Constant Const.none _ _) _); refine wpAny_Constant_none ?_)
  | (ktf_call (eval (Expr.Constant (Const.bool _) _ _) _); refine wpAny_Constant_bool ?_)
  | (ktf_call (eval (Expr.Name _ _) _); first
     | (refine name_local S (by rfl) ?_; walk_at "at")
     | (refine name_cell S (by rfl) (by walk_at "mem") ?_; walk_at "at")
     | (refine name_free S (by rfl) (by walk_at "mem") ?_; walk_at "at")
     | (refine name_glob G S (by rfl) ?_)
     | (refine name_boot G S (by rfl) (by boot_fast) ?_))
  | (ktf_call (loadName _ _); refine loadName_local S (by rfl) ?_; walk_at "at")
  | (ktf_call (storeName _ _ _); first
     | (refine store_local S ?_; walk_at "cs"; try dsimp only [er] at S)
     | (refine store_cell S (by rfl) (by walk_at "upd") ?_; walk_at "cs"; try dsimp only [er] at S))
  | (ktf_call (assign (Expr.Name _ _) _ _); refine wpAny_assign_Name ?_)
  | (ktf_call (assign (Expr.Subscript _ _ _) _ _); refine assign_Sub ?_)
  | (ktf_call (eval (Expr.Attribute _ _ _) _); refine Attribute_any_ ?_)
  | (ktf_call (eval (Expr.Subscript _ (Expr.Slice _ _ none _) _) _); refine sub_slice ?_)
  | (ktf_call (eval (Expr.Subscript _ (Expr.Slice _ _ (some _) _) _) _); refine wpAny_Subscript_Slice_step slot_list_getitem.lookup ?_)
  | (ktf_call (eval (Expr.Slice _ _ _ _) _); refine wpAny_Slice ?_)
  | (ktf_call (evalPart none _); refine wpAny_evalPart_none ?_)
  | (ktf_call (evalPart (some _) _); refine wpAny_evalPart_some ?_)
  | (ktf_call (binaryOp Operator.Add (Value.ref _) (Value.ref _)); refine list_add S (by walk_at "mem") (by walk_at "mem") (by walk_at "size") ?_; clear S; intro D s S)
  | (ktf_call (call (Value.type "int") _); refine call_int_int ?_)
  | (ktf_call (call (Value.builtin "sum") _); refine list_sum k.h S (by walk_at "mem") ?_; walk_at "ct")
  | (ktf_call (eval (Expr.Subscript _ _ _) _); refine Subscript_ ?_)
  | (ktf_call (eval (Expr.NamedExpr _ _ _) _); refine wpAny_NamedExpr ?_)
  | (ktf_call (eval (Expr.List _ _) _); refine List_ ?_)
  | (ktf_call (eval (Expr.Tuple _ _ _) _); refine Tuple_ ?_)
  | (ktf_call (eval (Expr.Dict [] [] _) _); refine new_dict S ?_; clear S; intro a s S)
  | (ktf_call (newList _); refine new_list S (by size_fits) ?_; clear S; intro a s S; try dsimp only [List.map, er] at S)
  | (ktf_call (newTuple _); refine new_tup S (by size_fits) ?_; clear S; intro a s S; try dsimp only [List.map, er] at S)
  | (ktf_call (spliced (backTo _ (starEach [] _))); refine wpAny_items_nil ?_)
  | (ktf_call (spliced (backTo _ (starEach (_ :: _) _))); refine wpAny_items_cons ?_)
  | (ktf_call (eval (Expr.Call (Expr.Name _ _) _ [] _) _); refine Call_Name rfl ?_)
  | (ktf_call (eval (Expr.Call (Expr.Attribute _ _ _) _ _ _) _); refine methodCall_KW ?_)
  | (ktf_call (callWith _ (Value.ref _) _ (backTo _ (starEach (_ :: _) _)) _); refine callWith_K (S.K_in G) (by rfl) ?_)
  | (ktf_call (callWith _ (Value.ref _) _ _ _); refine callWith_K0 (S.K_in G) (by rfl) ?_)
  | ((with_reducible show Frag.In _ _ ∧ _); refine ⟨S.K_in G, ?_⟩)
  | (ktf_call (setAttr (Value.ref _) _ _); first
     | (refine attr_set' (by walk_at "aok") G S (by walk_at "mem") (by walk_at "upd") (by exact Nat.le_of_ble_eq_true rfl) ?_; walk_at "cs"; (simp only [puta, er] at S); walk_at "puta")
     | (refine slot_set' (by walk_at "sok") G S (by walk_at "upd") (by walk_at "mem") ?_; walk_at "cs"; dsimp only [setAtL, er] at S))
  | (ktf_call (getAttr (Value.ref _) (Str.ofString "__next__") _); refine next_attr S (by walk_at "rem") ?_; clear S; intro u s S)
  | (ktf_call (getAttr (Value.ref _) _ _); first
     | (refine attr_get' (by walk_at "aok") G S (by walk_at "mem") (by walk_at "mem") (by rfl) (by rfl) ?_; (clear S; walk_at "at"; intro s S))
     | (refine slot_get' (by walk_at "sok") G S (by walk_at "mem") (by walk_at "mem") (by rfl) (by rfl) ?_; (clear S; walk_at "at"; intro s S)))
  | (ktf_call (getMethod (Value.ref _) _ _); first
     | (refine meth_inst' (by walk_at "mok") G S (by walk_at "mem") (by walk_at "mem") (by rfl) ?_)
     | (refine meth_list S (by walk_at "mem") F.slot_list_append F.type_list_append ?_)
     | (refine meth_dict S (by walk_at "mem") F.slot_dict_get F.type_dict_get ?_)
     | (refine meth_list S (by walk_at "mem") F.slot_list_index F.type_list_index ?_)
     | (refine meth_list S (by walk_at "mem") F.slot_list_pop F.type_list_pop ?_)
     | (refine meth_list S (by walk_at "mem") F.slot_list_clear F.type_list_clear ?_)
     | (refine meth_set S (by walk_at "mem") F.slot_set_add F.type_set_add ?_)
     | (refine meth_dict S (by walk_at "mem") F.slot_dict_values F.type_dict_values ?_)
     | (refine kmeth_dict G S (by rfl) rfl rfl F.slot_dict_get F.type_dict_get ?_))
  | (ktf_call (callWith _ (Value.builtin _) _ (backTo _ (starEach (_ :: _) _)) _); refine callWith_b ?_)
  | (ktf_call (callWith _ (Value.builtin _) _ _ _); refine callWith_b0 ?_)
  | (ktf_call (callWith _ (Value.type _) _ (backTo _ (starEach (_ :: _) _)) _); refine callWith_t ?_)
  | (ktf_call (callWith _ (Value.type _) _ _ _); refine callWith_t0 ?_)
  | (ktf_call (eval (Expr.BoolOp BoolOp.Or [_, _] _) _); refine wpAny_Or2 ?_)
  | (ktf_call (call (Value.type "bool") _); refine list_bool S (by walk_at "mem") (by walk_at "len") ?_; walk_at "cs")
  | (ktf_call (call (Value.type "tuple") _); refine list_tuple S (by walk_at "mem") (by walk_at "size") ?_; clear S; intro tp s S)
  | (ktf_call (call (Value.builtin "list.clear") _); refine list_clear S (by walk_at "upd") (by walk_at "size") ?_; walk_at "cs")
  | (ktf_call (call (Value.builtin "len") _); first | (refine list_len S (by walk_at "mem") (by walk_at "len") ?_; walk_at "ct") | (refine tup_len S (by walk_at "mem") (by walk_at "len") ?_; walk_at "ct"))
  | (ktf_call (call (Value.builtin "list.append") _); refine list_append S (by walk_at "upd") (by walk_at "size") ?_; walk_at "cs"; try dsimp only [er] at S)
  | (ktf_call (binaryOp Operator.Add (Value.int _ _) (Value.int _ _)); refine o_add S ?_; walk_at "ct")
  | (ktf_call (binaryOp Operator.Sub (Value.int _ _) (Value.int _ _)); refine o_sub S ?_; walk_at "ct")
  | (ktf_call (binaryOp Operator.BitAnd (Value.int _ _) (Value.int _ _)); refine o_and S ?_; walk_at "ct")
  | (ktf_call (binaryOp Operator.BitXor (Value.int _ _) (Value.int _ _)); refine o_xor S ?_; walk_at "ct")
  | (ktf_call (unaryOp UnaryOp.USub (Value.int _ _)); refine o_neg S ?_; walk_at "ct")
  | (ktf_call (binaryOp Operator.RShift (Value.int _ _) (Value.int _ _)); refine o_shr S (by omega) ?_; walk_at "ct")
  | (ktf_call (binaryOp Operator.Mod (Value.int _ _) (Value.int _ _)); refine o_mod S (by decide) ?_; walk_at "ct")
  | (ktf_call (binaryOp Operator.LShift (Value.int _ _) (Value.int _ _)); refine o_shl S (by omega) (by omega) (by decide) ?_; walk_at "ct")
  | (ktf_call (getMethod (Value.str _ _) _ _); first | refine getMethod_builtin (typeIs_str _ _ _) F.plainAttrs_str F.slot_str_join F.type_str_join (fun b e => by cases e) ?_ | refine getMethod_builtin (typeIs_str _ _ _) F.plainAttrs_str F.slot_str_split F.type_str_split (fun b e => by cases e) ?_)
  | (ktf_call (inplaceOp Operator.Add (Value.int _ _) (Value.int _ _)); refine o_iadd S ?_; walk_at "ct")
  | (ktf_call (inplaceOp Operator.Sub (Value.int _ _) (Value.int _ _)); refine o_isub S ?_; walk_at "ct")
  | (ktf_call (inplaceOp Operator.BitXor (Value.int _ _) (Value.int _ _)); refine o_ixor S ?_; walk_at "ct")
  | (ktf_call (compareOp CmpOp.Is (Value.int _ _) (Value.ref _)); refine wpAny_is_other rfl (fun e => by cases e) ?_)
  | (ktf_call (compareOp CmpOp.Is _ Value.none); refine is_none ?_)
  | (ktf_call (compareOp CmpOp.IsNot _ Value.none); refine isNot_none ?_)
  | (ktf_call (compareOp CmpOp.Eq (Value.int _ _) (Value.int _ _)); refine PySem.P.eq_int ?_)
  | (ktf_call (compareOp CmpOp.NotEq (Value.int _ _) (Value.int _ _)); refine PySem.P.ne_int ?_)
  | (ktf_call (compareOp CmpOp.Lt (Value.int _ _) (Value.int _ _)); refine PySem.P.lt_int ?_)
  | (ktf_call (compareOp CmpOp.GtE (Value.int _ _) (Value.int _ _)); refine PySem.P.ge_int ?_)
  | (ktf_call (truthy (Value.bool _)); refine wpAny_truthy_bool ?_)
  | (ktf_call (truthy Value.none); refine PyProof.Rows.truthy_none ?_)
  | (ktf_call (truthy (Value.int _ _)); refine PySem.P.truthy_int ?_))
local macro_rules | `(tactic| walk_at "go") => `(tactic| repeat (walk_at "st"; try dsimp only))

local macro_rules | `(tactic| walk_at "no") => `(tactic| (rw [if_neg (by first | decide | simp)]))
local macro_rules | `(tactic| walk_at "yes") => `(tactic| (rw [if_pos (by rfl)]))

local macro_rules | `(tactic| walk_at "subn") => `(tactic| ((try simp only [nodes_app, nodes_cons, nodes_nil, List.append_assoc, List.cons_append, List.nil_append]); walk_at "sub"))

section
variable {prog : Program} {w : World} {A : Around} {s₀ s : Shared} {L : Addr} {m : List (Str × Value)} {P R : Led} {d : Nat} {E : Value → Shared → Prop}

/-- the sorter's own attributes -/
abbrev tsA (N : Addr) (rd : Value) (po fi : Int) : MO := .attrs [(Str.ofString "_node2info", .ref N), (Str.ofString "_ready_nodes", rd), (Str.ofString "_npassedout", I po), (Str.ofString "_nfinished", I fi)]

theorem new_ts {Q : Value → Shared → Prop} (G : Gr (K w) s₀.heap) (k : OK A (d + 3)) (S : Sim w s₀ L m P s)
    (h : ∀ x dx N s', Sim w s₀ L m ((x, .inst 154 dx) :: (dx, tsA N .none 0 0) :: (N, .dict [] 0) :: P) s' → Q (.ref x) s') :
    wpAny (model prog w) A (call (.ref 154) []) Q E s := by
  refine make G k S (by rfl) (by rfl) (by rfl) fun x dx s A S k => ?_
  replace S := S.raw_inst
  refine code_def [(Str.ofString "self", .ref x), (Str.ofString "graph", .none)] G k S rfl rfl rfl rfl (binds_K (S.K_in G) rfl rfl rfl rfl rfl) (by decide) (by rfl) (by walk_at "vars") fun L' s A S k => ?_
  walk_at "go"
  walk_at "no"
  walk_at "go"
  replace S := (S.at (a := a) (by walk_at "rem")).raw_dict
  exact ⟨rfl, h x dx a _ (S.out (by walk_at "sub"))⟩
end

section
variable {prog : Program} {w : World} {A : Around} {s₀ s : Shared} {L : Addr} {m : List (Str × Value)} {P R : Led} {d : Nat} {E : Value → Shared → Prop}

/-- what a node's record holds -/
abbrev ndO (C dx l : Addr) (np key : Int) : MO := .slots C dx [some (I key), some (I np), some (.ref l)]

theorem new_info {n : Int} {t : Tok} {Q : Value → Shared → Prop} (G : Gr (K w) s₀.heap) (k : OK A (d + 3)) (S : Sim w s₀ L m P s)
    (h : ∀ x dx l s', Sim w s₀ L m ((x, ndO 57 dx l 0 n) :: (dx, .attrs []) :: (l, .list []) :: P) s' → Q (.ref x) s') :
    wpAny (model prog w) A (call (.ref 57) [.int n t]) Q E s := by
  refine make G k S (by rfl) (by rfl) (by rfl) fun x dx s A S k => ?_
  replace S := S.raw_slots
  refine code_def [(Str.ofString "self", .ref x), (Str.ofString "node", I n)] G k S rfl rfl rfl rfl (BindsTo.of_eq rfl) (by decide) (by rfl) (by walk_at "vars") fun L' s A S k => ?_
  walk_at "go"
  exact ⟨rfl, h x dx a _ (S.out (by walk_at "sub"))⟩
end

structure Nd where
  key : Int
  np : Int
  suc : List Int
  aI : Addr
  aD : Addr
  aL : Addr
abbrev ndL (r : Nd) : Led := [(r.aI, ndO 57 r.aD r.aL r.np r.key), (r.aD, .attrs []), (r.aL, .list (r.suc.map I))]
def nodes (g : List Nd) : Led := g.flatMap ndL
def kvs (g : List Nd) : List (Int × Value) := g.map fun r => (r.key, .ref r.aI)
abbrev ab (r : Nd) : Int × Int × List Int := (r.key, r.np, r.suc)
theorem nodes_app (g g' : List Nd) : nodes (g ++ g') = nodes g ++ nodes g' := List.flatMap_append ..
theorem nodes_cons (r : Nd) (g : List Nd) : nodes (r :: g) = (r.aI, ndO 57 r.aD r.aL r.np r.key) :: (r.aD, .attrs []) :: (r.aL, .list (r.suc.map I)) :: nodes g := rfl
theorem nodes_nil : nodes [] = [] := rfl
theorem kvs_cons (r : Nd) (g : List Nd) : kvs (r :: g) = (r.key, .ref r.aI) :: kvs g := rfl
theorem kvs_nil : kvs [] = [] := rfl
theorem kvs_app (g g' : List Nd) : kvs (g ++ g') = kvs g ++ kvs g' := List.map_append ..

theorem dget_some {n : Int} : ∀ {g : List Nd} {v : Value}, dget (kvs g) n = some v → ∃ r ∈ g, r.key = n ∧ v = .ref r.aI
  | [], _, h => by cases h
  | r :: g, v, h => by
    unfold dget kvs at h
    simp only [List.map_cons, List.find?_cons] at h
    by_cases e : r.key = n
    · simp [e] at h; exact ⟨r, .head _, e, h.symm⟩
    · have e' : (r.key == n) = false := beq_eq_false_iff_ne.mpr e
      rw [e'] at h
      obtain ⟨q, h1, h2⟩ := dget_some (g := g) h
      exact ⟨q, .tail _ h1, h2⟩
theorem dget_none {n : Int} : ∀ {g : List Nd}, dget (kvs g) n = none → ∀ r ∈ g, r.key ≠ n
  | [], _, _, h => by cases h
  | r :: g, h, q, hq => by
    unfold dget kvs at h
    simp only [List.map_cons, List.find?_cons] at h
    by_cases e : r.key = n
    · simp [e] at h
    · have e' : (r.key == n) = false := beq_eq_false_iff_ne.mpr e
      rw [e'] at h
      rcases List.mem_cons.mp hq with rfl | hq
      · exact e
      · exact dget_none (g := g) h q hq
theorem dput_new {n : Int} {v : Value} : ∀ {g : List (Int × Value)}, (∀ p ∈ g, p.1 ≠ n) → dput g n v = g ++ [(n, v)]
  | [], _ => rfl
  | p :: g, h => by
    unfold dput
    rw [if_neg (h p (.head _)), dput_new fun q hq => h q (.tail _ hq)]; rfl

/-- a node that is not there yet is laid -/
def touch (g : List (Int × Int × List Int)) (n : Int) : List (Int × Int × List Int) := if n ∈ g.map (·.1) then g else g ++ [(n, 0, [])]

section
variable {prog : Program} {w : World} {A : Around} {s₀ s : Shared} {L : Addr} {m : List (Str × Value)} {P R : Led} {d : Nat} {E : Value → Shared → Prop}

theorem get_info {n : Int} {t : Tok} {x dx N : Addr} {rd : Value} {po fi : Int} {g : List Nd} {ep : Nat} {Q : Value → Shared → Prop} (G : Gr (K w) s₀.heap) (k : OK A (d + 4))
    (S : Sim w s₀ L m ((x, .inst 154 dx) :: (dx, tsA N rd po fi) :: (N, .dict (kvs g) ep) :: (nodes g ++ P)) s) (hz : g.length ≤ 10000)
    (h : ∀ g' ep' r s', r ∈ g' → r.key = n → g'.map ab = touch (g.map ab) n → Sim w s₀ L m ((x, .inst 154 dx) :: (dx, tsA N rd po fi) :: (N, .dict (kvs g') ep') :: (nodes g' ++ P)) s' → Q (.ref r.aI) s') :
    wpAny (model prog w) A (call (.ref 97) [.ref x, .int n t]) Q E s := by
  refine call_def2 [(Str.ofString "self", .ref x), (Str.ofString "node", I n)] G k S rfl rfl rfl rfl (BindsTo.of_eq rfl) (by decide) (by rfl) (by walk_at "vars") fun L' s A S k => ?_
  walk_at "go"
  cases hq : dget (kvs g) n with
  | some v =>
    obtain ⟨r, hr, hk, rfl⟩ := dget_some hq
    refine dict_get (v := .ref r.aI) G S (by walk_at "mem") (by rw [hq]; rfl) ?_
    clear S; intro s S
    try dsimp only
    walk_at "go"
    walk_at "no"
    walk_at "go"
    refine h g ep r _ hr hk ?_ (S.out (by walk_at "sub"))
    unfold touch
    rw [if_pos]
    rw [List.map_map]
    exact List.mem_map.mpr ⟨r, hr, hk⟩
  | none =>
    have hnew := dget_none hq
    refine dict_get (v := .none) G S (by walk_at "mem") (by rw [hq]; rfl) ?_
    clear S; intro s S
    try dsimp only
    walk_at "go"
    walk_at "yes"
    walk_at "go"
    refine new_info (d := d) G k S fun y dy l s S => ?_
    walk_at "go"
    refine dict_put S (by walk_at "rem") (by unfold kvs; rw [List.length_map]; size_fits) fun ep' s S => ?_
    rw [dput_new (by unfold kvs; intro p hp; obtain ⟨r, hr, rfl⟩ := List.mem_map.mp hp; exact hnew r hr)] at S
    try dsimp only [er] at S
    walk_at "go"
    refine h (g ++ [⟨n, 0, [], y, dy, l⟩]) ep' ⟨n, 0, [], y, dy, l⟩ _ (by simp) rfl ?_ (S.out ?_)
    · unfold touch
      rw [if_neg]
      · simp [ab]
      · rw [List.map_map]; intro q; obtain ⟨r, hr, e⟩ := List.mem_map.mp q; exact hnew r hr e
    · simp only [nodes_app, kvs_app, nodes_cons, nodes_nil, kvs_cons, kvs_nil, List.append_assoc, List.cons_append, List.nil_append, List.map_nil]
      walk_at "sub"
end

theorem bAdd {w} : BoundOK (K w) 154 "add" 104 := ⟨by rfl, by rfl, by rfl, by rfl, by rfl, by rfl, by rfl, by rfl⟩
theorem bDone {w} : BoundOK (K w) 154 "done" 137 := ⟨by rfl, by rfl, by rfl, by rfl, by rfl, by rfl, by rfl, by rfl⟩

abbrev AG := List (Int × Int × List Int)
def bump (g : AG) (k c : Int) : AG := g.map fun r => if r.1 = k then (r.1, r.2.1 + c, r.2.2) else r
def link (g : AG) (k x : Int) : AG := g.map fun r => if r.1 = k then (r.1, r.2.1, r.2.2 ++ [x]) else r
def gAdd (g : AG) (n : Int) (ps : List Int) : AG := ps.foldl (fun g p => link (touch g p) p n) (bump (touch g n) n ps.length)

theorem touch_len (g : AG) (n : Int) : (touch g n).length ≤ g.length + 1 := by unfold touch; split <;> simp
theorem bump_len (g : AG) (k c : Int) : (bump g k c).length = g.length := by unfold bump; simp
theorem link_len (g : AG) (k c : Int) : (link g k c).length = g.length := by unfold link; simp

theorem touch_suc {g : AG} {n : Int} {b : Nat} (h : ∀ q ∈ g, q.2.2.length ≤ b) : ∀ q ∈ touch g n, q.2.2.length ≤ b := by
  unfold touch; split
  · exact h
  · intro q hq
    rcases List.mem_append.mp hq with hq | hq
    · exact h q hq
    · rw [List.mem_singleton.mp hq]; exact Nat.zero_le _
theorem bump_suc {g : AG} {n c : Int} {b : Nat} (h : ∀ q ∈ g, q.2.2.length ≤ b) : ∀ q ∈ bump g n c, q.2.2.length ≤ b := by
  intro q hq
  obtain ⟨r, hr, rfl⟩ := List.mem_map.mp hq
  have := h r hr
  split <;> exact this
theorem link_suc {g : AG} {n c : Int} {b : Nat} (h : ∀ q ∈ g, q.2.2.length ≤ b) : ∀ q ∈ link g n c, q.2.2.length ≤ b + 1 := by
  intro q hq
  obtain ⟨r, hr, rfl⟩ := List.mem_map.mp hq
  have := h r hr
  split
  · simp; omega
  · omega

theorem map_if_ne {f : Int × Int × List Int → Int × Int × List Int} {k : Int} : ∀ {g : List Nd}, (∀ r ∈ g, r.key ≠ k) → (g.map ab).map (fun r => if r.1 = k then f r else r) = g.map ab
  | [], _ => rfl
  | r :: g, h => by simp only [List.map_cons, ab, if_neg (h r (.head _)), map_if_ne fun q hq => h q (.tail _ hq)]
theorem split_key {g : List Nd} {r : Nd} (hr : r ∈ g) (nd : (g.map (·.key)).Nodup) : ∃ g₁ g₂, g = g₁ ++ r :: g₂ ∧ (∀ q ∈ g₁, q.key ≠ r.key) ∧ ∀ q ∈ g₂, q.key ≠ r.key := by
  obtain ⟨g₁, g₂, rfl⟩ := List.append_of_mem hr
  refine ⟨g₁, g₂, rfl, fun q hq e => ?_, fun q hq e => ?_⟩
  · simp only [List.map_append, List.map_cons, List.nodup_append, List.nodup_cons, List.mem_cons] at nd
    exact nd.2.2 _ (List.mem_map_of_mem hq) _ (.inl rfl) e
  · simp only [List.map_append, List.map_cons, List.nodup_append, List.nodup_cons, List.mem_cons] at nd
    exact nd.2.1.1 (e ▸ List.mem_map_of_mem hq)
theorem turned {f : Int × Int × List Int → Int × Int × List Int} {g₁ g₂ : List Nd} {r r' : Nd} (h1 : ∀ q ∈ g₁, q.key ≠ r.key) (h2 : ∀ q ∈ g₂, q.key ≠ r.key) (e : ab r' = f (ab r)) :
    (g₁ ++ r' :: g₂).map ab = ((g₁ ++ r :: g₂).map ab).map (fun q => if q.1 = r.key then f q else q) := by
  simp only [List.map_append, List.map_cons, map_if_ne h1, map_if_ne h2]
  congr 1
  simp [e]

section
variable {prog : Program} {w : World} {A : Around} {s₀ s : Shared} {L : Addr} {m : List (Str × Value)} {P R : Led} {d : Nat} {E : Value → Shared → Prop}

theorem keys_nodup {g : List Nd} {N : Addr} {ep : Nat} (S : Sim w s₀ L m P s) (hm : (N, .dict (kvs g) ep) ∈ P) : (g.map (·.key)).Nodup := by
  obtain ⟨ob, _, ⟨es, rfl, _, h⟩, _⟩ := S.get hm
  unfold kvs at h
  rw [List.map_map] at h
  exact h

theorem add_code {n : Int} {t : Tok} {x dx N : Addr} {po fi : Int} {g : List Nd} {ep : Nat} {vs : List Value} {ps : List Int} {Q : Result → Shared → Prop} (G : Gr (K w) s₀.heap) (k : OK A (d + 5))
    (S : Sim w s₀ L m ((x, .inst 154 dx) :: (dx, tsA N .none po fi) :: (N, .dict (kvs g) ep) :: (nodes g ++ P)) s) (hz : g.length + ps.length + 1 ≤ 10000) {b : Nat} (hb : ∀ q ∈ g.map ab, q.2.2.length ≤ b) (hz2 : b + ps.length ≤ 10000) (hv : vs.map er = ps.map I)
    (h : ∀ g' ep' s', g'.map ab = gAdd (g.map ab) n ps → Sim w s₀ L m ((x, .inst 154 dx) :: (dx, tsA N .none po fi) :: (N, .dict (kvs g') ep') :: (nodes g' ++ P)) s' → Q (.ok (.ret .none)) s') :
    codeAny (model prog w) A (.call (.ref 104) ⟨.ref x :: .int n t :: vs, []⟩) Q s := by
  have hvl : vs.length = ps.length := by have := congrArg List.length hv; simpa using this
  refine code_defV (rest := vs) (binds := fun T => [(Str.ofString "self", .ref x), (Str.ofString "node", .int n t), (Str.ofString "predecessors", T)])
    (fun T => [(Str.ofString "self", .ref x), (Str.ofString "node", I n), (Str.ofString "predecessors", .ref T)]) G k S rfl rfl rfl rfl ?hb ?hz (by decide) (fun t => by rfl) (fun T => by walk_at "vars") fun L' tp s A S k => ?_
  case hb => cases vs <;> rfl
  case hz => rw [sizeLine_eq]; omega
  rw [hv] at S
  walk_at "go"
  walk_at "no"
  walk_at "go"
  replace S := S.to (Q := (x, .inst 154 dx) :: (dx, tsA N .none po fi) :: (N, .dict (kvs g) ep) :: (nodes g ++ ((L, .frame m) :: (tp, .tup (ps.map I)) :: P))) (by walk_at "sub")
  refine get_info (d := d) G k S (by omega) fun g₁ ep₁ r s hr hrk hab S => ?_
  obtain ⟨ga, gb, rfl, n1, n2⟩ := split_key hr (keys_nodup S (by walk_at "mem"))
  simp only [nodes_app, nodes_cons, List.append_assoc, List.cons_append] at S
  walk_at "go"
  have hk2 : kvs (ga ++ r :: gb) = kvs (ga ++ { r with np := r.np + (ps.length : Int) } :: gb) := by simp [kvs]
  have hab2 : (ga ++ { r with np := r.np + (ps.length : Int) } :: gb).map ab = bump (touch (g.map ab) n) n ps.length := by
    rw [← hab]; unfold bump; rw [← hrk]
    exact turned (f := fun q => (q.1, q.2.1 + (ps.length : Int), q.2.2)) n1 n2 rfl
  have hlen2 : (ga ++ { r with np := r.np + (ps.length : Int) } :: gb).length ≤ g.length + 1 := by
    have := congrArg List.length hab2
    rw [bump_len] at this
    have h2 := touch_len (g.map ab) n
    simp only [List.length_map] at this h2
    omega
  rw [hk2] at S
  simp only [List.length_map] at S
  generalize hg2 : ga ++ { r with np := r.np + (ps.length : Int) } :: gb = g2 at *
  have S1 : Sim w s₀ L' [(Str.ofString "self", .ref x), (Str.ofString "node", I n), (Str.ofString "predecessors", .ref tp)] ((it, .titer tp 0) :: (L, .frame m) :: (tp, .tup (ps.map I)) :: (x, .inst 154 dx) :: (dx, tsA N .none po fi) :: (N, .dict (kvs g2) ep₁) :: (nodes g2 ++ P)) s :=
    (S.vars (by walk_at "vars")).to (by rw [← hg2]; walk_at "subn")
  clear S
  refine for_code (src_tup k.h (a := tp) (xs := ps.map I) .none) (fun i m' P' => m' = [(Str.ofString "self", .ref x), (Str.ofString "node", I n), (Str.ofString "predecessors", .ref tp)] ∧ ∃ g ep, P' = (L, .frame m) :: (tp, .tup (ps.map I)) :: (x, .inst 154 dx) :: (dx, tsA N .none po fi) :: (N, .dict (kvs g) ep) :: (nodes g ++ P) ∧
    g.map ab = (ps.take i).foldl (fun g p => link (touch g p) p n) (g2.map ab) ∧ g.length ≤ g2.length + i ∧ ∀ q ∈ g.map ab, q.2.2.length ≤ b + i) S1 ⟨rfl, g2, ep₁, rfl, rfl, Nat.le_refl _, by rw [hab2]; exact bump_suc (touch_suc hb)⟩ ?_ ?_ ?_
  · rintro i m' P' ⟨rfl, g, ep, rfl, _⟩; walk_at "mem"
  · rintro i m' P' hi ⟨rfl, g3, ep3, rfl, hab3, hl3, hb3⟩ J hJ QJ hQ
    simp only [List.length_map] at hi
    have hgi : (ps.map I).getD i .none = I (ps.getD i 0) := by simp [List.getD, hi]
    show All ((ps.map I).getD i .none) _
    rw [hgi]
    intro t s S
    change Sim w s₀ L' _ _ _ at S
    dsimp only [List.nil_append, List.cons_append] at S
    walk_at "go"
    replace S := S.to (Q := (x, .inst 154 dx) :: (dx, tsA N .none po fi) :: (N, .dict (kvs g3) ep3) :: (nodes g3 ++ ((it, .titer tp (i + 1)) :: (L, .frame m) :: (tp, .tup (ps.map I)) :: P))) (by walk_at "sub")
    refine get_info (d := d) G k S (by omega) fun g₁ ep₁ r s hr hrk hab S => ?_
    obtain ⟨ga, gb, rfl, n1, n2⟩ := split_key hr (keys_nodup S (by walk_at "mem"))
    simp only [nodes_app, nodes_cons, List.append_assoc, List.cons_append] at S
    have hbr : r.suc.length ≤ b + i := touch_suc hb3 (ab r) (by rw [← hab]; exact List.mem_map_of_mem hr)
    have hl4 : (ga ++ r :: gb).length ≤ g3.length + 1 := by
      have h1 := congrArg List.length hab
      have h2 := touch_len (g3.map ab) (ps.getD i 0)
      simp only [List.length_map] at h1 h2
      omega
    walk_at "go"
    have hg4 : (ga ++ { r with suc := r.suc ++ [n] } :: gb).map ab = link (touch (g3.map ab) (ps.getD i 0)) (ps.getD i 0) n := by
      rw [← hab]; unfold link; rw [← hrk]
      exact turned (f := fun q => (q.1, q.2.1, q.2.2 ++ [n])) n1 n2 rfl
    refine ⟨[(Str.ofString "self", .ref x), (Str.ofString "node", I n), (Str.ofString "predecessors", .ref tp)], _, (S.vars (by walk_at "vars")).to (Q := (it, .titer tp (i + 1)) :: (L, .frame m) :: (tp, .tup (ps.map I)) :: (x, .inst 154 dx) :: (dx, tsA N .none po fi) :: (N, .dict (kvs (ga ++ { r with suc := r.suc ++ [n] } :: gb)) ep₁) :: (nodes (ga ++ { r with suc := r.suc ++ [n] } :: gb) ++ P)) ?_, hJ _ _ ⟨rfl, _, _, rfl, ?_, ?_, ?_⟩⟩
    · rw [show kvs (ga ++ { r with suc := r.suc ++ [n] } :: gb) = kvs (ga ++ r :: gb) by simp [kvs]]
      simp only [nodes_app, nodes_cons, List.map_append, List.map_cons, List.map_nil, List.append_assoc, List.cons_append]
      walk_at "sub"
    · rw [hg4, hab3, List.take_add_one, List.foldl_append]
      simp [List.getD, hi]
    · simp only [List.length_append, List.length_cons] at hl4 ⊢; omega
    · rw [hg4]
      exact fun q hq => by have := link_suc (touch_suc hb3) q hq; omega
  · rintro m' P' s ⟨rfl, g3, ep3, rfl, hab3, _⟩ S
    change Sim w s₀ L' _ _ _ at S
    walk_at "go"
    refine h g3 ep3 _ ?_ (S.out (by walk_at "sub"))
    rw [hab3, hab2]
    simp [gAdd]
end

section
variable {prog : Program} {w : World} {A : Around} {s₀ s : Shared} {L : Addr} {m : List (Str × Value)} {P R : Led} {d : Nat} {E : Value → Shared → Prop}

theorem act_spec {x dx N ra : Addr} {po fi : Int} {rd : List Int} {Q : Value → Shared → Prop} (G : Gr (K w) s₀.heap) (k : OK A (d + 2))
    (S : Sim w s₀ L m ((x, .inst 154 dx) :: (dx, tsA N (.ref ra) po fi) :: (ra, .list (rd.map I)) :: P) s) (hz : rd.length ≤ 10000)
    (h : ∀ s', Sim w s₀ L m ((x, .inst 154 dx) :: (dx, tsA N (.ref ra) po fi) :: (ra, .list (rd.map I)) :: P) s' → Q (.bool (decide (fi < po) || !rd.isEmpty)) s') :
    wpAny (model prog w) A (call (.ref 123) [.ref x]) Q E s := by
  refine call_def2 [(Str.ofString "self", .ref x)] G k S rfl rfl rfl rfl (BindsTo.of_eq rfl) (by decide) (by rfl) (by walk_at "vars") fun L' s A S k => ?_
  walk_at "go"
  walk_at "no"
  walk_at "go"
  by_cases hlt : fi < po
  · rw [if_pos (decide_eq_true hlt)]
    dsimp only [retv]
    have := h _ (S.out (by walk_at "sub"))
    rw [decide_eq_true hlt, Bool.true_or] at this
    rw [decide_eq_true hlt]
    exact this
  · rw [if_neg (by simp [hlt])]
    walk_at "go"
    dsimp only [retv]
    have := h _ (S.out (by walk_at "sub"))
    rw [decide_eq_false hlt, Bool.false_or] at this
    have e : (rd.map I).isEmpty = rd.isEmpty := by cases rd <;> rfl
    rw [e]
    exact this
end

def setNp (g : AG) (k c : Int) : AG := g.map fun r => if r.1 = k then (r.1, c, r.2.2) else r
theorem setNp_keys (g : AG) (k c : Int) : (setNp g k c).map (·.1) = g.map (·.1) := by
  unfold setNp; rw [List.map_map]; apply List.map_congr_left; intro r _; simp only [Function.comp]; split <;> rfl
theorem dget_key {n : Int} : ∀ {g : List Nd}, n ∈ (g.map ab).map (·.1) → ∃ r ∈ g, r.key = n ∧ dget (kvs g) n = some (.ref r.aI)
  | [], h => by cases h
  | r :: g, h => by
    unfold dget kvs
    simp only [List.map_cons, List.find?_cons]
    by_cases e : r.key = n
    · exact ⟨r, .head _, e, by simp [e]⟩
    · have e' : (r.key == n) = false := beq_eq_false_iff_ne.mpr e
      rw [e']
      simp only [List.map_cons, List.mem_cons] at h
      rcases h with h | h
      · exact absurd h.symm e
      · obtain ⟨q, h1, h2, h3⟩ := dget_key (g := g) h
        exact ⟨q, .tail _ h1, h2, h3⟩
section
variable {prog : Program} {w : World} {A : Around} {s₀ s : Shared} {L : Addr} {m : List (Str × Value)} {P R : Led} {d : Nat} {E : Value → Shared → Prop}

theorem ready_spec {x dx N ra : Addr} {po fi : Int} {rd : List Int} {g : List Nd} {ep : Nat} {Q : Value → Shared → Prop} (G : Gr (K w) s₀.heap) (k : OK A (d + 2))
    (S : Sim w s₀ L m ((x, .inst 154 dx) :: (dx, tsA N (.ref ra) po fi) :: (ra, .list (rd.map I)) :: (N, .dict (kvs g) ep) :: (nodes g ++ P)) s) (hz : rd.length ≤ 10000) (hk : ∀ n ∈ rd, n ∈ (g.map ab).map (·.1))
    (h : ∀ g' tp s', g'.map ab = rd.foldl (fun g n => setNp g n (-1)) (g.map ab) → Sim w s₀ L m ((tp, .tup (rd.map I)) :: (x, .inst 154 dx) :: (dx, tsA N (.ref ra) (po + rd.length) fi) :: (ra, .list []) :: (N, .dict (kvs g') ep) :: (nodes g' ++ P)) s' → Q (.ref tp) s') :
    wpAny (model prog w) A (call (.ref 116) [.ref x]) Q E s := by
  refine call_def2 [(Str.ofString "self", .ref x)] G k S rfl rfl rfl rfl (BindsTo.of_eq rfl) (by decide) (by rfl) (by walk_at "vars") fun L' s A S k => ?_
  walk_at "go"
  walk_at "no"
  walk_at "go"
  refine for_code (src_tup k.h (a := tp) (xs := rd.map I) .none) (fun i m' P' => m' = [(Str.ofString "n2i", .ref N), (Str.ofString "result", .ref tp), (Str.ofString "self", .ref x)] ∧ ∃ g', P' = (tp, .tup (rd.map I)) :: (L, .frame m) :: (x, .inst 154 dx) :: (dx, tsA N (.ref ra) po fi) :: (ra, .list (rd.map I)) :: (N, .dict (kvs g') ep) :: (nodes g' ++ P) ∧
    g'.map ab = (rd.take i).foldl (fun g n => setNp g n (-1)) (g.map ab) ∧ (g'.map ab).map (·.1) = (g.map ab).map (·.1)) S ⟨rfl, g, rfl, rfl, rfl⟩ ?_ ?_ ?_
  · rintro i m' P' ⟨rfl, g, rfl, _⟩; walk_at "mem"
  · rintro i m' P' hi ⟨rfl, g3, rfl, hab3, hk3⟩ J hJ QJ hQ
    simp only [List.length_map] at hi
    have hgi : (rd.map I).getD i .none = I (rd.getD i 0) := by simp [List.getD, hi]
    show All ((rd.map I).getD i .none) _
    rw [hgi]
    intro t s S
    change Sim w s₀ L' _ _ _ at S
    dsimp only [List.nil_append, List.cons_append] at S
    walk_at "go"
    obtain ⟨r, hr, hrk, hdg⟩ := dget_key (g := g3) (n := rd.getD i 0) (by rw [hk3]; refine hk _ ?_; simp [List.getD, hi])
    refine dict_sub S (by walk_at "mem") hdg ?_
    clear S; intro s S
    obtain ⟨ga, gb, rfl, n1, n2⟩ := split_key hr (keys_nodup S (by walk_at "mem"))
    simp only [nodes_app, nodes_cons, List.append_assoc, List.cons_append] at S
    walk_at "go"
    have hg4 : (ga ++ { r with np := -1 } :: gb).map ab = setNp ((ga ++ r :: gb).map ab) (rd.getD i 0) (-1) := by
      unfold setNp; rw [← hrk]
      exact turned (f := fun q => (q.1, -1, q.2.2)) n1 n2 rfl
    refine ⟨[(Str.ofString "n2i", .ref N), (Str.ofString "result", .ref tp), (Str.ofString "self", .ref x)], _, (S.vars (by walk_at "vars")).to (Q := (it, .titer tp (i + 1)) :: (tp, .tup (rd.map I)) :: (L, .frame m) :: (x, .inst 154 dx) :: (dx, tsA N (.ref ra) po fi) :: (ra, .list (rd.map I)) :: (N, .dict (kvs (ga ++ { r with np := -1 } :: gb)) ep) :: (nodes (ga ++ { r with np := -1 } :: gb) ++ P)) ?_, hJ _ _ ⟨rfl, _, rfl, ?_, ?_⟩⟩
    · rw [show kvs (ga ++ { r with np := -1 } :: gb) = kvs (ga ++ r :: gb) by simp [kvs]]
      walk_at "subn"
    · rw [hg4, hab3, List.take_add_one, List.foldl_append]
      simp [List.getD, hi]
    · rw [hg4, setNp_keys, hk3]
  · rintro m' P' s ⟨rfl, g3, rfl, hab3, _⟩ S
    change Sim w s₀ L' _ _ _ at S
    walk_at "go"
    dsimp only [retv]
    refine h g3 tp _ ?_ (S.out ?_)
    · rw [hab3]; simp
    · simp only [List.length_map]; walk_at "sub"
end

def npOf (g : AG) (k : Int) : Int := ((g.find? fun r => r.1 == k).map (·.2.1)).getD 0
def sucOf (g : AG) (k : Int) : List Int := ((g.find? fun r => r.1 == k).map (·.2.2)).getD []
def gStep (st : AG × List Int) (s : Int) : AG × List Int := (bump st.1 s (-1), if npOf (bump st.1 s (-1)) s = 0 then st.2 ++ [s] else st.2)
def gDone1 (st : AG × List Int) (n : Int) : AG × List Int := (sucOf st.1 n).foldl gStep (setNp st.1 n (-2), st.2)
abbrev sh (r : Nd) : Int × List Int × Addr × Addr × Addr := (r.key, r.suc, r.aI, r.aD, r.aL)

theorem find_ab : ∀ {g₁ g₂ : List Nd} {r : Nd}, (∀ q ∈ g₁, q.key ≠ r.key) → ((g₁ ++ r :: g₂).map ab).find? (fun q => q.1 == r.key) = some (ab r)
  | [], g₂, r, _ => by simp [ab]
  | q :: g₁, g₂, r, h => by
    have e : (q.key == r.key) = false := beq_eq_false_iff_ne.mpr (h q (.head _))
    simp only [List.cons_append, List.map_cons, List.find?_cons, e]
    exact find_ab fun x hx => h x (.tail _ hx)
theorem npOf_at {g₁ g₂ : List Nd} {r : Nd} (h : ∀ q ∈ g₁, q.key ≠ r.key) : npOf ((g₁ ++ r :: g₂).map ab) r.key = r.np := by unfold npOf; rw [find_ab h]; rfl
theorem sucOf_at {g₁ g₂ : List Nd} {r : Nd} (h : ∀ q ∈ g₁, q.key ≠ r.key) : sucOf ((g₁ ++ r :: g₂).map ab) r.key = r.suc := by unfold sucOf; rw [find_ab h]; rfl
theorem kvs_sh {g g' : List Nd} (h : g'.map sh = g.map sh) : kvs g' = kvs g := by
  have := congrArg (List.map fun p : Int × List Int × Addr × Addr × Addr => (p.1, Value.ref p.2.2.1)) h
  simpa [kvs, Function.comp_def] using this
theorem keys_sh {g g' : List Nd} (h : g'.map sh = g.map sh) : (g'.map ab).map (·.1) = (g.map ab).map (·.1) := by
  have := congrArg (List.map fun p : Int × List Int × Addr × Addr × Addr => p.1) h
  simpa [Function.comp_def] using this
theorem list_sh {g g' : List Nd} {r : Nd} (h : g'.map sh = g.map sh) (hr : r ∈ g) : (r.aL, MO.list (r.suc.map I)) ∈ nodes g' := by
  have : sh r ∈ g'.map sh := h ▸ List.mem_map_of_mem hr
  obtain ⟨q, hq, e⟩ := List.mem_map.mp this
  simp only [Prod.mk.injEq] at e
  refine List.mem_flatMap.mpr ⟨q, hq, ?_⟩
  rw [← e.2.1, ← e.2.2.2.2]
  simp
section
variable {prog : Program} {w : World} {A : Around} {s₀ s : Shared} {L : Addr} {m : List (Str × Value)} {P R : Led} {d : Nat} {E : Value → Shared → Prop}

theorem done_code {x dx N ra : Addr} {po fi : Int} {rd ns : List Int} {g : List Nd} {ep b : Nat} {vs : List Value} {Q : Result → Shared → Prop} (G : Gr (K w) s₀.heap) (k : OK A (d + 2))
    (S : Sim w s₀ L m ((x, .inst 154 dx) :: (dx, tsA N (.ref ra) po fi) :: (ra, .list (rd.map I)) :: (N, .dict (kvs g) ep) :: (nodes g ++ P)) s) (hv : vs.map er = ns.map I)
    (hb : ∀ q ∈ g.map ab, q.2.2.length ≤ b) (hz : rd.length + ns.length * b ≤ 10000) (hzn : ns.length ≤ 10000) (hk : ∀ n ∈ ns, n ∈ (g.map ab).map (·.1)) (hks : ∀ q ∈ g.map ab, ∀ n ∈ q.2.2, n ∈ (g.map ab).map (·.1))
    (hnp : ∀ i < ns.length, npOf ((ns.take i).foldl gDone1 (g.map ab, rd)).1 (ns.getD i 0) = -1)
    (h : ∀ g' s', g'.map sh = g.map sh → g'.map ab = (ns.foldl gDone1 (g.map ab, rd)).1 → Sim w s₀ L m ((x, .inst 154 dx) :: (dx, tsA N (.ref ra) po (fi + ns.length)) :: (ra, .list ((ns.foldl gDone1 (g.map ab, rd)).2.map I)) :: (N, .dict (kvs g) ep) :: (nodes g' ++ P)) s' → Q (.ok (.ret .none)) s') :
    codeAny (model prog w) A (.call (.ref 137) ⟨.ref x :: vs, []⟩) Q s := by
  have hvl : vs.length = ns.length := by have := congrArg List.length hv; simpa using this
  refine code_defV (rest := vs) (binds := fun T => [(Str.ofString "self", .ref x), (Str.ofString "nodes", T)])
    (fun T => [(Str.ofString "self", .ref x), (Str.ofString "nodes", .ref T)]) G k S rfl rfl rfl rfl ?hb ?hz (by decide) (fun t => by rfl) (fun T => by walk_at "vars") fun L' tp s A S k => ?_
  case hb => cases vs <;> rfl
  case hz => rw [sizeLine_eq]; omega
  rw [hv] at S
  walk_at "go"
  walk_at "no"
  walk_at "go"
  revert it; intro io S
  refine for_code (src_tup k.h (a := tp) (xs := ns.map I) .none) (fun i m' P' => m' = [(Str.ofString "n2i", .ref N), (Str.ofString "self", .ref x), (Str.ofString "nodes", .ref tp)] ∧ ∃ g', P' = (tp, .tup (ns.map I)) :: (L, .frame m) :: (x, .inst 154 dx) :: (dx, tsA N (.ref ra) po (fi + (i : Nat))) :: (ra, .list (((ns.take i).foldl gDone1 (g.map ab, rd)).2.map I)) :: (N, .dict (kvs g) ep) :: (nodes g' ++ P) ∧
    g'.map ab = ((ns.take i).foldl gDone1 (g.map ab, rd)).1 ∧ g'.map sh = g.map sh ∧ ((ns.take i).foldl gDone1 (g.map ab, rd)).2.length ≤ rd.length + i * b) (P := (tp, .tup (ns.map I)) :: (L, .frame m) :: (x, .inst 154 dx) :: (dx, tsA N (.ref ra) po (fi + (0 : Nat))) :: (ra, .list (rd.map I)) :: (N, .dict (kvs g) ep) :: (nodes g ++ P)) ((S.vars (by walk_at "vars")).to (by simp only [Int.natCast_zero, Int.add_zero, List.cons_append, List.nil_append]; walk_at "sub")) ⟨rfl, g, rfl, rfl, rfl, by simp⟩ ?_ ?_ ?_
  · rintro i m' P' ⟨rfl, g, rfl, _⟩; walk_at "mem"
  · rintro i m' P' hi ⟨rfl, g3, rfl, hab3, hsh3, hl3⟩ J hJ QJ hQ
    simp only [List.length_map] at hi
    have hgi : (ns.map I).getD i .none = I (ns.getD i 0) := by simp [List.getD, hi]
    show All ((ns.map I).getD i .none) _
    rw [hgi]
    intro t s S
    change Sim w s₀ L' _ _ _ at S
    dsimp only [List.nil_append, List.cons_append] at S
    walk_at "go"
    obtain ⟨r, hr, hrk, hdg⟩ := dget_key (g := g3) (n := ns.getD i 0) (by rw [keys_sh hsh3]; refine hk _ ?_; simp [List.getD, hi])
    rw [kvs_sh hsh3] at hdg
    refine dict_get (v := .ref r.aI) G S (by walk_at "mem") (by rw [hdg]; rfl) ?_
    clear S; intro s S
    try dsimp only
    walk_at "go"
    walk_at "no"
    obtain ⟨ga, gb, rfl, n1, n2⟩ := split_key hr (keys_nodup S (by rw [← kvs_sh hsh3]; walk_at "mem"))
    have hnpr : r.np = -1 := by
      have := hnp i hi
      rw [← hab3, ← hrk, npOf_at n1] at this
      exact this
    simp only [nodes_app, nodes_cons, List.append_assoc, List.cons_append] at S
    walk_at "go"
    rw [if_neg (by rw [hnpr]; decide)]
    walk_at "go"
    generalize hst : (ns.take i).foldl gDone1 (g.map ab, rd) = st at *
    have hab4 : (ga ++ { r with np := -2 } :: gb).map ab = setNp st.1 (ns.getD i 0) (-2) := by
      rw [← hab3]; unfold setNp; rw [← hrk]
      exact turned (f := fun q => (q.1, -2, q.2.2)) n1 n2 rfl
    have hsh4 : (ga ++ { r with np := -2 } :: gb).map sh = g.map sh := by rw [← hsh3]; simp
    have hsuc : sucOf st.1 (ns.getD i 0) = r.suc := by rw [← hab3, ← hrk]; exact sucOf_at n1
    have hrb : r.suc.length ≤ b ∧ ∀ n ∈ r.suc, n ∈ (g.map ab).map (·.1) := by
      have : sh r ∈ g.map sh := hsh3 ▸ List.mem_map_of_mem hr
      obtain ⟨q, hq, e⟩ := List.mem_map.mp this
      simp only [Prod.mk.injEq] at e
      rw [← e.2.1]
      exact ⟨hb _ (List.mem_map_of_mem hq), hks _ (List.mem_map_of_mem hq)⟩
    have hl4 : st.2.length + r.suc.length ≤ 10000 := by
      have : (i + 1) * b ≤ ns.length * b := Nat.mul_le_mul_right _ hi
      rw [Nat.succ_mul] at this
      omega
    refine for_code (src_list k.h (a := r.aL) (xs := r.suc.map I) .none) (fun j m' P' => m' = [(Str.ofString "n2i", .ref N), (Str.ofString "self", .ref x), (Str.ofString "nodes", .ref tp)] ∧ ∃ g', P' = (io, .titer tp (i + 1)) :: (tp, .tup (ns.map I)) :: (L, .frame m) :: (x, .inst 154 dx) :: (dx, tsA N (.ref ra) po (fi + (i : Nat))) :: (ra, .list (((r.suc.take j).foldl gStep (setNp st.1 (ns.getD i 0) (-2), st.2)).2.map I)) :: (N, .dict (kvs g) ep) :: (nodes g' ++ P) ∧
      g'.map ab = ((r.suc.take j).foldl gStep (setNp st.1 (ns.getD i 0) (-2), st.2)).1 ∧ g'.map sh = g.map sh ∧ ((r.suc.take j).foldl gStep (setNp st.1 (ns.getD i 0) (-2), st.2)).2.length ≤ st.2.length + j) (P := (io, .titer tp (i + 1)) :: (tp, .tup (ns.map I)) :: (L, .frame m) :: (x, .inst 154 dx) :: (dx, tsA N (.ref ra) po (fi + (i : Nat))) :: (ra, .list (st.2.map I)) :: (N, .dict (kvs g) ep) :: (nodes (ga ++ { r with np := -2 } :: gb) ++ P)) ((S.vars (by walk_at "vars")).to (by walk_at "subn")) ⟨rfl, _, rfl, hab4, hsh4, by simp⟩ ?_ ?_ ?_
    · rintro j m' P' ⟨rfl, g', rfl, _, hs, _⟩
      have := list_sh (hs.trans hsh3.symm) hr
      walk_at "mem"
    · rintro j m' P' hj ⟨rfl, g5, rfl, hab5, hsh5, hl5⟩ J hJ QJ hQ
      simp only [List.length_map] at hj
      have hgj : (r.suc.map I).getD j .none = I (r.suc.getD j 0) := by simp [List.getD, hj]
      show All ((r.suc.map I).getD j .none) _
      rw [hgj]
      clear S
      intro t s S
      change Sim w s₀ L' _ _ _ at S
      dsimp only [List.nil_append, List.cons_append] at S
      walk_at "go"
      obtain ⟨q, hq, hqk, hdg⟩ := dget_key (g := g5) (n := r.suc.getD j 0) (by rw [keys_sh hsh5]; refine hrb.2 _ ?_; simp [List.getD, hj])
      rw [kvs_sh hsh5] at hdg
      refine dict_sub S (by walk_at "mem") hdg ?_
      clear S; intro s S
      obtain ⟨gc, gd, rfl, n3, n4⟩ := split_key hq (keys_nodup S (by rw [← kvs_sh hsh5]; walk_at "mem"))
      simp only [nodes_app, nodes_cons, List.append_assoc, List.cons_append] at S
      walk_at "go"
      generalize hsu : (r.suc.take j).foldl gStep (setNp st.1 (ns.getD i 0) (-2), st.2) = su at *
      have hab6 : (gc ++ { q with np := q.np - 1 } :: gd).map ab = bump su.1 (r.suc.getD j 0) (-1) := by
        rw [← hab5]; unfold bump; rw [← hqk]
        exact turned (f := fun q => (q.1, q.2.1 + -1, q.2.2)) n3 n4 rfl
      have hsh6 : (gc ++ { q with np := q.np - 1 } :: gd).map sh = g.map sh := by rw [← hsh5]; simp
      have hnp6 : npOf (bump su.1 (r.suc.getD j 0) (-1)) (r.suc.getD j 0) = q.np - 1 := by
        rw [← hab6, ← hqk]; exact npOf_at (r := { q with np := q.np - 1 }) n3
      have hnext : (r.suc.take (j + 1)).foldl gStep (setNp st.1 (ns.getD i 0) (-2), st.2) = gStep su (r.suc.getD j 0) := by
        rw [List.take_add_one, List.foldl_append, hsu]
        simp [List.getD, hj]
      by_cases hz0 : q.np - 1 = 0
      · rw [if_pos (by rw [hz0]; rfl)]
        walk_at "go"
        have e2 : (gStep su (r.suc.getD j 0)).2 = su.2 ++ [r.suc.getD j 0] := by unfold gStep; rw [hnp6, if_pos hz0]
        refine ⟨[(Str.ofString "n2i", .ref N), (Str.ofString "self", .ref x), (Str.ofString "nodes", .ref tp)], _, (S.vars (by walk_at "vars")).to (Q := (it, .liter r.aL (j + 1)) :: (io, .titer tp (i + 1)) :: (tp, .tup (ns.map I)) :: (L, .frame m) :: (x, .inst 154 dx) :: (dx, tsA N (.ref ra) po (fi + (i : Nat))) :: (ra, .list (((r.suc.take (j + 1)).foldl gStep (setNp st.1 (ns.getD i 0) (-2), st.2)).2.map I)) :: (N, .dict (kvs g) ep) :: (nodes (gc ++ { q with np := q.np - 1 } :: gd) ++ P)) ?_, hJ _ _ ⟨rfl, _, rfl, ?_, hsh6, ?_⟩⟩
        · rw [hnext, e2, List.map_append]; walk_at "subn"
        · rw [hnext, hab6]; rfl
        · rw [hnext, e2]; simp; omega
      · rw [if_neg (by simpa using hz0)]
        walk_at "go"
        have e2 : (gStep su (r.suc.getD j 0)).2 = su.2 := by unfold gStep; rw [hnp6, if_neg hz0]
        refine ⟨[(Str.ofString "n2i", .ref N), (Str.ofString "self", .ref x), (Str.ofString "nodes", .ref tp)], _, (S.vars (by walk_at "vars")).to (Q := (it, .liter r.aL (j + 1)) :: (io, .titer tp (i + 1)) :: (tp, .tup (ns.map I)) :: (L, .frame m) :: (x, .inst 154 dx) :: (dx, tsA N (.ref ra) po (fi + (i : Nat))) :: (ra, .list (((r.suc.take (j + 1)).foldl gStep (setNp st.1 (ns.getD i 0) (-2), st.2)).2.map I)) :: (N, .dict (kvs g) ep) :: (nodes (gc ++ { q with np := q.np - 1 } :: gd) ++ P)) ?_, hJ _ _ ⟨rfl, _, rfl, ?_, hsh6, ?_⟩⟩
        · rw [hnext, e2]; walk_at "subn"
        · rw [hnext, hab6]; rfl
        · rw [hnext, e2]; omega
    · rintro m' P' s ⟨rfl, g5, rfl, hab5, hsh5, hl5⟩ S
      change Sim w s₀ L' _ _ _ at S
      simp only [List.length_map, List.take_length] at S hab5 hl5
      walk_at "go"
      have hnext : (ns.take (i + 1)).foldl gDone1 (g.map ab, rd) = r.suc.foldl gStep (setNp st.1 (ns.getD i 0) (-2), st.2) := by
        rw [List.take_add_one, List.foldl_append, hst]
        have : gDone1 st (ns.getD i 0) = r.suc.foldl gStep (setNp st.1 (ns.getD i 0) (-2), st.2) := by unfold gDone1; rw [hsuc]
        rw [← this]
        simp [List.getD, hi]
      refine ⟨[(Str.ofString "n2i", .ref N), (Str.ofString "self", .ref x), (Str.ofString "nodes", .ref tp)], _, (S.vars (by walk_at "vars")).to (Q := (io, .titer tp (i + 1)) :: (tp, .tup (ns.map I)) :: (L, .frame m) :: (x, .inst 154 dx) :: (dx, tsA N (.ref ra) po (fi + (i + 1 : Nat))) :: (ra, .list (((ns.take (i + 1)).foldl gDone1 (g.map ab, rd)).2.map I)) :: (N, .dict (kvs g) ep) :: (nodes g5 ++ P)) ?_, hJ _ _ ⟨rfl, _, rfl, ?_, hsh5, ?_⟩⟩
      · rw [hnext, show fi + ((i + 1 : Nat) : Int) = fi + (i : Nat) + 1 by omega]; walk_at "sub"
      · rw [hnext, hab5]
      · rw [hnext, Nat.succ_mul]; omega
  · rintro m' P' s ⟨rfl, g3, rfl, hab3, hsh3, _⟩ S
    change Sim w s₀ L' _ _ _ at S
    walk_at "go"
    dsimp only [retv]
    simp only [List.length_map, List.take_length] at S hab3
    exact h g3 _ hsh3 hab3 (S.out (by walk_at "sub"))
end

theorem nodup_len {α : Type} [DecidableEq α] : ∀ {a b : List α}, a.Nodup → (∀ x ∈ a, x ∈ b) → a.length ≤ b.length
  | [], _, _, _ => Nat.zero_le _
  | x :: a, b, h, hs => by
    have h1 := nodup_len (a := a) (b := b.erase x) (List.nodup_cons.mp h).2 fun y hy => by
      have : y ≠ x := by rintro rfl; exact (List.nodup_cons.mp h).1 hy
      exact (List.mem_erase_of_ne this).mpr (hs y (.tail _ hy))
    rw [List.length_erase_of_mem (hs x (.head _))] at h1
    have : 0 < b.length := List.length_pos_of_mem (hs x (.head _))
    simp only [List.length_cons]; omega
structure Fm where
  r : Nd
  u : Addr
  it : Addr
  i : Nat
def stkL (stk : List Fm) : Led := stk.flatMap fun f => [(f.u, .raw (wrapO f.it)), (f.it, .liter f.r.aL f.i)]
theorem stkL_app (a b : List Fm) : stkL (a ++ b) = stkL a ++ stkL b := List.flatMap_append ..
theorem stkL_one (f : Fm) : stkL [f] = [(f.u, .raw (wrapO f.it)), (f.it, .liter f.r.aL f.i)] := rfl
def mu (stk : List Fm) : Nat := (stk.map fun f => f.r.suc.length - f.i + 1).sum
theorem mu_app (a b : List Fm) : mu (a ++ b) = mu a + mu b := by unfold mu; rw [List.map_append, List.sum_append]
theorem mu_one (f : Fm) : mu [f] = f.r.suc.length - f.i + 1 := by simp [mu]
structure StkOK (g : List Nd) (rk : Int → Nat) (stk : List Fm) : Prop where
  mem : ∀ f ∈ stk, f.r ∈ g ∧ f.i ≤ f.r.suc.length
  dec : stk.Pairwise fun f f' => rk f'.r.key < rk f.r.key

theorem SubM.mem {P Q : Led} (h : SubM P Q) {p} (hp : p ∈ Q) : p ∈ P := by
  obtain ⟨R, k⟩ := h.perm
  exact k.mem_iff.mpr (List.mem_append_left _ hp)
section
variable {prog : Program} {w : World} {A : Around} {s₀ s : Shared} {L : Addr} {m : List (Str × Value)} {P R : Led} {d : Nat} {E : Value → Shared → Prop}

theorem cyc_spec {x dx N : Addr} {rd : Value} {po fi : Int} {g : List Nd} {ep : Nat} {fs : List Env} {Q : Value → Shared → Prop} (G : Gr (K w) s₀.heap) (k : OK A (d + 3))
    (FF : Frames A L m ((x, .inst 154 dx) :: (dx, tsA N rd po fi) :: (N, .dict (kvs g) ep) :: (nodes g ++ P)) fs)
    (S : Sim w s₀ L m ((x, .inst 154 dx) :: (dx, tsA N rd po fi) :: (N, .dict (kvs g) ep) :: (nodes g ++ P)) s) (hz : g.length ≤ 1000) (rk : Int → Nat) (B : Nat) (hB : ∀ q ∈ g, q.suc.length ≤ B)
    (hks : ∀ q ∈ g, ∀ n ∈ q.suc, n ∈ (g.map ab).map (·.1) ∧ rk n < rk q.key)
    (h : ∀ s', Sim w s₀ L m ((x, .inst 154 dx) :: (dx, tsA N rd po fi) :: (N, .dict (kvs g) ep) :: (nodes g ++ P)) s' → Q .none s') :
    wpAny (model prog w) A (call (.ref 144) [.ref x]) Q E s := by
  refine call_defF [(Str.ofString "self", .ref x)] G k FF S rfl rfl rfl rfl (BindsTo.of_eq rfl) (by decide) (by rfl) (by walk_at "vars") fun L' s A' S k hA => ?_
  walk_at "go"
  rename_i aS y1 y2 aI y3 y4 aE y5 y6 y7 y8
  revert it; intro io S
  replace S := (S.to (Q := (a, .raw { cls := .type "dict", data := .dict #[] 0 }) :: (io, .kiter N 0 (kvs g).length ep) :: (aE, .set []) :: (aI, .list []) :: (aS, .list []) :: (L, .frame m) :: (x, .inst 154 dx) :: (dx, tsA N rd po fi) :: (N, .dict (kvs g) ep) :: (nodes g ++ P)) (by walk_at "sub")).raw_dict
  revert a; intro aN S
  have hnd := keys_nodup S (by walk_at "mem")
  refine for_code (src_keys k.h (a := N) (kvs := kvs g) (ep := ep)) (fun i m' P' => m' = [(Str.ofString "node2stacki", .ref aN), (Str.ofString "seen", .ref aE), (Str.ofString "itstack", .ref aI), (Str.ofString "stack", .ref aS), (Str.ofString "n2i", .ref N), (Str.ofString "self", .ref x)] ∧
    ∃ seen epN, P' = (aN, .dict [] epN) :: (aE, .set seen) :: (aI, .list []) :: (aS, .list []) :: (L, .frame m) :: (x, .inst 154 dx) :: (dx, tsA N rd po fi) :: (N, .dict (kvs g) ep) :: (nodes g ++ P) ∧ seen.Nodup ∧ ∀ n ∈ seen, n ∈ (g.map ab).map (·.1)) (P := (aN, .dict [] 0) :: (aE, .set []) :: (aI, .list []) :: (aS, .list []) :: (L, .frame m) :: (x, .inst 154 dx) :: (dx, tsA N rd po fi) :: (N, .dict (kvs g) ep) :: (nodes g ++ P)) (S.to (by walk_at "sub")) ⟨rfl, [], 0, rfl, .nil, fun _ h => (nomatch h)⟩ ?_ ?_ ?_
  · rintro i m' P' ⟨rfl, seen, epN, rfl, _⟩; walk_at "mem"
  · rintro i m' P' hi ⟨rfl, seen, epN, rfl, hsn, hsk⟩ J hJ QJ hQ t s S
    change Sim w s₀ L' _ _ _ at S
    dsimp only [List.nil_append, List.cons_append] at S
    have hni : (kvs g).getD i (0, .none) ∈ kvs g := by
      rw [List.getD_eq_getElem?_getD, List.getElem?_eq_getElem hi]; exact List.getElem_mem hi
    generalize hn0 : ((kvs g).getD i (0, .none)).1 = n0 at *
    have hn0k : n0 ∈ (g.map ab).map (·.1) := by
      rw [← hn0]; unfold kvs at hni ⊢
      obtain ⟨r, hr, e⟩ := List.mem_map.mp hni
      rw [← e, List.map_map]; exact List.mem_map.mpr ⟨r, hr, rfl⟩
    walk_at "go"
    by_cases hin : n0 ∈ seen
    · rw [if_pos (by simpa using hin)]
      walk_at "go"
      exact ⟨_, _, (S.vars (m' := [(Str.ofString "node2stacki", .ref aN), (Str.ofString "seen", .ref aE), (Str.ofString "itstack", .ref aI), (Str.ofString "stack", .ref aS), (Str.ofString "n2i", .ref N), (Str.ofString "self", .ref x)]) (by walk_at "vars")), hJ _ _ ⟨rfl, seen, epN, rfl, hsn, hsk⟩⟩
    · rw [if_neg (by simpa using hin)]
      walk_at "go"
      have hnk : ∀ (stk : List Fm) (kv : List (Int × Value)) (nd : Int), kv.map (·.1) = stk.map (·.r.key) → (∀ f ∈ stk, rk nd < rk f.r.key) → ∀ p ∈ kv, p.1 ≠ nd := by
        intro stk kv nd e1 e2 p hp e3
        have : p.1 ∈ stk.map (·.r.key) := e1 ▸ List.mem_map_of_mem hp
        obtain ⟨f, hf, e4⟩ := List.mem_map.mp this
        have := e2 f hf
        rw [e4, e3] at this
        exact Nat.lt_irrefl _ this
      have hsl : ∀ seen : List Int, seen.Nodup → (∀ n ∈ seen, n ∈ (g.map ab).map (·.1)) → seen.length ≤ g.length := by
        intro sn h1 h2
        have := nodup_len h1 h2
        simpa using this
      refine while_code (fun n m' P' => ∃ stk seen kv epN nd, m' = [(Str.ofString "node", I nd), (Str.ofString "node2stacki", .ref aN), (Str.ofString "seen", .ref aE), (Str.ofString "itstack", .ref aI), (Str.ofString "stack", .ref aS), (Str.ofString "n2i", .ref N), (Str.ofString "self", .ref x)] ∧
        P' = (io, .kiter N (i + 1) (kvs g).length ep) :: (aN, .dict kv epN) :: (aE, .set seen) :: (aI, .list (stk.map fun f => .ref f.u)) :: (aS, .list (stk.map fun f => I f.r.key)) :: (L, .frame m) :: (x, .inst 154 dx) :: (dx, tsA N rd po fi) :: (N, .dict (kvs g) ep) :: (nodes g ++ (stkL stk ++ P)) ∧
        StkOK g rk stk ∧ kv.map (·.1) = stk.map (·.r.key) ∧ seen.Nodup ∧ (∀ n ∈ seen, n ∈ (g.map ab).map (·.1)) ∧ nd ∈ (g.map ab).map (·.1) ∧ (∀ f ∈ stk, rk nd < rk f.r.key) ∧ (g.length - seen.length) * (B + 2) + mu stk ≤ n) _ S ⟨[], seen, [], epN, n0, rfl, rfl, ⟨fun _ h => (nomatch h), .nil⟩, rfl, hsn, hsk, hn0k, fun _ h => (nomatch h), Nat.le_refl _⟩ ?_
      rintro n m' P' s ⟨stk, seen, kv, epN, nd, rfl, rfl, hok, hkv, hsn, hsk, hndk, hrk, hmu⟩ J1 hJ1 Q1 hQ1 S
      change Sim w s₀ L' _ _ _ at S
      walk_at "go"
      rw [if_pos rfl]
      refine wpAny_execs_cons (wpAny_mono (Q := fun f s' => f = .next ∧ ∃ stk' seen' kv' epN', StkOK g rk stk' ∧ kv'.map (·.1) = stk'.map (·.r.key) ∧ seen'.Nodup ∧ (∀ n ∈ seen', n ∈ (g.map ab).map (·.1)) ∧ (g.length - seen'.length) * (B + 2) + mu stk' ≤ n ∧
        Sim w s₀ L' [(Str.ofString "node", I nd), (Str.ofString "node2stacki", .ref aN), (Str.ofString "seen", .ref aE), (Str.ofString "itstack", .ref aI), (Str.ofString "stack", .ref aS), (Str.ofString "n2i", .ref N), (Str.ofString "self", .ref x)] ((io, .kiter N (i + 1) (kvs g).length ep) :: (aN, .dict kv' epN') :: (aE, .set seen') :: (aI, .list (stk'.map fun f => .ref f.u)) :: (aS, .list (stk'.map fun f => I f.r.key)) :: (L, .frame m) :: (x, .inst 154 dx) :: (dx, tsA N rd po fi) :: (N, .dict (kvs g) ep) :: (nodes g ++ (stkL stk' ++ P))) s') ?ifp ?rest fun _ _ x => x)
      case ifp =>
        walk_at "go"
        by_cases hin : nd ∈ seen
        · rw [if_pos (by simpa using hin)]
          walk_at "go"
          have hdn : dget kv nd = none := by
            unfold dget
            rw [List.find?_eq_none.mpr]; rfl
            intro p hp; simpa using hnk stk kv nd hkv hrk p hp
          rw [if_neg (by rw [hdn]; decide)]
          walk_at "go"
          exact ⟨rfl, stk, seen, kv, epN, hok, hkv, hsn, hsk, hmu, S⟩
        · rw [if_neg (by simpa using hin)]
          walk_at "go"
          refine set_add S hin (by walk_at "upd") (by have := hsl seen hsn hsk; omega) ?_
          clear S; intro s S
          walk_at "go"
          obtain ⟨r, hr, hrk2, hdg⟩ := dget_key (g := g) (n := nd) hndk
          refine dict_sub S (by walk_at "mem") hdg ?_
          clear S; intro s S
          obtain ⟨ga, gb, hg, _, _⟩ := split_key hr hnd
          have hslk : stk.length ≤ g.length := by
            have h1 : (stk.map (·.r.key)).Nodup := by
              refine List.pairwise_map.mpr (hok.dec.imp fun {a b} h e => ?_)
              rw [e] at h; exact Nat.lt_irrefl _ h
            have h2 := nodup_len (b := (g.map ab).map (·.1)) h1 fun n hn => by
              obtain ⟨f, hf, rfl⟩ := List.mem_map.mp hn
              rw [List.map_map]; exact List.mem_map.mpr ⟨f.r, (hok.mem f hf).1, rfl⟩
            simpa using h2
          replace S := S.to (Q := (io, .kiter N (i + 1) (kvs g).length ep) :: (aN, .dict kv epN) :: (aE, .set (nd :: seen)) :: (aI, .list (stk.map fun f => .ref f.u)) :: (aS, .list (stk.map fun f => I f.r.key)) :: (L, .frame m) :: (x, .inst 154 dx) :: (dx, tsA N rd po fi) :: (N, .dict (kvs g) ep) :: (nodes ga ++ (r.aI, ndO 57 r.aD r.aL r.np r.key) :: (r.aD, .attrs []) :: (r.aL, .list (r.suc.map I)) :: (nodes gb ++ (stkL stk ++ P)))) (by rw [hg]; walk_at "subn")
          walk_at "go"
          refine dict_put S (by walk_at "rem") (by have := congrArg List.length hkv; simp only [List.length_map] at this; rw [this, sizeLine_eq]; omega) fun ep' s S => ?_
          rw [dput_new (hnk stk kv nd hkv hrk)] at S
          try dsimp only [er] at S
          walk_at "go"
          refine ⟨rfl, stk ++ [⟨r, u, it, 0⟩], nd :: seen, kv ++ [(nd, .int ((stk.map fun f => I f.r.key).length : Nat) 0)], ep', ⟨?_, ?_⟩, ?_, List.nodup_cons.mpr ⟨hin, hsn⟩, ?_, ?_, S.to ?_⟩
          · intro f hf
            rcases List.mem_append.mp hf with hf | hf
            · exact hok.mem f hf
            · rw [List.mem_singleton.mp hf]; exact ⟨hr, Nat.zero_le _⟩
          · refine List.pairwise_append.mpr ⟨hok.dec, List.pairwise_singleton _ _, fun f hf f' hf' => ?_⟩
            rw [List.mem_singleton.mp hf']
            show rk r.key < _
            rw [hrk2]; exact hrk f hf
          · simp [hkv, hrk2]
          · intro n hn
            rcases List.mem_cons.mp hn with rfl | hn
            · exact hndk
            · exact hsk n hn
          · have h1 := hsl _ (List.nodup_cons.mpr ⟨hin, hsn⟩) (fun n hn => by
              rcases List.mem_cons.mp hn with rfl | hn
              · exact hndk
              · exact hsk n hn)
            have h2 := hB r hr
            rw [mu_app, mu_one]
            simp only [List.length_cons] at h1 ⊢
            obtain ⟨c, hc⟩ : ∃ c, g.length - seen.length = c + 1 := ⟨g.length - seen.length - 1, by omega⟩
            rw [hc, Nat.succ_mul] at hmu
            rw [show g.length - (seen.length + 1) = c by omega]
            omega
          · rw [hg]
            simp only [stkL_app, stkL_one, List.map_append, List.map_cons, List.map_nil, nodes_app, nodes_cons, nodes_nil, List.append_assoc, List.cons_append, List.nil_append, hrk2]
            walk_at "sub"
      case rest =>
        rintro f s' ⟨rfl, stk, seen, kv, epN, hok, hkv, hsn, hsk, hmu, S⟩
        walk_at "go"
        refine while_code (fun n' m' P' => ∃ stk kv epN, m' = [(Str.ofString "node", I nd), (Str.ofString "node2stacki", .ref aN), (Str.ofString "seen", .ref aE), (Str.ofString "itstack", .ref aI), (Str.ofString "stack", .ref aS), (Str.ofString "n2i", .ref N), (Str.ofString "self", .ref x)] ∧
          P' = (io, .kiter N (i + 1) (kvs g).length ep) :: (aN, .dict kv epN) :: (aE, .set seen) :: (aI, .list (stk.map fun f => .ref f.u)) :: (aS, .list (stk.map fun f => I f.r.key)) :: (L, .frame m) :: (x, .inst 154 dx) :: (dx, tsA N rd po fi) :: (N, .dict (kvs g) ep) :: (nodes g ++ (stkL stk ++ P)) ∧
          StkOK g rk stk ∧ kv.map (·.1) = stk.map (·.r.key) ∧ (g.length - seen.length) * (B + 2) + mu stk ≤ n ∧ mu stk ≤ n') _ S ⟨stk, kv, epN, rfl, rfl, hok, hkv, hmu, Nat.le_refl _⟩ ?_
        rintro n' m' P' s ⟨stk, kv, epN, rfl, rfl, hok, hkv, hmu, hn'⟩ J2 hJ2 Q2 hQ2 S
        change Sim w s₀ L' _ _ _ at S
        have hslk : stk.length ≤ g.length := by
          have h1 : (stk.map (·.r.key)).Nodup := by
            refine List.pairwise_map.mpr (hok.dec.imp fun {a b} h e => ?_)
            rw [e] at h; exact Nat.lt_irrefl _ h
          have h2 := nodup_len (b := (g.map ab).map (·.1)) h1 fun n hn => by
            obtain ⟨f, hf, rfl⟩ := List.mem_map.mp hn
            rw [List.map_map]; exact List.mem_map.mpr ⟨f.r, (hok.mem f hf).1, rfl⟩
          simpa using h2
        walk_at "go"
        rcases List.eq_nil_or_concat stk with rfl | ⟨st, f, he⟩
        · rw [if_neg (by simp)]
          walk_at "go"
          have hkv0 : kv = [] := by simpa using hkv
          subst hkv0
          refine hQ2 _ _ ?_
          dsimp only [WEnd]
          refine hQ1 _ _ ?_
          walk_at "go"
          exact ⟨[(Str.ofString "node2stacki", .ref aN), (Str.ofString "seen", .ref aE), (Str.ofString "itstack", .ref aI), (Str.ofString "stack", .ref aS), (Str.ofString "n2i", .ref N), (Str.ofString "self", .ref x)], _, (S.vars (by walk_at "vars")), hJ _ _ ⟨rfl, seen, epN, rfl, hsn, hsk⟩⟩
        · rw [List.concat_eq_append] at he
          subst he
          rw [if_pos (by simp)]
          refine wpAny_execs_cons (wpAny_Try_except ?_)
          have hfr : f.r ∈ g ∧ f.i ≤ f.r.suc.length := hok.mem f (by simp)
          have hfl := list_sh (g := g) (g' := g) rfl hfr.1
          simp only [stkL_app, stkL_one, List.map_append, List.map_cons, List.map_nil, List.append_assoc, List.cons_append, List.nil_append] at S
          walk_at "go"
          refine list_neg (x := .ref f.u) S (by walk_at "mem") (by decide) (by simp only [List.length_append, List.length_map, List.length_singleton]; omega) (by decide) (by rw [show (-1 + ((st.map (fun f => Value.ref f.u) ++ [Value.ref f.u]).length : Int)).toNat = (st.map (fun f => Value.ref f.u)).length by simp only [List.length_append, List.length_map, List.length_singleton]; omega]; simp) ?_
          dsimp only [All]
          walk_at "go"
          have hdec : ∀ f₀ ∈ st, rk f.r.key < rk f₀.r.key := fun f₀ h₀ => (List.pairwise_append.mp hok.dec).2.2 f₀ h₀ f (by simp)
          have hmu1 := hmu
          rw [mu_app, mu_one] at hmu hn'
          by_cases hlt : f.i < f.r.suc.length
          · refine wrap_next (xs := f.r.suc.map I) (hd := .none) S (by walk_at "mem") (by walk_at "upd") (by walk_at "mem") (by simpa using hlt) ?_
            have hgi : (f.r.suc.map I).getD f.i .none = I (f.r.suc.getD f.i 0) := by simp [List.getD, hlt]
            rw [hgi]
            clear S; intro t s S
            walk_at "go"
            dsimp only [WEnd]
            refine hQ2 _ _ ?_
            walk_at "go"
            have hsm : f.r.suc.getD f.i 0 ∈ f.r.suc := by simp [List.getD, hlt]
            have hks2 := hks f.r hfr.1 _ hsm
            refine ⟨[(Str.ofString "node", I (f.r.suc.getD f.i 0)), (Str.ofString "node2stacki", .ref aN), (Str.ofString "seen", .ref aE), (Str.ofString "itstack", .ref aI), (Str.ofString "stack", .ref aS), (Str.ofString "n2i", .ref N), (Str.ofString "self", .ref x)], _, (S.vars (by walk_at "vars")).to ?_, hJ1 ((g.length - seen.length) * (B + 2) + mu (st ++ [{ f with i := f.i + 1 }])) _ _ (by rw [mu_app, mu_one]; show _ + (_ + (f.r.suc.length - (f.i + 1) + 1)) < _; omega) ⟨st ++ [{ f with i := f.i + 1 }], seen, kv, epN, f.r.suc.getD f.i 0, rfl, rfl, ⟨?_, ?_⟩, ?_, hsn, hsk, hks2.1, ?_, Nat.le_refl _⟩⟩
            · simp only [stkL_app, stkL_one, List.map_append, List.map_cons, List.map_nil, List.append_assoc, List.cons_append, List.nil_append]
              walk_at "sub"
            · intro f' hf'
              rcases List.mem_append.mp hf' with hf' | hf'
              · exact hok.mem f' (by simp [hf'])
              · rw [List.mem_singleton.mp hf']; exact ⟨hfr.1, hlt⟩
            · refine List.pairwise_append.mpr ⟨(List.pairwise_append.mp hok.dec).1, List.pairwise_singleton _ _, fun f₀ h₀ f' hf' => ?_⟩
              rw [List.mem_singleton.mp hf']; exact hdec f₀ h₀
            · simpa using hkv
            · intro f' hf'
              rcases List.mem_append.mp hf' with hf' | hf'
              · exact Nat.lt_trans hks2.2 (hdec f' hf')
              · rw [List.mem_singleton.mp hf']; exact hks2.2
          · refine wrap_stop (xs := f.r.suc.map I) k.h S (by walk_at "mem") (by walk_at "rem") (by walk_at "mem") (by simpa using hlt) fun e ob vs s h1 h2 h3 S => ?_
            have hFF := fun (P₂ : Led) (h : SubM P₂ ((L, MO.frame m) :: ((x, .inst 154 dx) :: (dx, tsA N rd po fi) :: (N, .dict (kvs g) ep) :: (nodes g ++ P)))) (m₂ : List (Str × Value)) => FF.call (m₂ := m₂) (P₂ := P₂) hA (by show ScopeKind.function ≠ ScopeKind.module; decide) rfl fun Le me hq => SubM.mem h hq
            refine caught (hFF _ ?hsb _) S h1 h2 h3 (T := "StopIteration") (isSubtype_of_subB (by decide +kernel)) (isSubtype_of_subB (by decide +kernel)) (isSubtype_of_subB (by decide +kernel)) ?_ ?_ rfl
            case hsb => walk_at "sub"
            · intro s' Q' S hq
              exact name_boot G S (by rfl) (by decide +kernel) hq
            · intro s' S
              clear k
              walk_at "go"
              refine list_pop (ys := st.map fun f => I f.r.key) (v := I f.r.key) S rfl (by walk_at "upd") (by simp only [List.length_append, List.length_map, List.length_singleton] at hslk ⊢; rw [sizeLine_eq]; omega) ?_
              clear S; intro t s S
              have hkl : kv.length = st.length + 1 := by have := congrArg List.length hkv; simpa using this
              have hkn : (kv.map (·.1)).Nodup := by
                rw [hkv]
                refine List.pairwise_map.mpr (hok.dec.imp fun {a b} h e => ?_)
                rw [e] at h; exact Nat.lt_irrefl _ h
              have hdl : (ddel kv f.r.key).map (·.1) = st.map (·.r.key) := by
                have e1 : (ddel kv f.r.key).map (·.1) = (kv.map (·.1)).filter (· != f.r.key) := by unfold ddel; rw [List.filter_map]; rfl
                rw [e1, hkv, List.map_append, List.filter_append]
                have e2 : (st.map (·.r.key)).filter (· != f.r.key) = st.map (·.r.key) := by
                  refine List.filter_eq_self.mpr fun n hn => ?_
                  obtain ⟨f₀, h₀, rfl⟩ := List.mem_map.mp hn
                  have := hdec f₀ h₀
                  have hne : f₀.r.key ≠ f.r.key := fun q => by rw [q] at this; exact Nat.lt_irrefl _ this
                  simpa using hne
                rw [e2]; simp
              refine dict_del S (by walk_at "rem") (by rw [hkl, sizeLine_eq]; simp only [List.length_append, List.length_singleton] at hslk; omega) ?_ fun ep' s S => ?_
              · unfold dget
                rw [Option.isSome_map, List.find?_isSome]
                have : f.r.key ∈ kv.map (·.1) := by rw [hkv]; simp
                obtain ⟨p, hp, e⟩ := List.mem_map.mp this
                exact ⟨p, hp, by simp [e]⟩
              walk_at "go"
              refine list_pop (ys := st.map fun f => Value.ref f.u) (v := Value.ref f.u) S rfl (by walk_at "upd") (by simp only [List.length_append, List.length_map, List.length_singleton] at hslk ⊢; rw [sizeLine_eq]; omega) ?_
              clear S; intro s S
              walk_at "go"
              refine ⟨[(Str.ofString "node", I nd), (Str.ofString "node2stacki", .ref aN), (Str.ofString "seen", .ref aE), (Str.ofString "itstack", .ref aI), (Str.ofString "stack", .ref aS), (Str.ofString "n2i", .ref N), (Str.ofString "self", .ref x)], _, (S.vars (by walk_at "vars")).to ?_, hJ2 (mu st) _ _ (by omega) ⟨st, ddel kv f.r.key, ep', rfl, rfl, ⟨fun f' hf' => hok.mem f' (by simp [hf']), (List.pairwise_append.mp hok.dec).1⟩, hdl, by omega, Nat.le_refl _⟩⟩
              walk_at "sub"
  · rintro m' P' s ⟨rfl, seen, epN, rfl, hsn, hsk⟩ S
    change Sim w s₀ L' _ _ _ at S
    walk_at "go"
    exact h _ (S.out (by walk_at "sub"))
end

section
variable {prog : Program} {w : World} {A : Around} {s₀ s : Shared} {L : Addr} {m : List (Str × Value)} {P R : Led} {d : Nat} {E : Value → Shared → Prop}
def free0 (g : AG) : List Int := (g.filter fun r => r.2.1 == 0).map (·.1)

theorem prep_spec {x dx N : Addr} {po fi : Int} {g : List Nd} {ep : Nat} {Q : Value → Shared → Prop} (G : Gr (K w) s₀.heap) (k : OK A (d + 4)) {fs : List Env}
    (FF : Frames A L m ((x, .inst 154 dx) :: (dx, tsA N .none po fi) :: (N, .dict (kvs g) ep) :: (nodes g ++ P)) fs)
    (S : Sim w s₀ L m ((x, .inst 154 dx) :: (dx, tsA N .none po fi) :: (N, .dict (kvs g) ep) :: (nodes g ++ P)) s) (hz : g.length ≤ 1000) (rk : Int → Nat) (B : Nat) (hB : ∀ q ∈ g, q.suc.length ≤ B)
    (hks : ∀ q ∈ g, ∀ n ∈ q.suc, n ∈ (g.map ab).map (·.1) ∧ rk n < rk q.key)
    (h : ∀ ra s', Sim w s₀ L m ((x, .inst 154 dx) :: (dx, tsA N (.ref ra) po fi) :: (ra, .list ((free0 (g.map ab)).map I)) :: (N, .dict (kvs g) ep) :: (nodes g ++ P)) s' → Q .none s') :
    wpAny (model prog w) A (call (.ref 109) [.ref x]) Q E s := by
  refine call_defF [(Str.ofString "self", .ref x)] G k FF S rfl rfl rfl rfl (BindsTo.of_eq rfl) (by decide) (by rfl) (by walk_at "vars") fun L' s A' S k hA => ?_
  walk_at "go"
  walk_at "no"
  walk_at "go"
  refine comp_start rfl (comp_code (src_vals k.h (a := N) (kvs := kvs g) (ep := ep)) (fun i m' P' => P' = (a, .list ((free0 ((g.map ab).take i)).map I)) :: (L', .frame [(Str.ofString "self", .ref x)]) :: (L, .frame m) :: (x, .inst 154 dx) :: (dx, tsA N .none po fi) :: (N, .dict (kvs g) ep) :: (nodes g ++ P)) (S.to (by walk_at "sub")) rfl ?hreq turn_list1 ?step ?done) (self_vals S (by walk_at "mem"))
  case hreq => rintro i m' P' rfl; walk_at "mem"
  case step =>
    rintro i m' P' hi rfl J hJ
    have hi' : i < g.length := by unfold kvs at hi; simpa using hi
    obtain ⟨ga, r, gb, hg, hla⟩ : ∃ ga r gb, g = ga ++ r :: gb ∧ ga.length = i := ⟨g.take i, g[i], g.drop (i + 1), by rw [List.getElem_cons_drop, List.take_append_drop], by rw [List.length_take]; omega⟩
    have hgd : (kvs g).getD i (0, .none) = (r.key, .ref r.aI) := by subst hg; subst hla; simp [kvs]
    have htk : (g.map ab).take i = ga.map ab := by subst hg; subst hla; simp
    have htk1 : (g.map ab).take (i + 1) = ga.map ab ++ [ab r] := by subst hg; subst hla; simp [List.take_append, List.take_of_length_le]
    have hlen : (free0 (ga.map ab)).length ≤ g.length := by
      unfold free0
      rw [List.length_map]
      refine Nat.le_trans (List.length_filter_le _ _) ?_
      rw [hg]; simp
    rw [hgd]
    intro s S
    change Sim w s₀ C _ _ _ at S
    rw [htk] at S
    dsimp only [List.nil_append, List.cons_append] at S
    walk_at "go"
    have S := S.to (Q := (it, .viter N (i + 1) (kvs g).length ep) :: (a, .list ((free0 (ga.map ab)).map I)) :: (L', .frame [(Str.ofString "self", .ref x)]) :: (L, .frame m) :: (x, .inst 154 dx) :: (dx, tsA N .none po fi) :: (N, .dict (kvs g) ep) :: (nodes ga ++ (r.aI, ndO 57 r.aD r.aL r.np r.key) :: (r.aD, .attrs []) :: (r.aL, .list (r.suc.map I)) :: (nodes gb ++ P))) (by rw [hg]; walk_at "subn")
    walk_at "go"
    by_cases hz0 : r.np = 0
    · rw [if_pos (by rw [hz0]; rfl)]
      walk_at "go"
      refine ⟨rfl, _, _, S.to (Q := (it, .viter N (i + 1) (kvs g).length ep) :: (a, .list ((free0 ((g.map ab).take (i + 1))).map I)) :: (L', .frame [(Str.ofString "self", .ref x)]) :: (L, .frame m) :: (x, .inst 154 dx) :: (dx, tsA N .none po fi) :: (N, .dict (kvs g) ep) :: (nodes g ++ P)) ?_, hJ _ _ rfl⟩
      have e : (free0 ((g.map ab).take (i + 1))).map I = (free0 (ga.map ab)).map I ++ [I r.key] := by rw [htk1]; unfold free0; simp [List.filter_append, hz0]
      rw [e, hg]; walk_at "subn"
    · rw [if_neg (by simpa using hz0)]
      refine ⟨_, _, S.to (Q := (it, .viter N (i + 1) (kvs g).length ep) :: (a, .list ((free0 ((g.map ab).take (i + 1))).map I)) :: (L', .frame [(Str.ofString "self", .ref x)]) :: (L, .frame m) :: (x, .inst 154 dx) :: (dx, tsA N .none po fi) :: (N, .dict (kvs g) ep) :: (nodes g ++ P)) ?_, hJ _ _ rfl⟩
      have e : (free0 ((g.map ab).take (i + 1))).map I = (free0 (ga.map ab)).map I := by rw [htk1]; unfold free0; simp [List.filter_append, hz0]
      rw [e, hg]; walk_at "subn"
  case done =>
    rintro m' P' s rfl S
    change Sim w s₀ C _ _ _ at S
    refine comp_end S (L := L') (m := [(Str.ofString "self", .ref x)]) (P' := (a, .list ((free0 (g.map ab)).map I)) :: (L, .frame m) :: (x, .inst 154 dx) :: (dx, tsA N .none po fi) :: (N, .dict (kvs g) ep) :: (nodes g ++ P)) ?_ ?_
    · rw [show (g.map ab).take (kvs g).length = g.map ab from List.take_of_length_le (by simp [kvs])]
      walk_at "sub"
    clear S; intro s S
    walk_at "go"
    have hFF := fun (P₂ : Led) (h : SubM P₂ ((L, MO.frame m) :: ((x, .inst 154 dx) :: (dx, tsA N .none po fi) :: (N, .dict (kvs g) ep) :: (nodes g ++ P)))) (m₂ : List (Str × Value)) => FF.call (m₂ := m₂) (P₂ := P₂) hA (by show ScopeKind.function ≠ ScopeKind.module; decide) rfl fun Le me hq => SubM.mem h hq
    replace S := S.to (Q := (x, .inst 154 dx) :: (dx, tsA N (.ref a) po fi) :: (N, .dict (kvs g) ep) :: (nodes g ++ ((L, .frame m) :: (a, .list ((free0 (g.map ab)).map I)) :: P))) (by walk_at "sub")
    refine cyc_spec (d := d) G k (fs := _) ⟨hA, ?_⟩ S hz rk B hB hks fun s S => ?_
    · intro e he
      rcases List.mem_cons.mp he with rfl | he
      · exact ⟨by show ScopeKind.function ≠ ScopeKind.module; decide, L', _, rfl, .head _⟩
      · obtain ⟨q1, Le, me, q2, q3⟩ := FF.2 e he
        refine ⟨q1, Le, me, q2, .tail _ ?_⟩
        rcases List.mem_cons.mp q3 with q | q3
        · cases q; walk_at "mem"
        rcases List.mem_cons.mp q3 with q | q3
        · cases q
        rcases List.mem_cons.mp q3 with q | q3
        · cases q
        rcases List.mem_cons.mp q3 with q | q3
        · cases q
        rcases List.mem_append.mp q3 with q3 | q3
        · walk_at "mem"
        · walk_at "mem"
    walk_at "go"
    walk_at "no"
    walk_at "go"
    dsimp only [retv]
    exact h a _ (S.out (by walk_at "sub"))
end

theorem All.mk {x : Value} {Q : Value → Prop} (hx : er x = x) (h : ∀ v, er v = x → Q v) : All x Q := by
  cases x <;> first | exact h _ hx | (intro t; refine h _ ?_; simp only [er] at hx ⊢; exact hx)
section
variable {prog : Program} {w : World} {A : Around} {s₀ s : Shared} {L : Addr} {m : List (Str × Value)} {P R : Led} {d : Nat} {E : Value → Shared → Prop}

theorem reduce_fn {f a : Addr} {xs : List Value} {v0 : Value} {Q : Value → Shared → Prop} (Inv : Nat → Value → Led → Prop) (G : Gr (K w) s₀.heap) (k : OK A (d + 2)) (Kp : Heap → Prop)
    (hk : ∀ h, Kp h → ∃ k, (k = Keeper.frame ∨ k = Keeper.machine ∨ k = Keeper.boundFrame) ∧ Looks (model prog w) h (keeperOf (.ref f)) k) (hkp : ∀ i v P X L m s, Inv i v P → Sim w s₀ L m (X ++ P) s → Kp s.heap)
    (S : Sim w s₀ L m P s) (hv : (∃ i t, v0 = .int i t) ∨ ∃ l ys, v0 = .ref l ∧ (l, MO.list ys) ∈ P) (h0 : Inv 0 (er v0) P) (hreq : ∀ i v P, Inv i v P → (a, MO.list xs) ∈ P)
    (step : ∀ i v P X L m A s, i < xs.length → Inv i v P → OK A (d + 1) → Sim w s₀ L m (X ++ P) s → All v fun v' => All (xs.getD i .none) fun x' =>
      wpAny (model prog w) A (call (.ref f) [v', x']) (fun r s' => ∃ P', Inv (i + 1) (er r) P' ∧ Sim w s₀ L m (X ++ P') s') noE s)
    (h : ∀ v P' s', Inv xs.length v P' → Sim w s₀ L m P' s' → All v fun v' => Q v' s') :
    wpAny (model prog w) A (call (.ref 30) [.ref f, .ref a, v0]) Q E s := by
  refine call_def2 [(Str.ofString "function", .ref f), (Str.ofString "sequence", .ref a), (Str.ofString "initial", er v0)] G k S rfl rfl rfl rfl (binds_K (S.K_in G) rfl rfl rfl rfl rfl) (by decide) (by rfl) (by walk_at "vars") fun L' s A S k => ?_
  have hma := hreq _ _ _ h0
  refine wpAny_execs_cons (wpAny_mono (Q := fun f₁ s' => f₁ = .next ∧ ∃ it, Sim w s₀ L' [(Str.ofString "it", .ref it), (Str.ofString "function", .ref f), (Str.ofString "initial", er v0)] ((it, .liter a 0) :: (L, .frame m) :: P) s') ?st0 ?rest0 fun _ _ x => x)
  case st0 =>
    walk_at "go"
    replace S := (S.at (a := it) (by walk_at "rem")).re (o' := .liter a 0) fun _ h => by subst h; exact ⟨rfl, rfl⟩
    exact ⟨rfl, it, (S.vars (by walk_at "vars")).to (by walk_at "sub")⟩
  case rest0 =>
  rintro f₁ s₁ ⟨rfl, it, S⟩
  refine wpAny_execs_cons (wpAny_mono (Q := fun f₁ s' => f₁ = .next ∧ Sim w s₀ L' [(Str.ofString "value", er v0), (Str.ofString "it", .ref it), (Str.ofString "function", .ref f)] ((it, .liter a 0) :: (L, .frame m) :: P) s') ?st1 ?rest1 fun _ _ x => x)
  case st1 =>
    rcases hv with ⟨i0, t0, rfl⟩ | ⟨l, ys, rfl, hl⟩
    · dsimp only [er] at S
      walk_at "go"
      walk_at "no"
      walk_at "go"
      exact ⟨rfl, S.vars (by walk_at "vars")⟩
    · dsimp only [er] at S
      walk_at "go"
      obtain ⟨ob, g1, ⟨vs, n, rfl, _⟩, g3⟩ := S.get (a := l) (o := .list ys) (.tail _ (.tail _ hl))
      refine wpAny_is_ref_other (fun e => ?_) g1 (S.K_in G _ _ rfl) (by show Value.type "list" ≠ Value.type "tuple"; decide) ?_
      · rw [e] at g3
        have g4 := g3.1
        rw [G.X _ _ rfl] at g4
        cases g4
      walk_at "go"
      walk_at "no"
      walk_at "go"
      exact ⟨rfl, S.vars (by walk_at "vars")⟩
  case rest1 =>
  rintro f₁ s₁ ⟨rfl, S⟩
  refine wpAny_execs_cons (wpAny_For ?_)
  refine name_local S (by rfl) ?_
  refine iter_self (self_list S (.head _)) ?_
  refine for_code (src_list k.h (a := a) (xs := xs) .none) (fun i m' P' => ∃ v P'', er v = v ∧ m' = [(Str.ofString "value", v), (Str.ofString "function", .ref f)] ∧ P' = (L, .frame m) :: P'' ∧ Inv i v P'') (P := (L, .frame m) :: P) ((S.vars (by walk_at "vars")).to (by walk_at "sub")) ⟨er v0, P, er_er _, rfl, rfl, h0⟩ ?_ ?_ ?_
  · rintro i m' P' ⟨v, P'', _, rfl, rfl, hv⟩; exact .tail _ (hreq _ _ _ hv)
  · rintro i m' P' hi ⟨v, P'', hv0, rfl, rfl, hv⟩ J hJ QJ hQ
    obtain ⟨vs, _, hvs⟩ := S.isl (a := a) (xs := xs) (by walk_at "mem")
    have hx0 : er (xs.getD i .none) = xs.getD i .none := by
      rw [← hvs, List.getD_eq_getElem?_getD, List.getElem?_map]
      cases vs[i]? with
      | none => rfl
      | some u => exact er_er u
    refine All.mk hx0 fun x₁ hx₁ => ?_
    clear S
    intro s S
    change Sim w s₀ L' _ _ _ at S
    dsimp only [List.nil_append, List.cons_append] at S
    refine wpAny_assign_Name (store_local S ?_)
    clear S; intro s S
    rw [hx₁] at S
    refine wpAny_execs_cons (wpAny_Assign_Name (Call_Name rfl ?_))
    refine name_local S (by rfl) ?_
    refine callWith_P hk ?_
    refine wpAny_items_cons ?_
    refine name_local S (by rfl) (All.mk hv0 fun v' hv' => ?_)
    refine wpAny_items_cons ?_
    refine name_local S (by rfl) (All.mk hx0 fun x' hx' => ?_)
    refine wpAny_items_nil ?_
    refine ⟨hkp i v P'' [(it, .liter a (i + 1)), (L, .frame m)] L' _ _ hv S, ?_⟩
    have := ((step i v P'' [(it, .liter a (i + 1)), (L, .frame m)] L' _ A s hi hv k S).of hv').of hx'
    refine wpAny_mono this (fun r s' hr => ?_) fun _ _ x => x
    obtain ⟨P₁, hi₁, S⟩ := hr
    refine store_local S ?_
    clear S; intro s S
    refine wpAny_execs_nil ?_
    exact ⟨[(Str.ofString "value", er r), (Str.ofString "function", .ref f)], (L, .frame m) :: P₁, S.vars (by walk_at "vars"), hJ _ _ ⟨er r, P₁, er_er r, rfl, rfl, hi₁⟩⟩
  · rintro m' P' s ⟨v, P'', hv0, rfl, rfl, hv⟩ S
    change Sim w s₀ L' _ _ _ at S
    refine wpAny_execs_nil ?_
    refine wpAny_execs_cons (wpAny_Return_some ?_)
    refine name_local S (by rfl) (All.mk hv0 fun v' hv' => ?_)
    exact (h v P'' _ hv S.leave).of hv'
end

def fl (n i : Nat) : Nat := n / 2 ^ i * 2 ^ i
def nmOf (i : Nat) : Str := [Str.ofString "OPTIMIZED", Str.ofString "NEWLOCALS", Str.ofString "VARARGS", Str.ofString "VARKEYWORDS", Str.ofString "NESTED"].getD i (Str.ofString "")
def bitsTo (n i : Nat) : List Nat := (List.range i).filter (fun j => n.testBit j)
theorem fl_and : ∀ n < 32, ∀ i < 5, (Builtin.bitAnd (fl n i : Int) ((2 ^ i : Nat) : Int) ≠ 0 ↔ n.testBit i = true) := by decide +kernel
theorem fl_xor : ∀ n < 32, ∀ i < 5, n.testBit i = true → Builtin.bitXor (fl n i : Int) ((2 ^ i : Nat) : Int) = (fl n (i + 1) : Int) := by decide +kernel
theorem fl_same : ∀ n < 32, ∀ i < 5, n.testBit i = false → fl n i = fl n (i + 1) := by decide +kernel
theorem fl_end : ∀ n < 32, fl n 5 = 0 := by decide +kernel
theorem bits_end : ∀ n < 32, ∀ i < 5, fl n (i + 1) = 0 → bitsTo n (i + 1) = bitsTo n 5 := by decide +kernel
theorem bits_succ (n i : Nat) : bitsTo n (i + 1) = bitsTo n i ++ (if n.testBit i then [i] else []) := by
  unfold bitsTo
  rw [List.range_succ, List.filter_append]
  cases h : n.testBit i <;> simp [h]
def flagKvs : List (Int × Value) := [(1, T (Str.ofString "OPTIMIZED")), (2, T (Str.ofString "NEWLOCALS")), (4, T (Str.ofString "VARARGS")), (8, T (Str.ofString "VARKEYWORDS")), (16, T (Str.ofString "NESTED")), (32, T (Str.ofString "GENERATOR")), (64, T (Str.ofString "NOFREE")), (128, T (Str.ofString "COROUTINE")), (256, T (Str.ofString "ITERABLE_COROUTINE")), (512, T (Str.ofString "ASYNC_GENERATOR"))]
theorem flag_get : ∀ i < 5, dget flagKvs ((2 ^ i : Nat) : Int) = some (T (nmOf i))
  | 0, _ => rfl
  | 1, _ => rfl
  | 2, _ => rfl
  | 3, _ => rfl
  | 4, _ => rfl
theorem hex_len : ∀ i < 5, (baseText "0x" 16 ((2 ^ i : Nat) : Int)).length ≤ 100 := by decide +kernel
theorem bits_len (n i : Nat) : (bitsTo n i).length ≤ i := by
  unfold bitsTo
  exact Nat.le_trans (List.length_filter_le _ _) (by simp)
theorem join_len (n : Nat) : (((bitsTo n 5).map nmOf).map (·.length)).sum + ((bitsTo n 5).map nmOf).length * (Str.ofString ", ").length ≤ 16777216 := by
  have h : ∀ l : List Nat, ((l.map nmOf).map (·.length)).sum ≤ l.length * 11 := by
    intro l
    induction l with
    | nil => simp
    | cons x l ih =>
      have hx : (nmOf x).length ≤ 11 := by
        match x with
        | 0 => decide
        | 1 => decide
        | 2 => decide
        | 3 => decide
        | 4 => decide
        | x + 5 => simp [nmOf]; decide
      simp only [List.map_cons, List.sum_cons, List.length_cons, Nat.succ_mul]
      omega
  have h1 := h (bitsTo n 5)
  have h2 := bits_len n 5
  have h3 : (Str.ofString ", ").length = 2 := by decide
  rw [h3, List.length_map]
  omega
section
variable {prog : Program} {w : World} {A : Around} {s₀ s : Shared} {L : Addr} {m : List (Str × Value)} {P R : Led} {d : Nat} {E : Value → Shared → Prop}
theorem flags_spec {n : Nat} {t0 : Tok} {Q : Value → Shared → Prop} (G : Gr (K w) s₀.heap) (k : OK A (d + 2)) (S : Sim w s₀ L m P s) (hn0 : 0 < n) (hn : n < 32)
    (h : ∀ t s', Sim w s₀ L m P s' → Q (.str (Txt.join (Str.ofString ", ") ((bitsTo n 5).map nmOf)) t) s') :
    wpAny (model prog w) A (call (.ref 38) [.int n t0]) Q E s := by
  refine call_def2 [(Str.ofString "flags", I n)] G k S rfl rfl rfl rfl (BindsTo.of_eq rfl) (by decide) (by rfl) (by walk_at "vars") fun L' s A S k => ?_
  walk_at "go"
  refine range_iter (n := 32) S (by walk_at "mem") (by decide) (by decide) ?_
  clear S; intro it s S
  refine for_code (src_range k.h 0 1 32) (fun i m' P' => i < 5 ∧ fl n i ≠ 0 ∧ m' = [(Str.ofString "names", .ref a), (Str.ofString "flags", I (fl n i : Nat))] ∧ P' = (a, .list (((bitsTo n i).map nmOf).map T)) :: (L, .frame m) :: P) (P := (a, .list []) :: (L, .frame m) :: P) ((S.vars (m' := [(Str.ofString "names", .ref a), (Str.ofString "flags", I (fl n 0 : Nat))]) (by rw [show fl n 0 = n by simp [fl]]; walk_at "vars")).to (by walk_at "sub")) ⟨by decide, by simp [fl]; omega, rfl, rfl⟩ ?_ ?_ ?_
  · intros; trivial
  · rintro i m' P' hi ⟨hi5, hfl, rfl, rfl⟩ J hJ QJ hQ t s S
    change Sim w s₀ L' _ _ _ at S
    dsimp only [List.nil_append, List.cons_append] at S
    walk_at "go"
    have hflag : (1 : Int) * 2 ^ ((0 : Int) + 1 * (i : Int)).toNat = ((2 ^ i : Nat) : Int) := by
      rw [show ((0 : Int) + 1 * (i : Int)).toNat = i by omega]; push_cast; omega
    rw [hflag] at S ⊢
    have h1 := fl_and n hn i hi5
    cases hb : n.testBit i with
    | false =>
      rw [if_neg (by rw [hb] at h1; simpa using h1)]
      walk_at "go"
      have e1 := fl_same n hn i hi5 hb
      refine ⟨[(Str.ofString "names", .ref a), (Str.ofString "flags", I (fl n (i + 1) : Nat))], (a, .list (((bitsTo n (i + 1)).map nmOf).map T)) :: (L, .frame m) :: P, (S.vars (by rw [← e1]; walk_at "vars")).to ?_, hJ _ _ ⟨?_, ?_, rfl, rfl⟩⟩
      · rw [bits_succ, hb]; simp only [Bool.false_eq_true, if_false, List.append_nil, List.cons_append, List.nil_append]; walk_at "sub"
      · rcases Nat.lt_or_ge (i + 1) 5 with q | q
        · exact q
        · have : i + 1 = 5 := by omega
          rw [this, fl_end n hn] at e1
          exact absurd e1 hfl
      · rw [← e1]; exact hfl
    | true =>
      rw [if_pos (by rw [hb] at h1; simpa using h1)]
      walk_at "go"
      refine hex_int S (by have := hex_len i hi5; rw [sizeLine_eq]; omega) ?_
      clear S; intro hx th s S
      walk_at "go"
      refine kdict_get (kvs := flagKvs) G S rfl ⟨_, rfl, rfl, by decide⟩ (by decide) ?_
      rw [flag_get i hi5]
      clear S; intro tn s S
      have hbl := bits_len n i
      walk_at "go"
      rw [fl_xor n hn i hi5 hb] at S ⊢
      by_cases hz : fl n (i + 1) = 0
      · rw [if_pos (by rw [hz]; rfl)]
        walk_at "go"
        dsimp only [LoopEnd]
        refine hQ _ _ ?_
        walk_at "go"
        replace S := S.to (Q := (a, .list (((bitsTo n 5).map nmOf).map T)) :: (L, .frame m) :: P) (by
          rw [← bits_end n hn i hi5 hz, bits_succ, hb]
          simp only [if_true, List.map_append, List.map_cons, List.map_nil]
          walk_at "sub")
        refine str_join S (by walk_at "mem") (join_len n) ?_
        clear S; intro t s S
        walk_at "go"
        dsimp only [retv]
        exact h _ _ (S.out (by walk_at "sub"))
      · rw [if_neg (by simpa using hz)]
        walk_at "go"
        refine ⟨[(Str.ofString "names", .ref a), (Str.ofString "flags", I (fl n (i + 1) : Nat))], (a, .list (((bitsTo n (i + 1)).map nmOf).map T)) :: (L, .frame m) :: P, (S.vars (by walk_at "vars")).to ?_, hJ _ _ ⟨?_, hz, rfl, rfl⟩⟩
        · rw [bits_succ, hb]; simp only [if_true, List.map_append, List.map_cons, List.map_nil, List.cons_append, List.nil_append]; walk_at "sub"
        · rcases Nat.lt_or_ge (i + 1) 5 with q | q
          · exact q
          · have : i + 1 = 5 := by omega
            rw [this, fl_end n hn] at hz
            exact absurd rfl hz
  · rintro m' P' s ⟨hi5, _⟩; omega
end

theorem le_sum {x : Nat} : ∀ {l : List Nat}, x ∈ l → x ≤ l.sum
  | [], h => by cases h
  | y :: l, h => by
    rw [List.sum_cons]
    rcases List.mem_cons.mp h with rfl | h
    · omega
    · have := le_sum h; omega

abbrev ksOf (g : AG) : List Int := g.map (·.1)
theorem npOf_map {f : Int × Int × List Int → Int × Int × List Int} {s n : Int} (hf : ∀ r, (f r).1 = r.1) : ∀ g : AG, npOf (g.map fun r => if r.1 = s then f r else r) n = if n = s ∧ n ∈ ksOf g then ((g.find? fun r => r.1 == n).map fun r => (f r).2.1).getD 0 else npOf g n
  | [] => by simp [npOf]
  | r :: g => by
    have ih := npOf_map hf (s := s) (n := n) g
    unfold npOf at ih ⊢
    by_cases hr : r.1 = n
    · by_cases hs : n = s
      · subst hs
        simp [hr, hf]
      · have : ¬ r.1 = s := fun e => hs (hr.symm.trans e)
        simp [hr, hs, this]
    · have e1 : (r.1 == n) = false := beq_eq_false_iff_ne.mpr hr
      have e2 : ((if r.1 = s then f r else r).1 == n) = false := by split <;> simp [hf, e1]
      have e3 : (n = s ∧ n ∈ r.1 :: List.map (fun x => x.1) g) ↔ (n = s ∧ n ∈ ksOf g) := by simp [Ne.symm hr]
      simp only [List.map_cons, List.find?_cons, e2, e1]
      rw [ih]
      by_cases hq : n = s ∧ n ∈ ksOf g
      · rw [if_pos hq, if_pos (e3.mpr hq)]
      · rw [if_neg hq, if_neg (fun x => hq (e3.mp x))]
theorem sucOf_map {f : Int × Int × List Int → Int × Int × List Int} {s n : Int} (hf : ∀ r, (f r).1 = r.1) : ∀ g : AG, sucOf (g.map fun r => if r.1 = s then f r else r) n = if n = s ∧ n ∈ ksOf g then ((g.find? fun r => r.1 == n).map fun r => (f r).2.2).getD [] else sucOf g n
  | [] => by simp [sucOf]
  | r :: g => by
    have ih := sucOf_map hf (s := s) (n := n) g
    unfold sucOf at ih ⊢
    by_cases hr : r.1 = n
    · by_cases hs : n = s
      · subst hs
        simp [hr, hf]
      · have : ¬ r.1 = s := fun e => hs (hr.symm.trans e)
        simp [hr, hs, this]
    · have e1 : (r.1 == n) = false := beq_eq_false_iff_ne.mpr hr
      have e2 : ((if r.1 = s then f r else r).1 == n) = false := by split <;> simp [hf, e1]
      have e3 : (n = s ∧ n ∈ r.1 :: List.map (fun x => x.1) g) ↔ (n = s ∧ n ∈ ksOf g) := by simp [Ne.symm hr]
      simp only [List.map_cons, List.find?_cons, e2, e1]
      rw [ih]
      by_cases hq : n = s ∧ n ∈ ksOf g
      · rw [if_pos hq, if_pos (e3.mpr hq)]
      · rw [if_neg hq, if_neg (fun x => hq (e3.mp x))]
theorem find_some {g : AG} {n : Int} (h : n ∈ ksOf g) : ∃ r ∈ g, r.1 = n ∧ g.find? (fun r => r.1 == n) = some r := by
  cases hq : g.find? (fun r => r.1 == n) with
  | none =>
    obtain ⟨r, hr, rfl⟩ := List.mem_map.mp h
    have := List.find?_eq_none.mp hq r hr
    simp at this
  | some r => exact ⟨r, List.mem_of_find?_eq_some hq, by simpa using List.find?_some hq, rfl⟩
theorem ks_map {f : Int × Int × List Int → Int × Int × List Int} {s : Int} (hf : ∀ r, (f r).1 = r.1) (g : AG) : ksOf (g.map fun r => if r.1 = s then f r else r) = ksOf g := by
  unfold ksOf
  rw [List.map_map]
  refine List.map_congr_left fun r _ => ?_
  simp only [Function.comp]; split <;> simp [hf]
theorem np_bump {g : AG} {s c n : Int} (hn : n ∈ ksOf g) : npOf (bump g s c) n = if n = s then npOf g n + c else npOf g n := by
  unfold bump
  rw [npOf_map (f := fun r => (r.1, r.2.1 + c, r.2.2)) fun _ => rfl]
  obtain ⟨r, _, _, h⟩ := find_some hn
  by_cases e : n = s
  · rw [if_pos ⟨e, hn⟩, if_pos e]; unfold npOf; rw [h]; rfl
  · rw [if_neg (fun x => e x.1), if_neg e]
theorem np_setNp {g : AG} {s c n : Int} (hn : n ∈ ksOf g) : npOf (setNp g s c) n = if n = s then c else npOf g n := by
  unfold setNp
  rw [npOf_map (f := fun r => (r.1, c, r.2.2)) fun _ => rfl]
  obtain ⟨r, _, _, h⟩ := find_some hn
  by_cases e : n = s
  · rw [if_pos ⟨e, hn⟩, if_pos e, h]; rfl
  · rw [if_neg (fun x => e x.1), if_neg e]
theorem np_link {g : AG} {s c n : Int} : npOf (link g s c) n = npOf g n := by
  unfold link
  rw [npOf_map (f := fun r => (r.1, r.2.1, r.2.2 ++ [c])) fun _ => rfl]
  by_cases e : n = s ∧ n ∈ ksOf g
  · obtain ⟨r, _, _, h⟩ := find_some e.2
    rw [if_pos e, h]; unfold npOf; rw [h]; try rfl
  · rw [if_neg e]
theorem suc_bump {g : AG} {s c n : Int} : sucOf (bump g s c) n = sucOf g n := by
  unfold bump
  rw [sucOf_map (f := fun r => (r.1, r.2.1 + c, r.2.2)) fun _ => rfl]
  by_cases e : n = s ∧ n ∈ ksOf g
  · obtain ⟨r, _, _, h⟩ := find_some e.2
    rw [if_pos e, h]; unfold sucOf; rw [h]; try rfl
  · rw [if_neg e]
theorem suc_setNp {g : AG} {s c n : Int} : sucOf (setNp g s c) n = sucOf g n := by
  unfold setNp
  rw [sucOf_map (f := fun r => (r.1, c, r.2.2)) fun _ => rfl]
  by_cases e : n = s ∧ n ∈ ksOf g
  · obtain ⟨r, _, _, h⟩ := find_some e.2
    rw [if_pos e, h]; unfold sucOf; rw [h]; try rfl
  · rw [if_neg e]
theorem suc_link {g : AG} {s c n : Int} (hn : n ∈ ksOf g) : sucOf (link g s c) n = if n = s then sucOf g n ++ [c] else sucOf g n := by
  unfold link
  rw [sucOf_map (f := fun r => (r.1, r.2.1, r.2.2 ++ [c])) fun _ => rfl]
  obtain ⟨r, _, _, h⟩ := find_some hn
  by_cases e : n = s
  · rw [if_pos ⟨e, hn⟩, if_pos e]; unfold sucOf; rw [h]; rfl
  · rw [if_neg (fun x => e x.1), if_neg e]
theorem ks_bump (g : AG) (s c : Int) : ksOf (bump g s c) = ksOf g := ks_map (f := fun r => (r.1, r.2.1 + c, r.2.2)) (fun _ => rfl) g
theorem ks_setNp (g : AG) (s c : Int) : ksOf (setNp g s c) = ksOf g := ks_map (f := fun r => (r.1, c, r.2.2)) (fun _ => rfl) g
theorem ks_link (g : AG) (s c : Int) : ksOf (link g s c) = ksOf g := ks_map (f := fun r => (r.1, r.2.1, r.2.2 ++ [c])) (fun _ => rfl) g
theorem ks_touch (g : AG) (n : Int) : ksOf (touch g n) = if n ∈ ksOf g then ksOf g else ksOf g ++ [n] := by
  unfold touch; split <;> simp [ksOf]
theorem np_touch (g : AG) (n k : Int) : npOf (touch g n) k = npOf g k := by
  unfold touch
  by_cases h : n ∈ g.map (·.1)
  · rw [if_pos h]
  · rw [if_neg h]
    unfold npOf
    rw [List.find?_append]
    by_cases hk : k ∈ ksOf g
    · obtain ⟨r, _, _, e⟩ := find_some hk
      rw [e]; rfl
    · have e : g.find? (fun r => r.1 == k) = none := List.find?_eq_none.mpr fun r hr q => hk (List.mem_map.mpr ⟨r, hr, by simpa using q⟩)
      rw [e]
      by_cases q : n = k <;> simp [q]
theorem suc_touch (g : AG) (n k : Int) : sucOf (touch g n) k = sucOf g k := by
  unfold touch
  by_cases h : n ∈ g.map (·.1)
  · rw [if_pos h]
  · rw [if_neg h]
    unfold sucOf
    rw [List.find?_append]
    by_cases hk : k ∈ ksOf g
    · obtain ⟨r, _, _, e⟩ := find_some hk
      rw [e]; rfl
    · have e : g.find? (fun r => r.1 == k) = none := List.find?_eq_none.mpr fun r hr q => hk (List.mem_map.mpr ⟨r, hr, by simpa using q⟩)
      rw [e]
      by_cases q : n = k <;> simp [q]

/-- the graph with its levels -/
structure Lev (G : AG) (lv : Int → Nat) : Prop where
  nd : (ksOf G).Nodup
  cl : ∀ p ∈ ksOf G, ∀ n ∈ sucOf G p, n ∈ ksOf G ∧ lv p < lv n
  np : ∀ n ∈ ksOf G, npOf G n = (((ksOf G).map fun p => (sucOf G p).count n).sum : Nat)
  st : ∀ n ∈ ksOf G, lv n = 0 ∨ ∃ p ∈ ksOf G, n ∈ sucOf G p ∧ lv p + 1 = lv n
structure At (G : AG) (lv : Int → Nat) (k : Nat) (g : AG) (rd : List Int) : Prop where
  ks : ksOf g = ksOf G
  su : ∀ p, sucOf g p = sucOf G p
  nr : rd.Nodup
  mr : ∀ n, n ∈ rd ↔ n ∈ ksOf G ∧ lv n = k
  np : ∀ n ∈ ksOf G, k ≤ lv n → npOf g n = ((((ksOf G).filter fun p => decide (k ≤ lv p)).map fun p => (sucOf G p).count n).sum : Nat)

theorem steps {G : AG} {hi : Int → Prop} : ∀ (ss : List Int) (g : AG) (rd : List Int), ksOf g = ksOf G → (∀ s ∈ ss, s ∈ ksOf G ∧ hi s) → (∀ n ∈ ksOf G, hi n → ((ss.count n : Nat) : Int) ≤ npOf g n) → rd.Nodup → (∀ n, n ∈ rd ↔ n ∈ ksOf G ∧ hi n ∧ npOf g n = 0) →
    ksOf (ss.foldl gStep (g, rd)).1 = ksOf G ∧ (∀ p, sucOf (ss.foldl gStep (g, rd)).1 p = sucOf g p) ∧ (∀ n ∈ ksOf G, npOf (ss.foldl gStep (g, rd)).1 n = npOf g n - ((ss.count n : Nat) : Int)) ∧ (ss.foldl gStep (g, rd)).2.Nodup ∧
    (∀ n, n ∈ (ss.foldl gStep (g, rd)).2 ↔ n ∈ ksOf G ∧ hi n ∧ npOf (ss.foldl gStep (g, rd)).1 n = 0)
  | [], g, rd, hk, _, _, hn, hm => ⟨hk, fun _ => rfl, fun n _ => by simp, hn, hm⟩
  | s :: ss, g, rd, hk, hs, hc, hn, hm => by
    obtain ⟨s1, s2⟩ := hs s (.head _)
    have hk' : ksOf (bump g s (-1)) = ksOf G := (ks_bump g s (-1)).trans hk
    have npb : ∀ n ∈ ksOf G, npOf (bump g s (-1)) n = if n = s then npOf g n + -1 else npOf g n := fun n h => np_bump (by rw [hk]; exact h)
    have hcs : ((ss.count s : Nat) : Int) + 1 ≤ npOf g s := by
      have := hc s s1 s2
      rw [List.count_cons_self] at this
      omega
    have hsr : s ∉ rd := fun q => by have := ((hm s).mp q).2.2; omega
    have hc' : ∀ n ∈ ksOf G, hi n → ((ss.count n : Nat) : Int) ≤ npOf (bump g s (-1)) n := fun n h1 h2 => by
      rw [npb n h1]
      by_cases e : n = s
      · subst e; rw [if_pos rfl]; omega
      · rw [if_neg e]
        have := hc n h1 h2
        rw [List.count_cons_of_ne (Ne.symm e)] at this
        exact this
    have key : ∀ rd', rd'.Nodup → (∀ n, n ∈ rd' ↔ n ∈ ksOf G ∧ hi n ∧ npOf (bump g s (-1)) n = 0) → gStep (g, rd) s = (bump g s (-1), rd') →
      ksOf ((s :: ss).foldl gStep (g, rd)).1 = ksOf G ∧ (∀ p, sucOf ((s :: ss).foldl gStep (g, rd)).1 p = sucOf g p) ∧ (∀ n ∈ ksOf G, npOf ((s :: ss).foldl gStep (g, rd)).1 n = npOf g n - (((s :: ss).count n : Nat) : Int)) ∧ ((s :: ss).foldl gStep (g, rd)).2.Nodup ∧
      (∀ n, n ∈ ((s :: ss).foldl gStep (g, rd)).2 ↔ n ∈ ksOf G ∧ hi n ∧ npOf ((s :: ss).foldl gStep (g, rd)).1 n = 0) := by
      intro rd' h1 h2 h3
      rw [List.foldl_cons, h3]
      obtain ⟨q1, q2, q3, q4, q5⟩ := steps ss (bump g s (-1)) rd' hk' (fun x hx => hs x (.tail _ hx)) hc' h1 h2
      refine ⟨q1, fun p => (q2 p).trans suc_bump, fun n h => ?_, q4, q5⟩
      rw [q3 n h, npb n h]
      by_cases e : n = s
      · subst e; rw [if_pos rfl, List.count_cons_self]; omega
      · rw [if_neg e, List.count_cons_of_ne (Ne.symm e)]
    by_cases h0 : npOf (bump g s (-1)) s = 0
    · refine key (rd ++ [s]) ?_ ?_ (by unfold gStep; rw [if_pos h0])
      · rw [List.nodup_append]
        refine ⟨hn, by simp, ?_⟩
        intro a ha b hb e
        rw [List.mem_singleton] at hb
        subst hb; subst e; exact hsr ha
      · intro n
        rw [List.mem_append, List.mem_singleton, hm n]
        constructor
        · rintro (⟨a1, a2, a3⟩ | rfl)
          · refine ⟨a1, a2, ?_⟩
            rw [npb n a1, if_neg (fun e => by subst e; omega)]; exact a3
          · exact ⟨s1, s2, h0⟩
        · rintro ⟨a1, a2, a3⟩
          by_cases e : n = s
          · exact .inr e
          · rw [npb n a1, if_neg e] at a3
            exact .inl ⟨a1, a2, a3⟩
    · refine key rd hn ?_ (by unfold gStep; rw [if_neg h0])
      intro n
      rw [hm n]
      constructor
      · rintro ⟨a1, a2, a3⟩
        refine ⟨a1, a2, ?_⟩
        rw [npb n a1, if_neg (fun e => by subst e; omega)]; exact a3
      · rintro ⟨a1, a2, a3⟩
        refine ⟨a1, a2, ?_⟩
        rw [npb n a1] at a3
        by_cases e : n = s
        · subst e; rw [npb n a1] at h0; exact absurd a3 h0
        · rw [if_neg e] at a3; exact a3

theorem sum0 : ∀ {l : List Nat}, (∀ x ∈ l, x = 0) → l.sum = 0
  | [], _ => rfl
  | x :: l, h => by rw [List.sum_cons, h x (.head _), sum0 fun y hy => h y (.tail _ hy)]
theorem perm_sum {f : Int → Nat} {a b : List Int} (h : a.Perm b) : (a.map f).sum = (b.map f).sum := by
  induction h with
  | nil => rfl
  | cons x _ ih => simp only [List.map_cons, List.sum_cons, ih]
  | swap x y l => simp only [List.map_cons, List.sum_cons]; omega
  | trans _ _ h1 h2 => exact h1.trans h2
theorem filter_sum {f : Int → Nat} {lv : Int → Nat} {k : Nat} : ∀ l : List Int, ((l.filter fun p => decide (k ≤ lv p)).map f).sum = ((l.filter fun p => decide (lv p = k)).map f).sum + ((l.filter fun p => decide (k + 1 ≤ lv p)).map f).sum
  | [] => rfl
  | x :: l => by
    have ih := filter_sum (f := f) (lv := lv) (k := k) l
    simp only [List.filter_cons]
    by_cases h1 : lv x = k
    · have h2 : k ≤ lv x := by omega
      have h3 : ¬ k + 1 ≤ lv x := by omega
      simp only [h1, decide_true, if_true, decide_eq_true h2, decide_eq_false h3, Bool.false_eq_true, if_false, List.map_cons, List.sum_cons, ih]
      simp only [Nat.le_refl, decide_true, if_true, List.map_cons, List.sum_cons, ih, Nat.not_succ_le_self, decide_false, Bool.false_eq_true, if_false]
      omega
    · by_cases h2 : k + 1 ≤ lv x
      · have h3 : k ≤ lv x := by omega
        simp only [decide_eq_false h1, decide_eq_true h2, decide_eq_true h3, Bool.false_eq_true, if_false, if_true, List.map_cons, List.sum_cons, ih]
        omega
      · have h3 : ¬ k ≤ lv x := by omega
        simp only [decide_eq_false h1, decide_eq_false h2, decide_eq_false h3, Bool.false_eq_true, if_false, ih]

theorem sets_np : ∀ (rd : List Int) (g : AG), ksOf (rd.foldl (fun g n => setNp g n (-1)) g) = ksOf g ∧ (∀ p, sucOf (rd.foldl (fun g n => setNp g n (-1)) g) p = sucOf g p) ∧ ∀ n ∈ ksOf g, npOf (rd.foldl (fun g n => setNp g n (-1)) g) n = if n ∈ rd then -1 else npOf g n
  | [], g => ⟨rfl, fun _ => rfl, fun n _ => by simp⟩
  | x :: rd, g => by
    obtain ⟨h1, h2, h3⟩ := sets_np rd (setNp g x (-1))
    rw [ks_setNp] at h1 h3
    refine ⟨h1, fun p => (h2 p).trans suc_setNp, fun n hn => ?_⟩
    rw [List.foldl_cons, h3 n hn, np_setNp hn]
    by_cases e : n = x
    · simp [e]
    · simp [e]

theorem dones {G : AG} {lv : Int → Nat} {k : Nat} (h : Lev G lv) : ∀ (rest : List Int) (g : AG) (r : List Int), ksOf g = ksOf G → (∀ p, sucOf g p = sucOf G p) → r.Nodup → (∀ n, n ∈ r ↔ n ∈ ksOf G ∧ k < lv n ∧ npOf g n = 0) →
    (∀ n ∈ ksOf G, k < lv n → npOf g n = ((rest.map fun p => (sucOf G p).count n).sum + (((ksOf G).filter fun p => decide (k + 1 ≤ lv p)).map fun p => (sucOf G p).count n).sum : Nat)) →
    (∀ p ∈ rest, npOf g p = -1) → rest.Nodup → (∀ p ∈ rest, p ∈ ksOf G ∧ lv p = k) →
    (∀ i < rest.length, npOf ((rest.take i).foldl gDone1 (g, r)).1 (rest.getD i 0) = -1) ∧
    ksOf (rest.foldl gDone1 (g, r)).1 = ksOf G ∧ (∀ p, sucOf (rest.foldl gDone1 (g, r)).1 p = sucOf G p) ∧ (rest.foldl gDone1 (g, r)).2.Nodup ∧ (∀ n, n ∈ (rest.foldl gDone1 (g, r)).2 ↔ n ∈ ksOf G ∧ k < lv n ∧ npOf (rest.foldl gDone1 (g, r)).1 n = 0) ∧
    (∀ n ∈ ksOf G, k < lv n → npOf (rest.foldl gDone1 (g, r)).1 n = ((((ksOf G).filter fun p => decide (k + 1 ≤ lv p)).map fun p => (sucOf G p).count n).sum : Nat))
  | [], g, r, h1, h2, h3, h4, h5, _, _, _ => ⟨fun i hi => by simp at hi, h1, h2, h3, h4, fun n a b => by rw [List.foldl_nil]; simpa using h5 n a b⟩
  | p :: rest, g, r, h1, h2, h3, h4, h5, h6, h7, h8 => by
    obtain ⟨p1, p2⟩ := h8 p (.head _)
    have npn : ∀ n ∈ ksOf G, k < lv n → npOf (setNp g p (-2)) n = npOf g n := fun n a b => by
      rw [np_setNp (by rw [h1]; exact a), if_neg (fun e => by subst e; omega)]
    have cnt0 : ∀ n, lv n ≤ k → (sucOf G p).count n = 0 := fun n hn => List.count_eq_zero.mpr fun q => by have := (h.cl p p1 n q).2; omega
    obtain ⟨q1, q2, q3, q4, q5⟩ := steps (G := G) (hi := fun n => k < lv n) (sucOf G p) (setNp g p (-2)) r ((ks_setNp g p (-2)).trans h1) (fun s hs => ⟨(h.cl p p1 s hs).1, by have := (h.cl p p1 s hs).2; show k < lv s; omega⟩)
      (fun n a b => by rw [npn n a b, h5 n a b, List.map_cons, List.sum_cons]; omega) h3 (fun n => by
        rw [h4 n]
        constructor
        · rintro ⟨a, b, c⟩; exact ⟨a, b, by rw [npn n a b]; exact c⟩
        · rintro ⟨a, b, c⟩; exact ⟨a, b, by rw [npn n a b] at c; exact c⟩)
    have e : gDone1 (g, r) p = (sucOf G p).foldl gStep (setNp g p (-2), r) := by unfold gDone1; rw [h2]
    have nd := List.nodup_cons.mp h7
    obtain ⟨r1, r2, r3, r4, r5, r6⟩ := dones h rest ((sucOf G p).foldl gStep (setNp g p (-2), r)).1 ((sucOf G p).foldl gStep (setNp g p (-2), r)).2 q1 (fun x => (q2 x).trans (suc_setNp.trans (h2 x))) q4 q5
      (fun n a b => by rw [q3 n a, npn n a b, h5 n a b, List.map_cons, List.sum_cons]; omega)
      (fun x hx => by
        obtain ⟨x1, x2⟩ := h8 x (.tail _ hx)
        rw [q3 x x1, cnt0 x (by omega), np_setNp (by rw [h1]; exact x1), if_neg (fun e : x = p => nd.1 (e ▸ hx)), h6 x (.tail _ hx)]; rfl)
      nd.2 (fun x hx => h8 x (.tail _ hx))
    rw [List.foldl_cons, e]
    refine ⟨fun i hi => ?_, r2, r3, r4, r5, r6⟩
    cases i with
    | zero => exact h6 p (.head _)
    | succ i =>
      rw [List.take_succ_cons, List.foldl_cons, e]
      have := r1 i (by simpa using hi)
      simpa [List.getD] using this

theorem free0_mem {g : AG} (nd : (ksOf g).Nodup) (n : Int) : n ∈ free0 g ↔ n ∈ ksOf g ∧ npOf g n = 0 := by
  unfold free0
  constructor
  · intro h
    obtain ⟨r, hr, rfl⟩ := List.mem_map.mp h
    obtain ⟨h1, h2⟩ := List.mem_filter.mp hr
    refine ⟨List.mem_map.mpr ⟨r, h1, rfl⟩, ?_⟩
    obtain ⟨r', a, b, c⟩ := find_some (List.mem_map.mpr ⟨r, h1, rfl⟩ : r.1 ∈ ksOf g)
    have : r' = r := by
      clear c h hr h2
      induction g with
      | nil => cases a
      | cons x g ih =>
        have nd' := List.nodup_cons.mp nd
        rcases List.mem_cons.mp a with rfl | a <;> rcases List.mem_cons.mp h1 with h1 | h1
        · exact h1.symm
        · exact absurd (show r'.1 ∈ ksOf g from b ▸ List.mem_map_of_mem h1) nd'.1
        · exact absurd (show x.1 ∈ ksOf g from h1 ▸ b ▸ List.mem_map_of_mem (f := (·.1)) a) nd'.1
        · exact ih nd'.2 h1 a
    subst this
    unfold npOf; rw [c]
    simpa using h2
  · rintro ⟨h1, h2⟩
    obtain ⟨r, a, b, c⟩ := find_some h1
    unfold npOf at h2
    rw [c] at h2
    exact List.mem_map.mpr ⟨r, List.mem_filter.mpr ⟨a, by simpa using h2⟩, b⟩
theorem free0_nodup {g : AG} (nd : (ksOf g).Nodup) : (free0 g).Nodup := nd.sublist ((List.filter_sublist).map _)
theorem At.start {G : AG} {lv : Int → Nat} (h : Lev G lv) : At G lv 0 G (free0 G) := by
  refine ⟨rfl, fun _ => rfl, free0_nodup h.nd, fun n => ?_, fun n hn _ => ?_⟩
  · rw [free0_mem h.nd]
    constructor
    · rintro ⟨a, b⟩
      refine ⟨a, ?_⟩
      rcases h.st n a with q | ⟨p, p1, p2, p3⟩
      · exact q
      · rw [h.np n a] at b
        have h1 : 0 < (sucOf G p).count n := List.count_pos_iff.mpr p2
        have h2 := le_sum (List.mem_map.mpr ⟨p, p1, rfl⟩ : (sucOf G p).count n ∈ (ksOf G).map fun p => (sucOf G p).count n)
        omega
    · rintro ⟨a, b⟩
      refine ⟨a, ?_⟩
      rw [h.np n a]
      have : ∀ x ∈ (ksOf G).map fun p => (sucOf G p).count n, x = 0 := by
        intro x hx
        obtain ⟨p, hp, rfl⟩ := List.mem_map.mp hx
        exact List.count_eq_zero.mpr fun q => by have := (h.cl p hp n q).2; omega
      rw [sum0 this]; rfl
  · rw [h.np n hn]
    have : ((ksOf G).filter fun p => decide (0 ≤ lv p)) = ksOf G := List.filter_eq_self.mpr fun p _ => by simp
    rw [this]
theorem At.round {G : AG} {lv : Int → Nat} {k : Nat} {g : AG} {rd : List Int} (h : Lev G lv) (a : At G lv k g rd) :
    (∀ i < rd.length, npOf ((rd.take i).foldl gDone1 (rd.foldl (fun g n => setNp g n (-1)) g, [])).1 (rd.getD i 0) = -1) ∧
    At G lv (k + 1) (rd.foldl gDone1 (rd.foldl (fun g n => setNp g n (-1)) g, [])).1 (rd.foldl gDone1 (rd.foldl (fun g n => setNp g n (-1)) g, [])).2 := by
  obtain ⟨s1, s2, s3⟩ := sets_np rd g
  have hperm : rd.Perm ((ksOf G).filter fun p => decide (lv p = k)) := by
    rw [List.perm_ext_iff_of_nodup a.nr (h.nd.filter _)]
    intro n; rw [a.mr, List.mem_filter, decide_eq_true_eq]
  have np1 : ∀ n ∈ ksOf G, k < lv n → npOf (rd.foldl (fun g n => setNp g n (-1)) g) n = ((rd.map fun p => (sucOf G p).count n).sum + (((ksOf G).filter fun p => decide (k + 1 ≤ lv p)).map fun p => (sucOf G p).count n).sum : Nat) := fun n h1 h2 => by
    rw [s3 n (by rw [a.ks]; exact h1), if_neg (fun q => by have := ((a.mr n).mp q).2; omega), a.np n h1 (by omega), filter_sum, perm_sum hperm]
  have pos : ∀ n ∈ ksOf G, k < lv n → ¬ npOf (rd.foldl (fun g n => setNp g n (-1)) g) n = 0 := fun n h1 h2 q => by
    rw [s3 n (by rw [a.ks]; exact h1), if_neg (fun q => by have := ((a.mr n).mp q).2; omega), a.np n h1 (by omega)] at q
    rcases h.st n h1 with e | ⟨p, p1, p2, p3⟩
    · omega
    · have c1 : 0 < (sucOf G p).count n := List.count_pos_iff.mpr p2
      have c2 := le_sum (List.mem_map.mpr ⟨p, List.mem_filter.mpr ⟨p1, by simp; omega⟩, rfl⟩ : (sucOf G p).count n ∈ ((ksOf G).filter fun p => decide (k ≤ lv p)).map fun p => (sucOf G p).count n)
      omega
  obtain ⟨r1, r2, r3, r4, r5, r6⟩ := dones (k := k) h rd (rd.foldl (fun g n => setNp g n (-1)) g) [] (s1.trans a.ks) (fun p => (s2 p).trans (a.su p)) List.nodup_nil
    (fun n => ⟨fun q => (List.not_mem_nil q).elim, fun q => absurd q.2.2 (pos n q.1 q.2.1)⟩) np1 (fun p hp => by rw [s3 p (by rw [a.ks]; exact ((a.mr p).mp hp).1), if_pos hp]) a.nr (fun p hp => (a.mr p).mp hp)
  refine ⟨r1, r2, r3, r4, fun n => ?_, fun n q1 q2 => r6 n q1 (by omega)⟩
  rw [r5 n]
  constructor
  · rintro ⟨q1, q2, q3⟩
    refine ⟨q1, ?_⟩
    rw [r6 n q1 q2] at q3
    rcases h.st n q1 with e | ⟨p, p1, p2, p3⟩
    · omega
    · by_cases hq : k + 1 ≤ lv p
      · have c1 : 0 < (sucOf G p).count n := List.count_pos_iff.mpr p2
        have c2 := le_sum (List.mem_map.mpr ⟨p, List.mem_filter.mpr ⟨p1, by simpa using hq⟩, rfl⟩ : (sucOf G p).count n ∈ ((ksOf G).filter fun p => decide (k + 1 ≤ lv p)).map fun p => (sucOf G p).count n)
        omega
      · omega
  · rintro ⟨q1, q2⟩
    refine ⟨q1, by omega, ?_⟩
    rw [r6 n q1 (by omega)]
    have : ∀ x ∈ ((ksOf G).filter fun p => decide (k + 1 ≤ lv p)).map fun p => (sucOf G p).count n, x = 0 := by
      intro x hx
      obtain ⟨p, hp, rfl⟩ := List.mem_map.mp hx
      obtain ⟨hp1, hp2⟩ := List.mem_filter.mp hp
      have hp2 : k + 1 ≤ lv p := by simpa using hp2
      exact List.count_eq_zero.mpr fun q => by have := (h.cl p hp1 n q).2; omega
    rw [sum0 this]; rfl

theorem ex_cons {α : Type} {p : α → Prop} {a : α} {l : List α} : (∃ x ∈ a :: l, p x) ↔ p a ∨ ∃ x ∈ l, p x := by
  constructor
  · rintro ⟨x, hx, h⟩
    rcases List.mem_cons.mp hx with rfl | hx
    · exact .inl h
    · exact .inr ⟨x, hx, h⟩
  · rintro (h | ⟨x, hx, h⟩)
    · exact ⟨a, .head _, h⟩
    · exact ⟨x, .tail _ hx, h⟩
theorem suc_none {g : AG} {n : Int} (h : n ∉ ksOf g) : sucOf g n = [] := by
  unfold sucOf
  have e : g.find? (fun r => r.1 == n) = none := List.find?_eq_none.mpr fun r hr q => h (List.mem_map.mpr ⟨r, hr, by simpa using q⟩)
  rw [e]; rfl
theorem suc_link' {g : AG} {s c n : Int} (hs : s ∈ ksOf g) : sucOf (link g s c) n = sucOf g n ++ if n = s then [c] else [] := by
  by_cases hn : n ∈ ksOf g
  · rw [suc_link hn]; split <;> simp
  · have hn' : n ∉ ksOf (link g s c) := by rw [ks_link]; exact hn
    rw [suc_none hn, suc_none hn', if_neg (fun e : n = s => hn (e ▸ hs))]; rfl
theorem np_none {g : AG} {n : Int} (h : n ∉ ksOf g) : npOf g n = 0 := by
  unfold npOf
  have e : g.find? (fun r => r.1 == n) = none := List.find?_eq_none.mpr fun r hr q => h (List.mem_map.mpr ⟨r, hr, by simpa using q⟩)
  rw [e]; rfl
theorem np_bump' {g : AG} {s c n : Int} (hs : s ∈ ksOf g) : npOf (bump g s c) n = npOf g n + if n = s then c else 0 := by
  by_cases hn : n ∈ ksOf g
  · rw [np_bump hn]; split <;> simp
  · have hn' : n ∉ ksOf (bump g s c) := by rw [ks_bump]; exact hn
    rw [np_none hn, np_none hn', if_neg (fun e : n = s => hn (e ▸ hs))]; rfl
theorem touch_mem {g : AG} {n x : Int} : x ∈ ksOf (touch g n) ↔ x ∈ ksOf g ∨ x = n := by
  rw [ks_touch]
  by_cases h : n ∈ ksOf g
  · rw [if_pos h]
    constructor
    · exact .inl
    · rintro (q | rfl)
      · exact q
      · exact h
  · rw [if_neg h, List.mem_append, List.mem_singleton]
theorem touch_nodup {g : AG} {n : Int} (h : (ksOf g).Nodup) : (ksOf (touch g n)).Nodup := by
  rw [ks_touch]
  by_cases q : n ∈ ksOf g
  · rw [if_pos q]; exact h
  · rw [if_neg q, List.nodup_append]
    refine ⟨h, by simp, fun a ha b hb e => ?_⟩
    rw [List.mem_singleton] at hb
    subst hb; subst e; exact q ha
theorem links : ∀ (ps : List Int) (n : Int) (g : AG), (ksOf g).Nodup → (ksOf (ps.foldl (fun g p => link (touch g p) p n) g)).Nodup ∧ (∀ x, x ∈ ksOf (ps.foldl (fun g p => link (touch g p) p n) g) ↔ x ∈ ksOf g ∨ x ∈ ps) ∧
    (∀ k, npOf (ps.foldl (fun g p => link (touch g p) p n) g) k = npOf g k) ∧ ∀ p, sucOf (ps.foldl (fun g p => link (touch g p) p n) g) p = sucOf g p ++ List.replicate (ps.count p) n
  | [], n, g, h => ⟨h, fun x => by simp, fun _ => rfl, fun p => by simp⟩
  | q :: ps, n, g, h => by
    obtain ⟨h1, h2, h3, h4⟩ := links ps n (link (touch g q) q n) (by rw [ks_link]; exact touch_nodup h)
    refine ⟨h1, fun x => ?_, fun k => ?_, fun p => ?_⟩
    · rw [List.foldl_cons, h2 x, ks_link, touch_mem, List.mem_cons, or_assoc]
    · rw [List.foldl_cons, h3 k, np_link, np_touch]
    · rw [List.foldl_cons, h4 p, suc_link' (touch_mem.mpr (.inr rfl)), suc_touch, List.append_assoc]
      congr 1
      by_cases e : p = q
      · subst e; rw [if_pos rfl, List.count_cons_self, List.replicate_succ]; rfl
      · rw [if_neg e, List.count_cons_of_ne (Ne.symm e)]; rfl
theorem gAdd_all (g : AG) (n : Int) (ps : List Int) (h : (ksOf g).Nodup) : (ksOf (gAdd g n ps)).Nodup ∧ (∀ x, x ∈ ksOf (gAdd g n ps) ↔ x ∈ ksOf g ∨ x = n ∨ x ∈ ps) ∧
    (∀ k, npOf (gAdd g n ps) k = npOf g k + if k = n then (ps.length : Int) else 0) ∧ ∀ p, sucOf (gAdd g n ps) p = sucOf g p ++ List.replicate (ps.count p) n := by
  unfold gAdd
  obtain ⟨h1, h2, h3, h4⟩ := links ps n (bump (touch g n) n ps.length) (by rw [ks_bump]; exact touch_nodup h)
  refine ⟨h1, fun x => ?_, fun k => ?_, fun p => ?_⟩
  · rw [h2 x, ks_bump, touch_mem, or_assoc]
  · rw [h3 k, np_bump' (touch_mem.mpr (.inr rfl)), np_touch]
  · rw [h4 p, suc_bump, suc_touch]
theorem count_sum {l : List Int} : ∀ {ks : List Int}, ks.Nodup → (∀ x ∈ l, x ∈ ks) → (ks.map fun p => l.count p).sum = l.length := by
  induction l with
  | nil => intro ks _ _; rw [sum0]; rfl; intro x hx; obtain ⟨p, _, rfl⟩ := List.mem_map.mp hx; simp
  | cons y l ih =>
    intro ks nd hs
    have e : ∀ ks : List Int, ks.Nodup → (ks.map fun p => (y :: l).count p).sum = (ks.map fun p => l.count p).sum + if y ∈ ks then 1 else 0 := by
      intro ks nd
      induction ks with
      | nil => simp
      | cons x ks ihk =>
        have nd' := List.nodup_cons.mp nd
        rw [List.map_cons, List.sum_cons, List.map_cons, List.sum_cons, ihk nd'.2]
        by_cases hx : x = y
        · subst hx
          rw [List.count_cons_self, if_neg nd'.1, if_pos (List.mem_cons_self ..)]; omega
        · rw [List.count_cons_of_ne (Ne.symm hx)]
          have : (y ∈ x :: ks) ↔ y ∈ ks := by rw [List.mem_cons]; constructor
                                              · rintro (q | q)
                                                · exact absurd q.symm hx
                                                · exact q
                                              · exact .inr
          by_cases hy : y ∈ ks
          · rw [if_pos hy, if_pos (this.mpr hy)]; omega
          · rw [if_neg hy, if_neg (fun q => hy (this.mp q))]; omega
    rw [e ks nd, ih nd fun x hx => hs x (.tail _ hx), if_pos (hs y (.head _)), List.length_cons]
abbrev build (D : List (Int × List Int)) (g : AG) : AG := D.foldl (fun g a => gAdd g a.1 a.2) g
theorem builds {ks : List Int} (nk : ks.Nodup) : ∀ (D : List (Int × List Int)) (g : AG), (ksOf g).Nodup → (∀ n, npOf g n = ((ks.map fun p => (sucOf g p).count n).sum : Nat)) → (∀ a ∈ D, ∀ p ∈ a.2, p ∈ ks) →
    (ksOf (build D g)).Nodup ∧ (∀ n, npOf (build D g) n = ((ks.map fun p => (sucOf (build D g) p).count n).sum : Nat)) ∧ (∀ x, x ∈ ksOf (build D g) ↔ x ∈ ksOf g ∨ ∃ a ∈ D, x = a.1 ∨ x ∈ a.2) ∧ ∀ p n, n ∈ sucOf (build D g) p ↔ n ∈ sucOf g p ∨ ∃ a ∈ D, n = a.1 ∧ p ∈ a.2
  | [], g, h1, h2, _ => ⟨h1, h2, fun x => by simp, fun p n => by simp⟩
  | a :: D, g, h1, h2, h3 => by
    obtain ⟨g1, g2, g3, g4⟩ := gAdd_all g a.1 a.2 h1
    have hs : ∀ n, npOf (gAdd g a.1 a.2) n = ((ks.map fun p => (sucOf (gAdd g a.1 a.2) p).count n).sum : Nat) := by
      intro n
      rw [g3 n, h2 n]
      have e : ∀ l : List Int, (l.map fun p => (sucOf (gAdd g a.1 a.2) p).count n).sum = (l.map fun p => (sucOf g p).count n).sum + if n = a.1 then (l.map fun p => a.2.count p).sum else 0 := by
        intro l
        induction l with
        | nil => simp
        | cons x l ih =>
          rw [List.map_cons, List.sum_cons, ih, List.map_cons, List.sum_cons, List.map_cons, List.sum_cons, g4 x, List.count_append, List.count_replicate]
          by_cases q : n = a.1
          · simp only [q, if_true, beq_self_eq_true]; omega
          · have q' : (a.1 == n) = false := beq_eq_false_iff_ne.mpr (Ne.symm q)
            simp only [q, if_false, q', Bool.false_eq_true]; omega
      rw [e ks]
      by_cases q : n = a.1
      · rw [if_pos q, if_pos q, count_sum nk fun x hx => h3 a (.head _) x hx]; omega
      · rw [if_neg q, if_neg q]; omega
    obtain ⟨b1, b2, b3, b4⟩ := builds nk D (gAdd g a.1 a.2) g1 hs fun b hb => h3 b (.tail _ hb)
    refine ⟨b1, b2, fun x => ?_, fun p n => ?_⟩
    · show x ∈ ksOf (build D (gAdd g a.1 a.2)) ↔ _
      rw [b3 x, g2 x, ex_cons, or_assoc]
    · show n ∈ sucOf (build D (gAdd g a.1 a.2)) p ↔ _
      rw [b4 p n, g4 p, List.mem_append, List.mem_replicate, ex_cons, or_assoc]
      have : (a.2.count p ≠ 0 ∧ n = a.1) ↔ (n = a.1 ∧ p ∈ a.2) := by rw [← Nat.pos_iff_ne_zero, List.count_pos_iff]; exact And.comm
      rw [this]
structure DOK (D : List (Int × List Int)) (lv : Int → Nat) : Prop where
  cl : ∀ a ∈ D, ∀ p ∈ a.2, (∃ b ∈ D, b.1 = p) ∧ lv p < lv a.1
  st : ∀ a ∈ D, lv a.1 = 0 ∨ ∃ p ∈ a.2, lv p + 1 = lv a.1
theorem lev_of {D : List (Int × List Int)} {lv : Int → Nat} (h : DOK D lv) : Lev (build D []) lv ∧ ∀ n, n ∈ ksOf (build D []) ↔ ∃ a ∈ D, a.1 = n := by
  have key : ∀ ks : List Int, ks.Nodup → (∀ a ∈ D, ∀ p ∈ a.2, p ∈ ks) → _ := fun ks h1 h2 => builds (ks := ks) h1 D [] List.nodup_nil (fun n => by
    rw [sum0]
    · rfl
    · intro x hx; obtain ⟨p, _, rfl⟩ := List.mem_map.mp hx; simp [sucOf]) h2
  have nd0 : (ksOf (build D [])).Nodup ∧ ∀ x, x ∈ ksOf (build D []) ↔ x ∈ ksOf [] ∨ ∃ a ∈ D, x = a.1 ∨ x ∈ a.2 := by
    have e : ∀ (D : List (Int × List Int)) (g : AG), (ksOf g).Nodup → (ksOf (build D g)).Nodup ∧ ∀ x, x ∈ ksOf (build D g) ↔ x ∈ ksOf g ∨ ∃ a ∈ D, x = a.1 ∨ x ∈ a.2 := by
      intro D
      induction D with
      | nil => exact fun g hg => ⟨hg, fun x => by simp⟩
      | cons a D ih =>
        intro g hg
        obtain ⟨g1, g2, _⟩ := gAdd_all g a.1 a.2 hg
        obtain ⟨i1, i2⟩ := ih _ g1
        refine ⟨i1, fun x => ?_⟩
        show x ∈ ksOf (build D (gAdd g a.1 a.2)) ↔ _
        rw [i2 x, g2 x, ex_cons, or_assoc]
    exact e D [] List.nodup_nil
  have mem : ∀ n, n ∈ ksOf (build D []) ↔ ∃ a ∈ D, a.1 = n := by
    intro n
    rw [nd0.2 n]
    constructor
    · rintro (q | ⟨a, ha, q | q⟩)
      · cases q
      · exact ⟨a, ha, q.symm⟩
      · exact (h.cl a ha n q).1
    · rintro ⟨a, ha, rfl⟩
      exact .inr ⟨a, ha, .inl rfl⟩
  obtain ⟨b1, b2, b3, b4⟩ := key (ksOf (build D [])) nd0.1 (fun a ha p hp => (nd0.2 p).mpr (.inr ⟨a, ha, .inr hp⟩))
  have b4' : ∀ p n, n ∈ sucOf (build D []) p ↔ ∃ a ∈ D, n = a.1 ∧ p ∈ a.2 := by
    intro p n; rw [b4 p n]; simp [sucOf]
  refine ⟨⟨b1, fun p hp n hn => ?_, fun n _ => b2 n, fun n hn => ?_⟩, mem⟩
  · obtain ⟨a, ha, rfl, hp2⟩ := (b4' p n).mp hn
    exact ⟨(mem _).mpr ⟨a, ha, rfl⟩, (h.cl a ha p hp2).2⟩
  · obtain ⟨a, ha, rfl⟩ := (mem n).mp hn
    rcases h.st a ha with q | ⟨p, hp, q⟩
    · exact .inl q
    · exact .inr ⟨p, (mem p).mpr (h.cl a ha p hp).1, (b4' p a.1).mpr ⟨a, ha, rfl, hp⟩, q⟩
theorem build_len : ∀ (D : List (Int × List Int)) (g : AG), (build D g).length ≤ g.length + (D.map fun a => a.2.length + 1).sum
  | [], g => by simp
  | a :: D, g => by
    have ih := build_len D (gAdd g a.1 a.2)
    have l : ∀ (ps : List Int) (g : AG) (n : Int), (ps.foldl (fun g p => link (touch g p) p n) g).length ≤ g.length + ps.length := by
      intro ps
      induction ps with
      | nil => intro g n; simp
      | cons p ps ih =>
        intro g n
        have := ih (link (touch g p) p n) n
        have h2 := touch_len g p
        rw [link_len] at this
        rw [List.foldl_cons, List.length_cons]; omega
    have h1 := l a.2 (bump (touch g a.1) a.1 a.2.length) a.1
    have h2 := touch_len g a.1
    rw [bump_len] at h1
    have h3 : (gAdd g a.1 a.2).length ≤ g.length + (a.2.length + 1) := by unfold gAdd; omega
    show (build D (gAdd g a.1 a.2)).length ≤ _
    rw [List.map_cons, List.sum_cons]; omega
theorem build_suc : ∀ (D : List (Int × List Int)) (g : AG) (b : Nat), (∀ q ∈ g, q.2.2.length ≤ b) → ∀ q ∈ build D g, q.2.2.length ≤ b + (D.map fun a => a.2.length).sum
  | [], g, b, h => by simpa using h
  | a :: D, g, b, h => by
    have l : ∀ (ps : List Int) (g : AG) (n : Int) (b : Nat), (∀ q ∈ g, q.2.2.length ≤ b) → ∀ q ∈ ps.foldl (fun g p => link (touch g p) p n) g, q.2.2.length ≤ b + ps.length := by
      intro ps
      induction ps with
      | nil => intro g n b h; simpa using h
      | cons p ps ih =>
        intro g n b h q hq
        have := ih (link (touch g p) p n) n (b + 1) (link_suc (touch_suc h)) q hq
        rw [List.length_cons]; omega
    have h1 := l a.2 (bump (touch g a.1) a.1 a.2.length) a.1 b (bump_suc (touch_suc h))
    intro q hq
    have := build_suc D (gAdd g a.1 a.2) (b + a.2.length) (by unfold gAdd; exact h1) q hq
    rw [List.map_cons, List.sum_cons]; omega

abbrev zs (l : List Nat) : List Int := l.map fun n : Nat => (n : Int)
theorem take_getD {l : List Nat} {i : Nat} (h : i < l.length) : l.take (i + 1) = l.take i ++ [l.getD i 0] := by rw [List.take_add_one]; simp [List.getD, h]
theorem zs_getD {l : List Nat} {i : Nat} (h : i < l.length) : ((zs l).map I).getD i .none = I ((l.getD i 0 : Nat) : Int) := by simp [List.getD, h]
def gameD (ns : List Int) (sz : Nat) : List Int := ns.map fun n => 1 + n.fmod sz
def gameL (ns : List Int) (sz : Nat) : List Nat := ((List.range sz).map (1 + ·)).filter fun mv => decide (((mv : Nat) : Int) ∈ gameD ns sz)
theorem small1 : ∀ n < 16, Builtin.Range.small 1 (((n : Nat) : Int) + 1) 1 = true := by decide +kernel
theorem size1 : ∀ n < 16, Builtin.Range.rangeSize 1 (((n : Nat) : Int) + 1) 1 = n := by decide +kernel
theorem range_getD (f : Nat → Nat) (n i : Nat) (hi : i < n) : ((List.range n).map f).take (i + 1) = ((List.range n).map f).take i ++ [f i] := by
  rw [List.take_add_one]; simp [hi]
section
variable {prog : Program} {w : World} {A : Around} {s₀ s : Shared} {L : Addr} {m : List (Str × Value)} {P R : Led} {d : Nat} {E : Value → Shared → Prop}
theorem game_spec {na : Addr} {ns : List Int} {sz : Nat} {t0 : Tok} {Q : Value → Shared → Prop} (G : Gr (K w) s₀.heap) (k : OK A (d + 1)) (S : Sim w s₀ L m P s) (hm : (na, .list (ns.map I)) ∈ P) (h0 : 0 < sz) (h16 : sz < 16) (hz : ns.length ≤ 1000)
    (h : ∀ D s', Sim w s₀ L m ((D, .list ((zs (gameL ns sz)).map I)) :: P) s' → Q (.ref D) s') :
    wpAny (model prog w) A (call (.ref 163) [.ref na, .int sz t0]) Q E s := by
  refine wpAny_noRaise (call_defC [(Str.ofString "numbers", .ref na)] (fun L' => [(L' + 1 + 1, .cell none), (L' + 1, .cell (some (I sz)))]) G k S rfl rfl rfl rfl rfl rfl (by rfl) (by decide) (by walk_at "vars") (fun L' => rfl) fun L' s A S k => ?_)
  dsimp only [List.cons_append, List.nil_append] at S
  walk_at "go"
  refine comp_start rfl (comp_code (src_list k.h (a := na) (xs := ns.map I) .none) (fun i m' P' => P' = (a, .list ((gameD (ns.take i) sz).map I)) :: (L', .frame [(Str.ofString "numbers", .ref na)]) :: (L' + 1 + 1, .cell none) :: (L' + 1, .cell (some (I sz))) :: (L, .frame m) :: P) (S.to (by walk_at "sub")) rfl ?hreq turn_list1 ?step ?done) (self_list S (by walk_at "mem"))
  case hreq => rintro i m' P' rfl; walk_at "mem"
  case step =>
    rintro i m' P' hi rfl J hJ
    clear S
    simp only [List.length_map] at hi
    have hgi : (ns.map I).getD i .none = I (ns.getD i 0) := by simp [List.getD, hi]
    show All ((ns.map I).getD i .none) _
    rw [hgi]
    have e : gameD (ns.take (i + 1)) sz = gameD (ns.take i) sz ++ [1 + (ns.getD i 0).fmod sz] := by
      unfold gameD
      rw [List.take_add_one, List.map_append]; simp [List.getD, hi]
    try dsimp only at hJ
    rw [e] at hJ
    have hl : (gameD (ns.take i) sz).length ≤ 1000 := by unfold gameD; rw [List.length_map, List.length_take]; omega
    generalize gameD (ns.take i) sz = tk at *
    generalize ns.getD i 0 = n at *
    intro t s S
    change Sim w s₀ C _ _ _ at S
    dsimp only [List.nil_append, List.cons_append] at S
    walk_at "go"
    rw [if_pos rfl]
    walk_at "go"
    refine o_mod S (by omega) ?_
    clear S; intro t s S
    walk_at "go"
    refine ⟨rfl, _, _, S.to (Q := (it, .liter na (i + 1)) :: (a, .list ((tk ++ [1 + n.fmod sz]).map I)) :: (L', .frame [(Str.ofString "numbers", .ref na)]) :: (L' + 1 + 1, .cell none) :: (L' + 1, .cell (some (I sz))) :: (L, .frame m) :: P) ?_, hJ _ _ rfl⟩
    rw [List.map_append, List.map_cons, List.map_nil]; walk_at "sub"
  case done =>
    clear S
    rintro m' P' s rfl S
    change Sim w s₀ C _ _ _ at S
    simp only [List.length_map, List.take_length] at S
    refine comp_end S (L := L') (m := [(Str.ofString "numbers", .ref na)]) (P' := (a, .list ((gameD ns sz).map I)) :: (L' + 1 + 1, .cell none) :: (L' + 1, .cell (some (I sz))) :: (L, .frame m) :: P) (by walk_at "sub") ?_
    clear S; intro s S
    revert a; intro dr S
    have hgl : (gameD ns sz).length ≤ 1000 := by unfold gameD; rw [List.length_map]; omega
    walk_at "go"
    refine range_iter (n := sz) S (by walk_at "mem") (small1 sz h16) (size1 sz h16) ?_
    clear S; intro it1 s S
    walk_at "go"
    refine comp_start rfl (comp_code (src_range k.h 1 1 sz) (fun j m2 P' => P' = (a, .list ((zs ((((List.range sz).map (1 + ·)).take j).filter fun mv => decide (((mv : Nat) : Int) ∈ gameD ns sz))).map I)) :: (L', .frame [(Str.ofString "numbers", .ref na)]) :: (dr, .list ((gameD ns sz).map I)) :: (L' + 1 + 1, .cell (some (.ref dr))) :: (L' + 1, .cell (some (I sz))) :: (L, .frame m) :: P) (S.to (by walk_at "sub")) rfl ?hreq2 turn_list1 ?step2 ?done2) (self_range S (by walk_at "mem"))
    case hreq2 => intros; trivial
    case step2 =>
      rintro j m2 P' hj rfl J hJ
      clear S
      try dsimp only at hJ
      rw [range_getD (1 + ·) sz j hj, List.filter_append] at hJ
      have hll : ((((List.range sz).map (1 + ·)).take j).filter fun mv => decide (((mv : Nat) : Int) ∈ gameD ns sz)).length ≤ 16 := Nat.le_trans (List.length_filter_le _ _) (by rw [List.length_take, List.length_map, List.length_range]; omega)
      generalize ((((List.range sz).map (1 + ·)).take j).filter fun mv => decide (((mv : Nat) : Int) ∈ gameD ns sz)) = tk at *
      intro t s S
      change Sim w s₀ C _ _ _ at S
      dsimp only [List.nil_append, List.cons_append] at S
      have ej : (1 : Int) + 1 * (j : Int) = ((1 + j : Nat) : Int) := by omega
      have ej' : (1 : Int) + 1 * ((j + 1 : Nat) : Int) = ((1 + j : Nat) : Int) + 1 := by omega
      rw [ej]
      walk_at "go"
      refine list_in S (by walk_at "mem") ?_
      walk_at "go"
      by_cases hc : (((1 + j : Nat) : Int) ∈ gameD ns sz)
      · rw [if_pos (by simpa using hc)]
        walk_at "go"
        refine ⟨rfl, _, _, S.to (Q := (it1, .riter (1 + 1 * (j + 1 : Nat)) (sz - (j + 1 : Nat)) 1) :: (a, .list ((zs (tk ++ [1 + j])).map I)) :: (L', .frame [(Str.ofString "numbers", .ref na)]) :: (dr, .list ((gameD ns sz).map I)) :: (L' + 1 + 1, .cell (some (.ref dr))) :: (L' + 1, .cell (some (I sz))) :: (L, .frame m) :: P) ?_, hJ _ _ ?_⟩
        · rw [show (zs (tk ++ [1 + j])).map I = (zs tk).map I ++ [I ((1 + j : Nat) : Int)] by simp [zs]]; walk_at "sub"
        · rw [List.filter_cons_of_pos (by simpa using hc)]; rfl
      · rw [if_neg (by simpa using hc)]
        refine ⟨_, _, S.to (Q := (it1, .riter (1 + 1 * (j + 1 : Nat)) (sz - (j + 1 : Nat)) 1) :: (a, .list ((zs tk).map I)) :: (L', .frame [(Str.ofString "numbers", .ref na)]) :: (dr, .list ((gameD ns sz).map I)) :: (L' + 1 + 1, .cell (some (.ref dr))) :: (L' + 1, .cell (some (I sz))) :: (L, .frame m) :: P) (by walk_at "sub"), hJ _ _ ?_⟩
        rw [List.filter_cons_of_neg (by simpa using hc), List.filter_nil, List.append_nil]
    case done2 =>
      clear S
      rintro m2 P' s rfl S
      change Sim w s₀ C _ _ _ at S
      rw [List.take_of_length_le (by simp)] at S
      refine comp_end S (L := L') (m := [(Str.ofString "numbers", .ref na)]) (P' := (a, .list ((zs (gameL ns sz)).map I)) :: (L, .frame m) :: P) (by unfold gameL; walk_at "sub") ?_
      clear S; intro s S
      walk_at "go"
      dsimp only [retv]
      exact h _ _ (S.out (by walk_at "sub"))
end

theorem split_back : ∀ n < 32, 0 < n → Txt.split (Txt.join (Str.ofString ", ") ((bitsTo n 5).map nmOf)) (Str.ofString ", ") = (bitsTo n 5).map nmOf := by decide +kernel
theorem join_size : ∀ n < 32, (Txt.join (Str.ofString ", ") ((bitsTo n 5).map nmOf)).length ≤ 100 := by decide +kernel
theorem bits_lt : ∀ n < 16, ∀ j ∈ bitsTo n 5, j < 4 := by decide +kernel
abbrev four : List Str := [Str.ofString "OPTIMIZED", Str.ofString "NEWLOCALS", Str.ofString "VARARGS", Str.ofString "VARKEYWORDS"]
theorem four_get : ∀ j < 4, four[j]? = some (nmOf j) := by decide +kernel
theorem four_no : ∀ j < 4, ∀ i < j, ∀ z, four[i]? = some z → (z == nmOf j) = false := by
  have : ∀ j < 4, ∀ i < j, (nmOf i == nmOf j) = false := by decide +kernel
  intro j hj i hi z hz
  rw [four_get i (by omega)] at hz
  cases hz
  exact this j hj i hi
section
variable {prog : Program} {w : World} {A : Around} {s₀ s : Shared} {L : Addr} {m : List (Str × Value)} {P R : Led} {d : Nat} {E : Value → Shared → Prop}
theorem coins_spec {nn : Nat} {t0 : Tok} {Q : Value → Shared → Prop} (G : Gr (K w) s₀.heap) (k : OK A (d + 3)) (S : Sim w s₀ L m P s) (h0 : 0 < nn) (h16 : nn < 16)
    (h : ∀ D s', Sim w s₀ L m ((D, .list ((zs (bitsTo nn 5)).map I)) :: P) s' → Q (.ref D) s') :
    wpAny (model prog w) A (call (.ref 168) [.int nn t0]) Q E s := by
  refine wpAny_noRaise (call_defC [(Str.ofString "move", I nn)] (fun L' => [(L' + 1, .cell none)]) G k S rfl rfl rfl rfl rfl rfl (by rfl) (by decide) (by walk_at "vars") (fun L' => rfl) fun L' s A S k => ?_)
  dsimp only [List.cons_append, List.nil_append] at S
  walk_at "go"
  revert a; intro nm S
  refine flags_spec (d := d) G k S h0 (by omega) ?_
  clear S; intro t s S
  walk_at "go"
  refine str_split S (by decide) ?_ ?_
  · have := join_size nn (by omega); rw [sizeLine_eq]; omega
  clear S; intro D s S
  rw [split_back nn (by omega) h0] at S
  walk_at "go"
  refine comp_start rfl (comp_code (src_list k.h (a := D) (xs := ((bitsTo nn 5).map nmOf).map T) .none) (fun i m' P' => P' = (a, .list ((zs ((bitsTo nn 5).take i)).map I)) :: (L', .frame [(Str.ofString "move", I nn)]) :: (D, .list (((bitsTo nn 5).map nmOf).map T)) :: (nm, .list (four.map T)) :: (L' + 1, .cell (some (.ref nm))) :: (L, .frame m) :: P) (P := (a, .list []) :: (L', .frame [(Str.ofString "move", I nn)]) :: (D, .list (((bitsTo nn 5).map nmOf).map T)) :: (nm, .list (four.map T)) :: (L' + 1, .cell (some (.ref nm))) :: (L, .frame m) :: P) (S.to (by walk_at "sub")) rfl ?hreq turn_list1 ?step ?done) (self_list S (by walk_at "mem"))
  case hreq => rintro i m' P' rfl; walk_at "mem"
  case step =>
    rintro i m' P' hi rfl J hJ
    simp only [List.length_map] at hi
    have hgi : (((bitsTo nn 5).map nmOf).map T).getD i .none = T (nmOf ((bitsTo nn 5).getD i 0)) := by simp [List.getD, hi]
    show All ((((bitsTo nn 5).map nmOf).map T).getD i .none) _
    rw [hgi]
    clear S
    intro t s S
    change Sim w s₀ C _ _ _ at S
    dsimp only [List.nil_append, List.cons_append] at S
    have hj : (bitsTo nn 5).getD i 0 < 4 := bits_lt nn h16 _ (by simp [List.getD, hi])
    have hbl : ((bitsTo nn 5).take i).length ≤ 5 := by rw [List.length_take]; exact Nat.le_trans (Nat.min_le_right _ _) (bits_len nn 5)
    have e : (bitsTo nn 5).take (i + 1) = (bitsTo nn 5).take i ++ [(bitsTo nn 5).getD i 0] := by
      rw [List.take_add_one]; simp [List.getD, hi]
    try dsimp only at hJ
    rw [e] at hJ
    walk_at "go"
    rw [if_pos rfl]
    walk_at "go"
    refine list_index_str (j := (bitsTo nn 5).getD i 0) S (by walk_at "mem") (four_get _ hj) (fun i' z hi' hz => four_no _ hj i' hi' z hz) (by decide) ?_
    clear S; intro t s S
    generalize (bitsTo nn 5).getD i 0 = j at *
    walk_at "go"
    refine ⟨rfl, _, _, S.to (Q := (it, .liter D (i + 1)) :: (a, .list ((zs ((bitsTo nn 5).take i ++ [j])).map I)) :: (L', .frame [(Str.ofString "move", I nn)]) :: (D, .list (((bitsTo nn 5).map nmOf).map T)) :: (nm, .list (four.map T)) :: (L' + 1, .cell (some (.ref nm))) :: (L, .frame m) :: P) ?_, hJ _ _ rfl⟩
    have e2 : (zs ((bitsTo nn 5).take i ++ [j])).map I = (zs ((bitsTo nn 5).take i)).map I ++ [I (j : Nat)] := by
      simp [zs]
    rw [e2]; walk_at "sub"
  case done =>
    clear S
    rintro m' P' s rfl S
    change Sim w s₀ C _ _ _ at S
    simp only [List.length_map, List.take_length] at S
    refine comp_end S (L := L') (m := [(Str.ofString "move", I nn)]) (P' := (a, .list ((zs (bitsTo nn 5)).map I)) :: (L, .frame m) :: P) ?_ ?_
    · walk_at "sub"
    clear S; intro s S
    walk_at "go"
    dsimp only [retv]
    exact h a _ (S.out (by walk_at "sub"))
end

def IsMex (l : List Nat) (M : Nat) : Prop := M ∉ l ∧ ∀ i < M, i ∈ l
section
variable {prog : Program} {w : World} {A : Around} {s₀ s : Shared} {L : Addr} {m : List (Str × Value)} {P R : Led} {d : Nat} {E : Value → Shared → Prop}
theorem least_spec {na : Addr} {ns : List Nat} {M : Nat} {Q : Value → Shared → Prop} (G : Gr (K w) s₀.heap) (k : OK A (d + 1)) (S : Sim w s₀ L m P s) (hm : (na, .list ((zs ns).map I)) ∈ P) (hM : IsMex ns M) (hz : ns.length ≤ 1000)
    (h : ∀ t s', Sim w s₀ L m P s' → Q (.int M t) s') :
    wpAny (model prog w) A (call (.ref 175) [.ref na]) Q E s := by
  refine call_def2 [(Str.ofString "met", .ref na)] G k S rfl rfl rfl rfl (BindsTo.of_eq rfl) (by decide) (by rfl) (by walk_at "vars") fun L' s A S k => ?_
  walk_at "go"
  refine while_code (fun n m' P' => ∃ i : Nat, i + n = M ∧ m' = [(Str.ofString "least", I i), (Str.ofString "met", .ref na)] ∧ P' = (L, .frame m) :: P) M S ⟨0, by omega, rfl, rfl⟩ ?_
  clear S
  rintro n m' P' s ⟨i, hi, rfl, rfl⟩ J hJ QJ hQ S
  change Sim w s₀ L' _ _ _ at S
  walk_at "go"
  refine list_in S (by walk_at "mem") ?_
  walk_at "go"
  by_cases hc : ((i : Nat) : Int) ∈ zs ns
  · rw [if_pos (by simpa using hc)]
    have hin : i ∈ ns := by
      obtain ⟨j, h1, h2⟩ := List.mem_map.mp hc
      have : j = i := by omega
      exact this ▸ h1
    have hne : i ≠ M := fun e => hM.1 (e ▸ hin)
    walk_at "go"
    refine ⟨[(Str.ofString "least", I ((i + 1 : Nat))), (Str.ofString "met", .ref na)], _, (S.vars (by walk_at "vars")).to (Q := (L, .frame m) :: P) (by walk_at "sub"), hJ (n - 1) _ _ (by omega) ⟨i + 1, by omega, rfl, rfl⟩⟩
  · rw [if_neg (by simpa using hc)]
    have hin : i ∉ ns := fun h => hc (List.mem_map.mpr ⟨i, h, rfl⟩)
    have hn : n = 0 := by
      refine Nat.eq_zero_of_not_pos fun hp => hin (hM.2 i (by omega))
    have he : i = M := by omega
    subst he
    walk_at "go"
    refine hQ _ _ ?_
    walk_at "go"
    dsimp only [retv]
    exact h _ _ (S.out (by walk_at "sub"))
end

theorem xor_cast : ∀ a < 16, ∀ b < 16, Builtin.bitXor ((a : Nat) : Int) ((b : Nat) : Int) = ((a ^^^ b : Nat) : Int) := by decide +kernel
theorem bits16 : ∀ a < 16, Builtin.Int.intBits ((a : Nat) : Int) ≤ 64 := by decide +kernel
theorem mul16 {a b : Nat} (h : a < 16) : IntMulOk ((a : Nat) : Int) ((b : Nat) : Int) := .of_left (bits16 a h)
def tStep (T' : Nat → Nat → Nat) (hf b l r : Nat) : Nat :=
  if l < 2 ∨ r < 2 then l * r else b * (T' (l / b ^^^ l % b) (r / b ^^^ r % b) ^^^ T' (l % b) (r % b)) + (T' (l % b) (r % b) ^^^ T' (T' (l / b) (r / b)) hf)
def times1 (l r : Nat) : Nat := l * r
def times2 : Nat → Nat → Nat := tStep times1 1 2
def times4 : Nat → Nat → Nat := tStep times2 2 4
section
variable {prog : Program} {w : World} {A : Around} {s₀ s : Shared} {L : Addr} {m : List (Str × Value)} {P R : Led} {d : Nat} {E : Value → Shared → Prop}
def TSpec (prog : Program) (w : World) (s₀ : Shared) (d b bd : Nat) (T' : Nat → Nat → Nat) : Prop :=
  ∀ {A : Around} {s : Shared} {L : Addr} {m : List (Str × Value)} {P : Led} {E : Value → Shared → Prop} {l r : Nat} {t1 t2 t3 : Tok} {Q : Value → Shared → Prop}, OK A (d + 1) → Sim w s₀ L m P s → l < bd → r < bd →
    (∀ t s', Sim w s₀ L m P s' → Q (.int (T' l r) t) s') → wpAny (model prog w) A (call (.ref 189) [.int l t1, .int r t2, .int b t3]) Q E s
theorem times_base (G : Gr (K w) s₀.heap) (b : Nat) : TSpec prog w s₀ d b 2 times1 := by
  intro A s L m P E l r t1 t2 t3 Q k S hl hr h
  refine call_def2 [(Str.ofString "left", I l), (Str.ofString "right", I r), (Str.ofString "base", I b)] G k S rfl rfl rfl rfl (BindsTo.of_eq rfl) (by decide) (by rfl) (by walk_at "vars") fun L' s A S k => ?_
  walk_at "go"
  refine isTrue_or ?_
  walk_at "go"
  rw [if_pos (by simp; omega)]
  rw [if_pos rfl]
  walk_at "go"
  have h16 : l < 16 := by omega
  refine o_mul S (mul16 h16) ?_
  clear S; intro t s S
  dsimp only [retv]
  exact h _ _ (S.out (by walk_at "sub"))
theorem times_step {b hf bd bd' : Nat} {T' : Nat → Nat → Nat} (G : Gr (K w) s₀.heap) (hb : ((b : Nat) : Int).fdiv 2 = hf) (b0 : 0 < b) (b16 : b < 16) (hd16 : bd ≤ 16) (hd' : bd' ≤ 16) (hhf : hf < bd')
    (f1 : ∀ l < bd, l / b < bd' ∧ l % b < bd' ∧ (l / b ^^^ l % b) < bd') (f2 : ∀ l < bd', ∀ r < bd', T' l r < bd') (ih : TSpec prog w s₀ d hf bd' T') : TSpec prog w s₀ (d + 1) b bd (tStep T' hf b) := by
  intro A s L m P E l r t1 t2 t3 Q k S hl hr h
  refine call_def2 [(Str.ofString "left", I l), (Str.ofString "right", I r), (Str.ofString "base", I b)] G k S rfl rfl rfl rfl (BindsTo.of_eq rfl) (by decide) (by rfl) (by walk_at "vars") fun L' s A S k => ?_
  have h16 : l < 16 := by omega
  have r16 : r < 16 := by omega
  walk_at "go"
  refine isTrue_or ?_
  walk_at "go"
  by_cases hc : l < 2 ∨ r < 2
  · have ht : tStep T' hf b l r = l * r := by unfold tStep; rw [if_pos hc]
    rw [ht] at h
    by_cases h2 : l < 2
    · rw [if_pos (by simp; omega)]
      rw [if_pos rfl]
      walk_at "go"
      refine o_mul S (mul16 h16) ?_
      clear S; intro t s S
      dsimp only [retv]
      exact h _ _ (S.out (by walk_at "sub"))
    · rw [if_neg (by simp; omega)]
      refine isTrue_or ?_
      walk_at "go"
      rw [if_pos (by simp; omega)]
      rw [if_pos rfl]
      walk_at "go"
      refine o_mul S (mul16 h16) ?_
      clear S; intro t s S
      dsimp only [retv]
      exact h _ _ (S.out (by walk_at "sub"))
  have h2 : ¬ l < 2 := fun e => hc (.inl e)
  have h3 : ¬ r < 2 := fun e => hc (.inr e)
  have ht : tStep T' hf b l r = b * (T' (l / b ^^^ l % b) (r / b ^^^ r % b) ^^^ T' (l % b) (r % b)) + (T' (l % b) (r % b) ^^^ T' (T' (l / b) (r / b)) hf) := by unfold tStep; rw [if_neg hc]
  rw [ht] at h
  rw [if_neg (by simp; omega)]
  refine isTrue_or ?_
  walk_at "go"
  rw [if_neg (by simp; omega)]
  refine isTrue_or_nil ?_
  rw [if_neg (by simp)]
  walk_at "go"
  refine int_divmod S (by omega) (PyProof.noPylong_small (by omega)) ?_
  clear S; intro D1 s S
  rw [Int.fdiv_eq_ediv_of_nonneg _ (by omega), Int.fmod_eq_emod_of_nonneg _ (by omega), show (l : Int) / (b : Int) = ((l / b : Nat) : Int) by simp, show (l : Int) % (b : Int) = ((l % b : Nat) : Int) by simp] at S
  walk_at "go"
  refine int_divmod S (by omega) (PyProof.noPylong_small (by omega)) ?_
  clear S; intro D2 s S
  rw [Int.fdiv_eq_ediv_of_nonneg _ (by omega), Int.fmod_eq_emod_of_nonneg _ (by omega), show (r : Int) / (b : Int) = ((r / b : Nat) : Int) by simp, show (r : Int) % (b : Int) = ((r % b : Nat) : Int) by simp] at S
  obtain ⟨a1, a2, a3⟩ := f1 l hl
  obtain ⟨c1, c2, c3⟩ := f1 r hr
  generalize l / b = lh at *
  generalize l % b = ll at *
  generalize r / b = rh at *
  generalize r % b = rl at *
  walk_at "go"
  refine o_fdiv S (by decide) (PyProof.noPylong_small (by decide)) ?_
  clear S; intro t s S
  rw [hb]
  walk_at "go"
  refine ih k S a1 c1 ?_
  clear S; intro t s S
  walk_at "go"
  refine ih k S a2 c2 ?_
  clear S; intro t s S
  walk_at "go"
  rw [xor_cast _ (by omega) _ (by omega)]
  walk_at "go"
  rw [xor_cast _ (by omega) _ (by omega)]
  refine ih k S a3 c3 ?_
  clear S; intro t s S
  have g1 := f2 _ a1 _ c1
  have g2 := f2 _ a2 _ c2
  have g3 := f2 _ a3 _ c3
  generalize T' lh rh = x1 at *
  generalize T' ll rl = x2 at *
  generalize T' (lh ^^^ ll) (rh ^^^ rl) = x3 at *
  walk_at "go"
  rw [xor_cast _ (by omega) _ (by omega)]
  walk_at "go"
  refine o_mul S (mul16 b16) ?_
  clear S; intro t s S
  walk_at "go"
  refine ih k S g1 hhf ?_
  clear S; intro t s S
  have g4 := f2 _ g1 _ hhf
  generalize T' x1 hf = x4 at *
  walk_at "go"
  rw [xor_cast _ (by omega) _ (by omega)]
  walk_at "go"
  dsimp only [retv]
  refine h _ _ (S.out (by walk_at "sub"))
end
theorem t2_f1 : ∀ l < 4, l / 2 < 2 ∧ l % 2 < 2 ∧ (l / 2 ^^^ l % 2) < 2 := by decide +kernel
theorem t4_f1 : ∀ l < 16, l / 4 < 4 ∧ l % 4 < 4 ∧ (l / 4 ^^^ l % 4) < 4 := by decide +kernel
theorem t1_lt : ∀ l < 2, ∀ r < 2, times1 l r < 2 := by decide +kernel
theorem t2_lt : ∀ l < 4, ∀ r < 4, times2 l r < 4 := by decide +kernel
theorem t4_lt : ∀ l < 16, ∀ r < 16, times4 l r < 16 := by decide +kernel
section
variable {prog : Program} {w : World} {s₀ : Shared} {d : Nat}
theorem times_spec (G : Gr (K w) s₀.heap) : TSpec prog w s₀ (d + 1 + 1) 4 16 times4 :=
  times_step G (by decide) (by decide) (by decide) (by decide) (by decide) (by decide) t4_f1 t2_lt (times_step G (by decide) (by decide) (by decide) (by decide) (by decide) (by decide) t2_f1 t1_lt (times_base G 1))
end

def mex (l : List Nat) : Nat := ((List.range (l.length + 1)).find? fun i => decide (i ∉ l)).getD 0
theorem nodup_sub_len : ∀ {a b : List Nat}, a.Nodup → (∀ x ∈ a, x ∈ b) → a.length ≤ b.length
  | [], _, _, _ => Nat.zero_le _
  | x :: a, b, hn, h => by
    have hx := h x (.head _)
    have hn' := List.nodup_cons.mp hn
    have := nodup_sub_len (a := a) (b := b.erase x) hn'.2 fun y hy => (List.mem_erase_of_ne (fun e : y = x => hn'.1 (by rw [← e]; exact hy))).mpr (h y (.tail _ hy))
    rw [List.length_erase_of_mem hx] at this
    have : 0 < b.length := List.length_pos_of_mem hx
    rw [List.length_cons]; omega
theorem mex_is (l : List Nat) : IsMex l (mex l) := by
  unfold mex
  cases h : (List.range (l.length + 1)).find? fun i => decide (i ∉ l) with
  | none =>
    have := List.find?_eq_none.mp h
    have hs : ∀ x ∈ List.range (l.length + 1), x ∈ l := fun x hx => by simpa using this x hx
    have := nodup_sub_len List.nodup_range hs
    rw [List.length_range] at this; omega
  | some M =>
    obtain ⟨h1, as, bs, h2, h3⟩ := List.find?_eq_some_iff_append.mp h
    refine ⟨by simpa using h1, fun i hi => ?_⟩
    have hlt : i < M := hi
    have hM : as.length = M := by
      have hlen : as.length < (List.range (l.length + 1)).length := by rw [h2]; simp
      have e1 : (List.range (l.length + 1))[as.length]? = some M := by rw [h2]; simp
      rw [List.getElem?_range (by simpa using hlen)] at e1
      exact Option.some.inj e1
    have e2 : i ∈ as := by
      have hlen : as.length < (List.range (l.length + 1)).length := by rw [h2]; simp
      have e1 : (List.range (l.length + 1))[i]? = as[i]? := by rw [h2, List.getElem?_append_left (by omega)]
      rw [List.getElem?_range (by simp at hlen; omega)] at e1
      exact List.mem_of_getElem? e1.symm
    simpa using h3 i e2
theorem mex_uniq {l : List Nat} {M N : Nat} (h1 : IsMex l M) (h2 : IsMex l N) : M = N := by
  rcases Nat.lt_trichotomy M N with h | h | h
  · exact absurd (h2.2 _ h) h1.1
  · exact h
  · exact absurd (h1.2 _ h) h2.1
def wOf (W : List Nat) (mv : Nat) : Nat → Nat
  | 0 => 0
  | b + 1 => if mv / 2 ^ b % 2 = 1 then wOf W mv b ^^^ W.getD b 0 else wOf W mv b
def metA (ms W : List Nat) (c : Nat) : List Nat := (ms.filter fun mv => decide (mv / 2 ^ c = 1)).map fun mv => wOf W mv c
def aloneL (ms : List Nat) : Nat → List Nat
  | 0 => []
  | c + 1 => aloneL ms c ++ [mex (metA ms (aloneL ms c) c)]
theorem xor16 {a b : Nat} (ha : a < 16) (hb : b < 16) : a ^^^ b < 16 := Nat.xor_lt_two_pow (n := 4) ha hb
theorem getD16 {W : List Nat} (h : ∀ x ∈ W, x < 16) (b : Nat) : W.getD b 0 < 16 := by
  by_cases hb : b < W.length
  · rw [List.getD_eq_getElem?_getD, List.getElem?_eq_getElem hb]; exact h _ (List.getElem_mem hb)
  · rw [List.getD_eq_getElem?_getD, List.getElem?_eq_none (by omega)]; decide
theorem wOf_lt {W : List Nat} (h : ∀ x ∈ W, x < 16) (mv : Nat) : ∀ b, wOf W mv b < 16
  | 0 => by unfold wOf; decide
  | b + 1 => by
    unfold wOf; split
    · exact xor16 (wOf_lt h mv b) (getD16 h b)
    · exact wOf_lt h mv b
theorem aloneL_len (ms : List Nat) : ∀ c, (aloneL ms c).length = c
  | 0 => rfl
  | c + 1 => by unfold aloneL; rw [List.length_append, aloneL_len ms c]; rfl
theorem aloneL_pre (ms : List Nat) : ∀ {c e : Nat}, c ≤ e → ∃ t, aloneL ms e = aloneL ms c ++ t
  | c, 0, h => by have : c = 0 := by omega
                  subst this; exact ⟨[], by simp⟩
  | c, e + 1, h => by
    by_cases he : c = e + 1
    · subst he; exact ⟨[], by simp⟩
    · obtain ⟨t, ht⟩ := aloneL_pre ms (c := c) (e := e) (by omega)
      exact ⟨t ++ [mex (metA ms (aloneL ms e) e)], by rw [aloneL, ht, List.append_assoc]⟩
theorem shr_cast (a c : Nat) : ((a : Nat) : Int).fdiv (2 ^ ((c : Nat) : Int).toNat) = ((a / 2 ^ c : Nat) : Int) := by
  rw [Int.toNat_natCast, Int.fdiv_eq_ediv_of_nonneg _ (by exact_mod_cast Nat.zero_le (2 ^ c))]
  simp
theorem mod_cast2 (a : Nat) : ((a : Nat) : Int).fmod 2 = ((a % 2 : Nat) : Int) := by
  rw [Int.fmod_eq_emod_of_nonneg _ (by decide)]; simp
theorem small0 : ∀ n < 16, Builtin.Range.small 0 (n : Nat) 1 = true := by decide +kernel
theorem size0 : ∀ n < 16, Builtin.Range.rangeSize 0 (n : Nat) 1 = n := by decide +kernel
section
variable {prog : Program} {w : World} {A : Around} {s₀ s : Shared} {L : Addr} {m : List (Str × Value)} {P R : Led} {d : Nat} {E : Value → Shared → Prop}
theorem alone_spec {mo : Addr} {ms : List Nat} {cnt : Nat} {t0 : Tok} {Q : Value → Shared → Prop} (G : Gr (K w) s₀.heap) (k : OK A (d + 2)) (S : Sim w s₀ L m P s) (hm : (mo, .list ((zs ms).map I)) ∈ P) (hms : ms.length ≤ 100) (hc16 : cnt < 16) (hW : ∀ x ∈ aloneL ms cnt, x < 16)
    (h : ∀ D s', Sim w s₀ L m ((D, .list ((zs (aloneL ms cnt)).map I)) :: P) s' → Q (.ref D) s') :
    wpAny (model prog w) A (call (.ref 182) [.ref mo, .int cnt t0]) Q E s := by
  refine call_def2 [(Str.ofString "moves", .ref mo), (Str.ofString "count", I cnt)] G k S rfl rfl rfl rfl (BindsTo.of_eq rfl) (by decide) (by rfl) (by walk_at "vars") fun L' s A S k => ?_
  walk_at "go"
  revert a; intro wo S
  refine range_iter (n := cnt) S (by walk_at "mem") (small0 cnt hc16) (size0 cnt hc16) ?_
  clear S; intro it1 s S
  walk_at "go"
  refine for_code (src_range k.h 0 1 cnt) (fun i m' P' => m' = [(Str.ofString "worths", .ref wo), (Str.ofString "moves", .ref mo), (Str.ofString "count", I cnt)] ∧ P' = (wo, .list ((zs (aloneL ms i)).map I)) :: (L, .frame m) :: P) (P := (wo, .list []) :: (L, .frame m) :: P) ((S.vars (by walk_at "vars")).to (by walk_at "sub")) ⟨rfl, rfl⟩ ?_ ?_ ?_
  · intros; trivial
  · clear S
    rintro c m' P' hc ⟨rfl, rfl⟩ J hJ QJ hQ
    intro t s S
    change Sim w s₀ L' _ _ _ at S
    dsimp only [List.nil_append, List.cons_append] at S
    rw [show (0 : Int) + 1 * (c : Int) = ((c : Nat) : Int) by omega]
    have hWc : ∀ x ∈ aloneL ms c, x < 16 := fun x hx => by
      obtain ⟨t, ht⟩ := aloneL_pre ms (c := c) (e := cnt) (by omega)
      exact hW x (by rw [ht]; exact List.mem_append_left _ hx)
    have hWl := aloneL_len ms c
    try dsimp only at hJ
    rw [aloneL] at hJ
    generalize aloneL ms c = W at *
    walk_at "go"
    revert a; intro me S
    revert it; intro it2 S
    refine for_code (src_list k.h (a := mo) (xs := (zs ms).map I) .none) (fun i m' P' => m' = [(Str.ofString "met", .ref me), (Str.ofString "coin", I c), (Str.ofString "worths", .ref wo), (Str.ofString "moves", .ref mo), (Str.ofString "count", I cnt)] ∧ P' = (me, .list ((zs (metA (ms.take i) W c)).map I)) :: (it1, .riter (0 + 1 * (c + 1 : Nat)) ((cnt : Nat) - (c + 1 : Nat)) 1) :: (wo, .list ((zs W).map I)) :: (L, .frame m) :: P) (P := (me, .list []) :: (it1, .riter (0 + 1 * (c + 1 : Nat)) ((cnt : Nat) - (c + 1 : Nat)) 1) :: (wo, .list ((zs W).map I)) :: (L, .frame m) :: P) ((S.vars (by walk_at "vars")).to (by walk_at "sub")) ⟨rfl, rfl⟩ ?_ ?_ ?_
    · rintro i m' P' ⟨rfl, rfl⟩; walk_at "mem"
    · clear S
      rintro i m' P' hi ⟨rfl, rfl⟩ J2 hJ2 QJ2 hQ2
      simp only [List.length_map] at hi
      show All (((zs ms).map I).getD i .none) _
      rw [zs_getD hi]
      have e1 : metA (ms.take (i + 1)) W c = metA (ms.take i) W c ++ (if ms.getD i 0 / 2 ^ c = 1 then [wOf W (ms.getD i 0) c] else []) := by
        rw [take_getD hi]; unfold metA; rw [List.filter_append, List.map_append]
        congr 1
        by_cases hq : ms.getD i 0 / 2 ^ c = 1
        · rw [if_pos hq, List.filter_cons_of_pos (by simpa using hq)]; rfl
        · rw [if_neg hq, List.filter_cons_of_neg (by simpa using hq)]; rfl
      have hl1 : (metA (ms.take i) W c).length ≤ 100 := by
        unfold metA; rw [List.length_map]
        refine Nat.le_trans (List.length_filter_le _ _) ?_
        rw [List.length_take]; omega
      try dsimp only at hJ2
      rw [e1] at hJ2
      generalize metA (ms.take i) W c = mt at *
      generalize ms.getD i 0 = mv at *
      intro t s S
      change Sim w s₀ L' _ _ _ at S
      dsimp only [List.nil_append, List.cons_append] at S
      walk_at "go"
      rw [shr_cast]
      by_cases hq : mv / 2 ^ c = 1
      · rw [if_pos (by rw [hq]; rfl)]
        rw [if_pos hq] at hJ2
        walk_at "go"
        refine range_iter (n := c) S (by walk_at "mem") (small0 c (by omega)) (size0 c (by omega)) ?_
        clear S; intro it3 s S
        walk_at "go"
        refine for_code (src_range k.h 0 1 c) (fun b m' P' => m' = [(Str.ofString "worth", I (wOf W mv b : Nat)), (Str.ofString "move", I mv), (Str.ofString "met", .ref me), (Str.ofString "coin", I c), (Str.ofString "worths", .ref wo), (Str.ofString "moves", .ref mo), (Str.ofString "count", I cnt)] ∧ P' = (it2, .liter mo (i + 1)) :: (me, .list ((zs mt).map I)) :: (it1, .riter (0 + 1 * (c + 1 : Nat)) ((cnt : Nat) - (c + 1 : Nat)) 1) :: (wo, .list ((zs W).map I)) :: (L, .frame m) :: P) (P := (it2, .liter mo (i + 1)) :: (me, .list ((zs mt).map I)) :: (it1, .riter (0 + 1 * (c + 1 : Nat)) ((cnt : Nat) - (c + 1 : Nat)) 1) :: (wo, .list ((zs W).map I)) :: (L, .frame m) :: P) ((S.vars (by walk_at "vars")).to (by walk_at "sub")) ⟨rfl, rfl⟩ ?_ ?_ ?_
        · intros; trivial
        · clear S
          rintro b m' P' hb ⟨rfl, rfl⟩ J3 hJ3 QJ3 hQ3
          intro t s S
          change Sim w s₀ L' _ _ _ at S
          dsimp only [List.nil_append, List.cons_append] at S
          rw [show (0 : Int) + 1 * (b : Int) = ((b : Nat) : Int) by omega]
          have h1 := wOf_lt hWc mv b
          have h2 := getD16 hWc b
          try dsimp only at hJ3
          rw [wOf] at hJ3
          generalize wOf W mv b = x at *
          walk_at "go"
          rw [shr_cast]
          walk_at "go"
          rw [mod_cast2]
          by_cases hq2 : mv / 2 ^ b % 2 = 1
          · rw [if_pos (by rw [hq2]; rfl)]
            rw [if_pos hq2] at hJ3
            walk_at "go"
            refine list_item S (by walk_at "mem") (by omega) (by omega) (x := I (W.getD b 0 : Nat)) (by rw [Int.toNat_natCast]; simp [zs, List.getD, show b < W.length by omega]) ?_
            intro t
            walk_at "go"
            rw [xor_cast _ h1 _ h2] at S
            refine ⟨[(Str.ofString "worth", I (x ^^^ W.getD b 0 : Nat)), (Str.ofString "move", I mv), (Str.ofString "met", .ref me), (Str.ofString "coin", I c), (Str.ofString "worths", .ref wo), (Str.ofString "moves", .ref mo), (Str.ofString "count", I cnt)], _, (S.vars (by walk_at "vars")).to (Q := (it3, .riter (0 + 1 * (b + 1 : Nat)) ((c : Nat) - (b + 1 : Nat)) 1) :: (it2, .liter mo (i + 1)) :: (me, .list ((zs mt).map I)) :: (it1, .riter (0 + 1 * (c + 1 : Nat)) ((cnt : Nat) - (c + 1 : Nat)) 1) :: (wo, .list ((zs W).map I)) :: (L, .frame m) :: P) (by walk_at "sub"), hJ3 _ _ ⟨rfl, rfl⟩⟩
          · rw [if_neg (by simpa using fun e : ((mv / 2 ^ b % 2 : Nat) : Int) = 1 => hq2 (by omega))]
            rw [if_neg hq2] at hJ3
            walk_at "go"
            refine ⟨[(Str.ofString "worth", I (x : Nat)), (Str.ofString "move", I mv), (Str.ofString "met", .ref me), (Str.ofString "coin", I c), (Str.ofString "worths", .ref wo), (Str.ofString "moves", .ref mo), (Str.ofString "count", I cnt)], _, (S.vars (by walk_at "vars")).to (Q := (it3, .riter (0 + 1 * (b + 1 : Nat)) ((c : Nat) - (b + 1 : Nat)) 1) :: (it2, .liter mo (i + 1)) :: (me, .list ((zs mt).map I)) :: (it1, .riter (0 + 1 * (c + 1 : Nat)) ((cnt : Nat) - (c + 1 : Nat)) 1) :: (wo, .list ((zs W).map I)) :: (L, .frame m) :: P) (by walk_at "sub"), hJ3 _ _ ⟨rfl, rfl⟩⟩
        · clear S
          rintro m' P' s ⟨rfl, rfl⟩ S
          change Sim w s₀ L' _ _ _ at S
          walk_at "go"
          refine ⟨[(Str.ofString "met", .ref me), (Str.ofString "coin", I c), (Str.ofString "worths", .ref wo), (Str.ofString "moves", .ref mo), (Str.ofString "count", I cnt)], _, (S.vars (by walk_at "vars")).to (Q := (it2, .liter mo (i + 1)) :: (me, .list ((zs (mt ++ [wOf W mv c])).map I)) :: (it1, .riter (0 + 1 * (c + 1 : Nat)) ((cnt : Nat) - (c + 1 : Nat)) 1) :: (wo, .list ((zs W).map I)) :: (L, .frame m) :: P) ?_, hJ2 _ _ ⟨rfl, rfl⟩⟩
          rw [show (zs (mt ++ [wOf W mv c])).map I = (zs mt).map I ++ [I (wOf W mv c : Nat)] by simp [zs]]; walk_at "sub"
      · rw [if_neg (by simpa using fun e : ((mv / 2 ^ c : Nat) : Int) = 1 => hq (by omega))]
        rw [if_neg hq, List.append_nil] at hJ2
        walk_at "go"
        refine ⟨[(Str.ofString "met", .ref me), (Str.ofString "coin", I c), (Str.ofString "worths", .ref wo), (Str.ofString "moves", .ref mo), (Str.ofString "count", I cnt)], _, (S.vars (by walk_at "vars")).to (Q := (it2, .liter mo (i + 1)) :: (me, .list ((zs mt).map I)) :: (it1, .riter (0 + 1 * (c + 1 : Nat)) ((cnt : Nat) - (c + 1 : Nat)) 1) :: (wo, .list ((zs W).map I)) :: (L, .frame m) :: P) (by walk_at "sub"), hJ2 _ _ ⟨rfl, rfl⟩⟩
    · clear S
      rintro m' P' s ⟨rfl, rfl⟩ S
      change Sim w s₀ L' _ _ _ at S
      simp only [List.length_map, List.take_length] at S
      have hl1 : (metA ms W c).length ≤ 100 := by
        unfold metA; rw [List.length_map]
        exact Nat.le_trans (List.length_filter_le _ _) hms
      walk_at "go"
      refine least_spec (d := d) G (k.le (by omega)) S (by walk_at "mem") (mex_is _) (by omega) ?_
      clear S; intro t s S
      walk_at "go"
      refine ⟨[(Str.ofString "worths", .ref wo), (Str.ofString "moves", .ref mo), (Str.ofString "count", I cnt)], _, (S.vars (by walk_at "vars")).to (Q := (it1, .riter (0 + 1 * (c + 1 : Nat)) ((cnt : Nat) - (c + 1 : Nat)) 1) :: (wo, .list ((zs (W ++ [mex (metA ms W c)])).map I)) :: (L, .frame m) :: P) ?_, hJ _ _ ⟨rfl, rfl⟩⟩
      rw [show (zs (W ++ [mex (metA ms W c)])).map I = (zs W).map I ++ [I (mex (metA ms W c) : Nat)] by simp [zs]]; walk_at "sub"
  · clear S
    rintro m' P' s ⟨rfl, rfl⟩ S
    change Sim w s₀ L' _ _ _ at S
    walk_at "go"
    dsimp only [retv]
    exact h _ _ (S.out (by walk_at "sub"))
end

abbrev posT : Pos := { line := 186, col := 18, endLine := 186, endCol := 60 }
abbrev qT : Str := Str.ofString "_law_turned" ++ ".<locals>." ++ "<lambda>"
def xorL (l : List Nat) : Nat := l.foldl (· ^^^ ·) 0
section
variable {prog : Program} {w : World} {A : Around} {s₀ s : Shared} {L : Addr} {m : List (Str × Value)} {P R : Led} {d : Nat} {E : Value → Shared → Prop}
theorem turned_spec {oa wd : Addr} {os : List Nat} {kv : List (Int × Value)} {ep : Nat} {val : Nat → Nat} {tt : Option (Addr × Obj)} {Q : Value → Shared → Prop} (GMm : GM (K w) s₀.heap) (C : CodeHd s₀.heap 195 191) (k : OK A (d + 3)) (S : Sim w s₀ L m (tabLed 191 posT tt ++ P) s) (hm : (oa, .list ((zs os).map I)) ∈ P) (hd : (wd, .dict kv ep) ∈ P) (hos : os.length ≤ 100)
    (hv : ∀ o ∈ os, dget kv ((o : Nat) : Int) = some (I (val o : Nat)) ∧ val o < 16)
    (ok : TabOK qT tt) (h : ∀ tt' t s', TabOK qT tt' → Sim w s₀ L m (tabLed 191 posT tt' ++ P) s' → Q (.int (xorL (os.map val) : Nat) t) s') :
    wpAny (model prog w) A (call (.ref 196) [.ref wd, .ref oa]) Q E s := by
  have G := GMm.G
  refine wpAny_noRaise (call_defC [(Str.ofString "others", .ref oa)] (fun L' => [(L' + 1, .cell (some (.ref wd)))]) G k S rfl rfl rfl rfl rfl rfl (by rfl) (by decide) (by walk_at "vars") (fun L' => rfl) fun L' s A S k => ?_)
  dsimp only [List.cons_append, List.nil_append] at S
  walk_at "go"
  obtain ⟨R, hR⟩ : ∃ R : Led, R = (L' + 1, MO.cell (some (Value.ref wd))) :: (L, MO.frame m) :: P := ⟨_, rfl⟩
  replace S := S.to (Q := tabLed 191 posT tt ++ R) (by rw [hR]; walk_at "sub")
  refine lam_new (Pt := 191) (c := 195) (t := tt) GMm C S ok ?_
  clear S; intro f c' oc pm ctv s ok' S
  have R1 : (oa, MO.list ((zs os).map I)) ∈ R := by rw [hR]; walk_at "mem"
  have R2 : (wd, MO.dict kv ep) ∈ R := by rw [hR]; walk_at "mem"
  have R3 : (L' + 1, MO.cell (some (Value.ref wd))) ∈ R := by rw [hR]; walk_at "mem"
  generalize hob : kla_obj _ _ _ _ _ _ _ _ _ = ob at S
  walk_at "go"
  have hx := fun i (hi : i < os.length) => hv (os.getD i 0) (by simp [List.getD, hi])
  refine reduce_fn (d := d) (a := oa) (xs := (zs os).map I) (fun i v P' => v = I ((xorL ((os.take i).map val) : Nat) : Int) ∧ xorL ((os.take i).map val) < 16 ∧ P' = (f, MO.raw ob) :: (tabLed 191 posT (some (c', oc)) ++ R)) G k (fun h => h.get? f = some ob) (fun h X => keeps_fn (fd := ?fd) (o := ob) ?hfd h X) ?hkp S (.inl ⟨0, _, rfl⟩) ⟨rfl, (by show 0 < 16; decide), rfl⟩ ?hreq ?step ?done
  case hfd => subst hob; rfl
  case hkp =>
    rintro i v P X L m s ⟨rfl, _, rfl⟩ S
    obtain ⟨o1, hf, e1, _⟩ := S.get (a := f) (o := .raw ob) (by walk_at "mem")
    cases e1; exact hf
  case hreq => rintro i v P ⟨rfl, _, rfl⟩; exact .tail _ (List.mem_append_right _ R1)
  case step =>
    clear S
    rintro i v P X L m A s hi ⟨rfl, hlt, rfl⟩ k S
    simp only [List.length_map] at hi
    rw [zs_getD hi]
    obtain ⟨v1, v2⟩ := hx i hi
    have e : xorL ((os.take (i + 1)).map val) = xorL ((os.take i).map val) ^^^ val (os.getD i 0) := by
      rw [take_getD hi, List.map_append]; unfold xorL; rw [List.foldl_append]; rfl
    rw [e]
    generalize xorL ((os.take i).map val) = x at *
    generalize os.getD i 0 = o at *
    intro t1 t2
    subst hob
    refine call_lam [(Str.ofString "worth", I x), (Str.ofString "other", I o)] G k S (List.mem_append_right _ (.head _)) (c' := c') (oc := oc) (List.mem_append_right _ (by walk_at "mem")) ok' rfl (by rfl) (by walk_at "vars") ?_
    clear S; intro L' s A S k
    walk_at "go"
    refine dict_sub S (by walk_at "mem") v1 ?_
    intro t; clear S; intro s S
    walk_at "go"
    rw [xor_cast _ hlt _ v2]
    exact ⟨_, ⟨rfl, xor16 hlt v2, rfl⟩, S.out (by walk_at "sub")⟩
  case done =>
    clear S
    rintro v P' s ⟨rfl, hlt, rfl⟩ S
    simp only [List.length_map, List.take_length] at *
    intro t
    dsimp only [retv]
    subst hR
    exact h _ _ _ ok' (S.out (by walk_at "sub"))
end

abbrev posF : Pos := { line := 188, col := 18, endLine := 188, endCol := 77 }
abbrev qF : Str := Str.ofString "_law_first" ++ ".<locals>." ++ "<lambda>"
def stepF (a : Nat) (x : Int) : Nat := if x = a then a + 1 else a
theorem foldF : ∀ (xs : List Int) (a M : Nat), xs.Pairwise (· < ·) → (∀ x ∈ xs, (a : Int) ≤ x) → a ≤ M → (M : Int) ∉ xs → (∀ i : Nat, a ≤ i → i < M → (i : Int) ∈ xs) → xs.foldl stepF a = M
  | [], a, M, _, _, h1, _, h2 => by
    by_cases he : a = M
    · exact he
    · cases h2 a (by omega) (by omega)
  | x :: xs, a, M, hp, hg, h1, hM, h2 => by
    obtain ⟨p1, p2⟩ := List.pairwise_cons.mp hp
    have gx := hg x (.head _)
    by_cases hx : x = a
    · have e : stepF a x = a + 1 := if_pos hx
      rw [List.foldl_cons, e]
      have hne : a ≠ M := fun q => hM (by rw [hx, q]; exact .head _)
      refine foldF xs (a + 1) M p2 (fun y hy => ?_) (by omega) (fun q => hM (.tail _ q)) fun i i1 i2 => ?_
      · have := p1 y hy; omega
      · rcases List.mem_cons.mp (h2 i (by omega) i2) with q | q
        · omega
        · exact q
    · have e : stepF a x = a := if_neg hx
      rw [List.foldl_cons, e]
      have hMa : a = M := by
        by_cases he : a = M
        · exact he
        · rcases List.mem_cons.mp (h2 a (by omega) (by omega)) with q | q
          · omega
          · have := p1 _ q; omega
      refine foldF xs a M p2 (fun y hy => ?_) h1 (fun q => hM (.tail _ q)) fun i i1 i2 => by omega
      have := p1 y hy; omega
theorem asc_of : ∀ {l : List Int}, l.Pairwise (· ≤ ·) → l.Nodup → l.Pairwise (· < ·)
  | [], _, _ => .nil
  | x :: l, h, n => by
    have h' := List.pairwise_cons.mp h
    have n' := List.nodup_cons.mp n
    exact List.pairwise_cons.mpr ⟨fun y hy => by have := h'.1 y hy; have : x ≠ y := fun e => n'.1 (e ▸ hy); omega, asc_of h'.2 n'.2⟩
section
variable {prog : Program} {w : World} {A : Around} {s₀ s : Shared} {L : Addr} {m : List (Str × Value)} {P R : Led} {d : Nat} {E : Value → Shared → Prop}
theorem first_spec {na : Addr} {ns : List Nat} {tt : Option (Addr × Obj)} {Q : Value → Shared → Prop} (GMm : GM (K w) s₀.heap) (C : CodeHd s₀.heap 202 198) (k : OK A (d + 3)) (S : Sim w s₀ L m (tabLed 198 posF tt ++ P) s) (hm : (na, .list ((zs ns).map I)) ∈ P) (hns : ∀ n ∈ ns, n < 16) (hz : ns.length ≤ 1000)
    (ok : TabOK qF tt) (h : ∀ tt' t s', TabOK qF tt' → Sim w s₀ L m (tabLed 198 posF tt' ++ P) s' → Q (.int (mex ns : Nat) t) s') :
    wpAny (model prog w) A (call (.ref 203) [.ref na]) Q E s := by
  have G := GMm.G
  refine call_def2 [(Str.ofString "met", .ref na)] G k S rfl rfl rfl rfl (BindsTo.of_eq rfl) (by decide) (by rfl) (by walk_at "vars") fun L' s A S k => ?_
  walk_at "go"
  obtain ⟨R, hR⟩ : ∃ R : Led, R = (L, MO.frame m) :: P := ⟨_, rfl⟩
  replace S := S.to (Q := tabLed 198 posF tt ++ R) (by rw [hR]; walk_at "sub")
  refine lam_new (Pt := 198) (c := 202) (t := tt) GMm C S ok ?_
  clear S; intro f c' oc pm ctv s ok' S
  have R1 : (na, MO.list ((zs ns).map I)) ∈ R := by rw [hR]; walk_at "mem"
  generalize hob : kla_obj _ _ _ _ _ _ _ _ _ = ob at S
  walk_at "go"
  refine set_list k.h S (by walk_at "mem") (by rw [List.length_map]; show ns.length + 1 < 4096; omega) ?_
  clear S; intro b es ep t s hE hmem hsz S
  walk_at "go"
  have hes : es.size ≤ 16 := by
    have h1 := nodup_len (a := es.toList.map keyOf) (b := zs (List.range 16)) hE.nd fun x hx => by
      obtain ⟨n, hn, rfl⟩ := List.mem_map.mp ((hmem x).mp hx)
      exact List.mem_map.mpr ⟨n, List.mem_range.mpr (hns n hn), rfl⟩
    simpa using h1
  refine sorted_set k.h S (by walk_at "mem") hE (by omega) ?_
  clear S; intro fd xs s hp hs S
  walk_at "go"
  have hxs : xs.foldl stepF 0 = mex ns := by
    have hM := mex_is ns
    have hin : ∀ i : Nat, (i : Int) ∈ xs ↔ i ∈ ns := fun i => by
      rw [hp.mem_iff, hmem]
      constructor
      · intro q; obtain ⟨j, j1, j2⟩ := List.mem_map.mp q; have : j = i := by omega
        exact this ▸ j1
      · intro q; exact List.mem_map.mpr ⟨i, q, rfl⟩
    refine foldF xs 0 _ (asc_of hs (hp.nodup_iff.mpr hE.nd)) (fun x hx => ?_) (Nat.zero_le _) (fun q => hM.1 ((hin _).mp q)) fun i _ i2 => (hin i).mpr (hM.2 i i2)
    obtain ⟨j, _, j2⟩ := List.mem_map.mp ((hmem x).mp (hp.mem_iff.mp hx))
    omega
  obtain ⟨R2, hR2⟩ : ∃ R2 : Led, R2 = (fd, MO.list (List.map I xs)) :: R := ⟨_, rfl⟩
  replace S := S.to (Q := (f, MO.raw ob) :: (tabLed 198 posF (some (c', oc)) ++ R2)) (by rw [hR2]; walk_at "sub")
  refine reduce_fn (d := d) (a := fd) (xs := xs.map I) (fun i v P' => v = I (((xs.take i).foldl stepF 0 : Nat) : Int) ∧ P' = (f, MO.raw ob) :: (tabLed 198 posF (some (c', oc)) ++ R2)) G k (fun h => h.get? f = some ob) (fun h X => keeps_fn (fd := ?fd) (o := ob) ?hfd h X) ?hkp S (.inl ⟨0, _, rfl⟩) ⟨rfl, rfl⟩ ?hreq ?step ?done
  case hfd => subst hob; rfl
  case hkp =>
    rintro i v P X L m s ⟨rfl, rfl⟩ S
    obtain ⟨o1, hf, e1, _⟩ := S.get (a := f) (o := .raw ob) (by walk_at "mem")
    cases e1; exact hf
  case hreq => rintro i v P ⟨rfl, rfl⟩; exact .tail _ (List.mem_append_right _ (by rw [hR2]; exact .head _))
  case step =>
    clear S
    rintro i v P X L m A s hi ⟨rfl, rfl⟩ k S
    simp only [List.length_map] at hi
    have hgi : (xs.map I).getD i .none = I (xs.getD i 0) := by simp [List.getD, hi]
    rw [hgi]
    have e : (xs.take (i + 1)).foldl stepF 0 = stepF ((xs.take i).foldl stepF 0) (xs.getD i 0) := by
      rw [List.take_add_one, List.foldl_append]; simp [List.getD, hi]
    rw [e]
    generalize (xs.take i).foldl stepF 0 = x at *
    generalize xs.getD i 0 = y at *
    intro t1 t2
    subst hob
    refine call_lam [(Str.ofString "least", I x), (Str.ofString "worth", I y)] G k S (List.mem_append_right _ (.head _)) (c' := c') (oc := oc) (List.mem_append_right _ (by walk_at "mem")) ok' rfl (by rfl) (by walk_at "vars") ?_
    clear S; intro L' s A S k
    refine wpAny_IfExp ?_
    walk_at "go"
    by_cases hq : y = x
    · have e2 : stepF x y = x + 1 := if_pos hq
      rw [if_pos (by rw [hq]; simp), e2]
      walk_at "go"
      exact ⟨_, ⟨rfl, rfl⟩, S.out (by walk_at "sub")⟩
    · have e2 : stepF x y = x := if_neg hq
      rw [if_neg (by simpa using hq), e2]
      walk_at "go"
      exact ⟨_, ⟨rfl, rfl⟩, S.out (by walk_at "sub")⟩
  case done =>
    clear S
    rintro v P' s ⟨rfl, rfl⟩ S
    simp only [List.length_map, List.take_length] at *
    rw [hxs]
    intro t
    dsimp only [retv]
    subst hR2 hR
    exact h _ _ _ ok' (S.out (by walk_at "sub"))
end

def prodKV (f : Nat → Nat) (n : Nat) : List (Int × Value) := (List.range n).map fun c => (((c : Nat) : Int), I (f c : Nat))
theorem prodKV_put (f : Nat → Nat) (n : Nat) : dput (prodKV f n) ((n : Nat) : Int) (I (f n : Nat)) = prodKV f (n + 1) := by
  rw [dput_new]
  · unfold prodKV; rw [List.range_succ, List.map_append]; rfl
  · intro p hp
    obtain ⟨c, hc, rfl⟩ := List.mem_map.mp hp
    have := List.mem_range.mp hc
    show ((c : Nat) : Int) ≠ n
    omega
theorem prodKV_len (f : Nat → Nat) (n : Nat) : (prodKV f n).length = n := by unfold prodKV; simp
def prodOf (ls rs : List Nat) (c : Nat) : Nat := times4 (ls.getD (c / 3) 0) (rs.getD (c % 3) 0)
section
variable {prog : Program} {w : World} {A : Around} {s₀ s : Shared} {L : Addr} {m : List (Str × Value)} {P R : Led} {d : Nat} {E : Value → Shared → Prop}
theorem products_spec {le ri : Addr} {ls rs : List Nat} {Q : Value → Shared → Prop} (G : Gr (K w) s₀.heap) (k : OK A (d + 4)) (S : Sim w s₀ L m P s) (hle : (le, .list ((zs ls).map I)) ∈ P) (hri : (ri, .list ((zs rs).map I)) ∈ P) (hl4 : ls.length = 4) (hr3 : rs.length = 3)
    (hls : ∀ x ∈ ls, x < 16) (hrs : ∀ x ∈ rs, x < 16)
    (h : ∀ D ep s', Sim w s₀ L m ((D, .dict (prodKV (prodOf ls rs) 12) ep) :: P) s' → Q (.ref D) s') :
    wpAny (model prog w) A (call (.ref 213) [.ref le, .ref ri]) Q E s := by
  refine wpAny_noRaise (call_defC [(Str.ofString "lefts", .ref le)] (fun L' => [(L' + 1, .cell (some (.ref ri)))]) G k S rfl rfl rfl rfl rfl rfl (by rfl) (by decide) (by walk_at "vars") (fun L' => rfl) fun L' s A S k => ?_)
  dsimp only [List.cons_append, List.nil_append] at S
  walk_at "go"
  refine dict_comp (by rfl) ?_
  walk_at "go"
  refine newDict_ S ?_
  clear S; intro D s S
  walk_at "go"
  revert e it; intro e1 it1 S
  obtain ⟨R, hR⟩ : ∃ R : Led, R = (L', MO.frame [(Str.ofString "lefts", Value.ref le)]) :: (L' + 1, MO.cell (some (Value.ref ri))) :: (L, MO.frame m) :: P := ⟨_, rfl⟩
  have R1 : (le, MO.list ((zs ls).map I)) ∈ R := by rw [hR]; walk_at "mem"
  have R2 : (ri, MO.list ((zs rs).map I)) ∈ R := by rw [hR]; walk_at "mem"
  have R3 : (L' + 1, MO.cell (some (Value.ref ri))) ∈ R := by rw [hR]; walk_at "mem"
  replace S := S.to (Q := (e1, .en it1 0) :: (it1, .liter le 0) :: (D, .dict [] 0) :: R) (by rw [hR]; walk_at "sub")
  refine comp_startD rfl (comp_code (src_enum k.h (a := le) (xs := (zs ls).map I) .none) (fun i m2 P' => ∃ ep, P' = (D, .dict (prodKV (prodOf ls rs) (3 * i)) ep) :: R) S ⟨0, rfl⟩ ?hreq turn_dict2a ?step ?done) (self_enum S (by walk_at "mem"))
  case hreq => rintro i m2 P' ⟨ep, rfl⟩; walk_at "mem"
  case step =>
    rintro i m2 P' hi ⟨ep, rfl⟩ J hJ
    clear S
    simp only [List.length_map] at hi
    intro tp s S
    change Sim w s₀ C _ _ _ at S
    dsimp only [List.nil_append, List.cons_append] at S
    rw [zs_getD hi] at S
    have hl16 := getD16 hls i
    walk_at "go"
    rw [if_pos rfl]
    refine clause2 ?_
    walk_at "go"
    revert e it; intro e2 it2 S
    generalize hll : ls.getD i 0 = l at *
    replace S := (S.vars (m' := [(Str.ofString "place", I i), (Str.ofString "left", I l)]) (by walk_at "vars")).to (Q := (e2, .en it2 0) :: (it2, .liter ri 0) :: (D, .dict (prodKV (prodOf ls rs) (3 * i + 0)) ep) :: (e1, .en it1 (i + 1)) :: (it1, .liter le (i + 1)) :: R) (by walk_at "sub")
    refine comp_startD rfl (comp_code (src_enum k.h (a := ri) (xs := (zs rs).map I) .none) (fun j m3 P' => m3 = [(Str.ofString "place", I i), (Str.ofString "left", I l)] ∧ ∃ ep, P' = (D, .dict (prodKV (prodOf ls rs) (3 * i + j)) ep) :: (e1, .en it1 (i + 1)) :: (it1, .liter le (i + 1)) :: R) S ⟨rfl, ep, rfl⟩ ?hreq2 turn_dict2b ?step2 ?done2) (self_enum S (by walk_at "mem"))
    case hreq2 => rintro j m2 P' ⟨rfl, ep, rfl⟩; walk_at "mem"
    case step2 =>
      rintro j m3 P' hj ⟨rfl, ep, rfl⟩ J2 hJ2
      clear S
      simp only [List.length_map] at hj
      intro tp s S
      change Sim w s₀ C _ _ _ at S
      dsimp only [List.nil_append, List.cons_append] at S
      rw [zs_getD hj] at S
      have hr16 := getD16 hrs j
      have hf : prodOf ls rs (3 * i + j) = times4 l (rs.getD j 0) := by
        unfold prodOf
        rw [show (3 * i + j) / 3 = i by omega, show (3 * i + j) % 3 = j by omega, hll]
      generalize rs.getD j 0 = r at *
      walk_at "go"
      rw [if_pos rfl]
      refine emit_dict ?_
      walk_at "go"
      refine o_mul S (.of_left (by decide)) ?_
      clear S; intro t s S
      walk_at "go"
      refine times_spec G k S hl16 hr16 ?_
      clear S; intro t s S
      rw [show (3 : Int) * (i : Int) + (j : Int) = ((3 * i + j : Nat) : Int) by push_cast; rfl]
      refine dict_putD S (by walk_at "rem") (by rw [prodKV_len, sizeLine_eq]; omega) ?_
      clear S; intro ep' s S
      dsimp only [er] at S
      rw [← hf, prodKV_put] at S
      refine ⟨rfl, [(Str.ofString "place", I i), (Str.ofString "left", I l)], _, (S.vars (by walk_at "vars")).to (Q := (e2, .en it2 (j + 1)) :: (it2, .liter ri (j + 1)) :: (D, .dict (prodKV (prodOf ls rs) (3 * i + (j + 1))) ep') :: (e1, .en it1 (i + 1)) :: (it1, .liter le (i + 1)) :: R) (by walk_at "sub"), hJ2 _ _ ⟨rfl, ep', rfl⟩⟩
    case done2 =>
      clear S
      rintro m3 P' s ⟨rfl, ep', rfl⟩ S
      change Sim w s₀ C _ _ _ at S
      simp only [List.length_map, hr3] at S
      exact ⟨rfl, _, _, S.to (Q := (e1, .en it1 (i + 1)) :: (it1, .liter le (i + 1)) :: (D, .dict (prodKV (prodOf ls rs) (3 * (i + 1))) ep') :: R) (by walk_at "sub"), hJ _ _ ⟨ep', rfl⟩⟩
  case done =>
    clear S
    rintro m2 P' s ⟨ep, rfl⟩ S
    change Sim w s₀ C _ _ _ at S
    simp only [List.length_map, hl4] at S
    refine comp_end S (L := L') (m := [(Str.ofString "lefts", Value.ref le)]) (P' := (D, .dict (prodKV (prodOf ls rs) 12) ep) :: (L, .frame m) :: P) (by rw [hR]; walk_at "sub") ?_
    clear S; intro s S
    walk_at "go"
    dsimp only [retv]
    exact h _ _ _ (S.out (by walk_at "sub"))
end

def nest2 (es : List (Addr × NL)) : Led := es.flatMap fun e => (e.1, .list (refs e.2)) :: nest e.2
def refs2 (es : List (Addr × NL)) : List Value := es.map fun e => .ref e.1
theorem refs2_len (es : List (Addr × NL)) : (refs2 es).length = es.length := List.length_map ..
theorem nest2_app (a b : List (Addr × NL)) : nest2 (a ++ b) = nest2 a ++ nest2 b := List.flatMap_append ..
theorem nest2_one (e : Addr × NL) : nest2 [e] = (e.1, .list (refs e.2)) :: nest e.2 := by unfold nest2; simp
theorem nest2_cons (e : Addr × NL) (r : List (Addr × NL)) : nest2 (e :: r) = (e.1, .list (refs e.2)) :: (nest e.2 ++ nest2 r) := by unfold nest2; simp
theorem nest2_mem {es : List (Addr × NL)} {e} (h : e ∈ es) : (e.1, MO.list (refs e.2)) ∈ nest2 es := List.mem_flatMap.mpr ⟨e, h, .head _⟩
theorem nest2_mem2 {es : List (Addr × NL)} {e} (h : e ∈ es) {r} (hr : r ∈ e.2) : (r.1, MO.list (r.2.map I)) ∈ nest2 es := List.mem_flatMap.mpr ⟨e, h, .tail _ (nest_mem hr)⟩
theorem split_at {α : Type} {rs : List α} {i : Nat} (h : i < rs.length) : ∃ r1 r r2, rs = r1 ++ r :: r2 ∧ r1.length = i :=
  ⟨rs.take i, rs[i], rs.drop (i + 1), by rw [List.getElem_cons_drop, List.take_append_drop], by rw [List.length_take]; omega⟩
def cellsOf (l c : List Nat) : List Nat := l.flatMap fun p => c.map fun q => 3 * p + q
def lastN (x : List Nat) : Nat := x.getLast?.getD 0
def optOf (cs : List (List Nat)) (c : Nat) : List (List Nat) := (cs.filter fun x => decide (lastN x = c)).map List.dropLast
def allC (lin col : List (List Nat)) (i j : Nat) : List (List Nat) := ((lin.take i).flatMap fun l => col.map (cellsOf l)) ++ (col.take j).map (cellsOf (lin.getD i []))
theorem allC_row {lin col : List (List Nat)} {i : Nat} (hi : i < lin.length) : allC lin col i col.length = allC lin col (i + 1) 0 := by
  unfold allC
  rw [List.take_add_one, List.flatMap_append, List.take_length]
  simp [List.getD, hi]
theorem allC_col {lin col : List (List Nat)} {i j : Nat} (hj : j < col.length) : allC lin col i (j + 1) = allC lin col i j ++ [cellsOf (lin.getD i []) (col.getD j [])] := by
  unfold allC
  rw [List.take_add_one, List.map_append, List.append_assoc]
  simp [List.getD, hj]
theorem optOf_add (cs : List (List Nat)) (x : List Nat) (c : Nat) : optOf (cs ++ [x]) c = optOf cs c ++ if lastN x = c then [x.dropLast] else [] := by
  unfold optOf
  rw [List.filter_append, List.map_append]
  congr 1
  by_cases h : lastN x = c
  · rw [if_pos h, List.filter_cons_of_pos (by simpa using h)]; rfl
  · rw [if_neg h, List.filter_cons_of_neg (by simpa using h)]; rfl
theorem optOf_len (cs : List (List Nat)) (c : Nat) : (optOf cs c).length ≤ cs.length := by
  unfold optOf; rw [List.length_map]; exact List.length_filter_le _ _
theorem flat_len' {α β : Type} (f : α → List β) (b : Nat) : ∀ l : List α, (∀ x ∈ l, (f x).length ≤ b) → (l.flatMap f).length ≤ l.length * b
  | [], _ => by simp
  | x :: l, h => by
    have h1 := h x (.head _)
    have h2 := flat_len' f b l fun y hy => h y (.tail _ hy)
    rw [List.flatMap_cons, List.length_append, List.length_cons, Nat.add_mul]; omega
theorem allC_len (lin col : List (List Nat)) (i j : Nat) : (allC lin col i j).length ≤ i * col.length + col.length := by
  unfold allC
  rw [List.length_append, List.length_map, List.length_take]
  have := flat_len' (fun l => col.map (cellsOf l)) col.length (lin.take i) fun x _ => by rw [List.length_map]; exact Nat.le_refl _
  rw [List.length_take] at this
  have h2 : min i lin.length * col.length ≤ i * col.length := Nat.mul_le_mul_right _ (Nat.min_le_left _ _)
  omega
theorem cells_len (l c : List Nat) : (cellsOf l c).length ≤ l.length * c.length := flat_len' _ _ l fun x _ => by rw [List.length_map]; exact Nat.le_refl _
theorem lastN_lt {l c : List Nat} (hl : l ≠ []) (hc : c ≠ []) (h4 : ∀ p ∈ l, p < 4) (h3 : ∀ q ∈ c, q < 3) : cellsOf l c ≠ [] ∧ (∀ x ∈ cellsOf l c, x < 12) ∧ lastN (cellsOf l c) < 12 := by
  have h1 : ∀ x ∈ cellsOf l c, x < 12 := fun x hx => by
    obtain ⟨p, hp, h⟩ := List.mem_flatMap.mp hx
    obtain ⟨q, hq, rfl⟩ := List.mem_map.mp h
    have := h4 p hp; have := h3 q hq; omega
  have hne : cellsOf l c ≠ [] := by
    obtain ⟨p, hp⟩ := List.exists_mem_of_ne_nil _ hl
    obtain ⟨q, hq⟩ := List.exists_mem_of_ne_nil _ hc
    exact List.ne_nil_of_mem (List.mem_flatMap.mpr ⟨p, hp, List.mem_map.mpr ⟨q, hq, rfl⟩⟩)
  refine ⟨hne, h1, ?_⟩
  unfold lastN
  rw [List.getLast?_eq_some_getLast hne]
  exact h1 _ (List.getLast_mem hne)
theorem put_mid {β : Type} {f f' : Nat → β} {N lv : Nat} {l1 l2 : List β} {x x' : β} (h : l1 ++ x :: l2 = (List.range N).map f) (hl : l1.length = lv) (h1 : f' lv = x') (h2 : ∀ k, k ≠ lv → f' k = f k) : l1 ++ x' :: l2 = (List.range N).map f' := by
  have e : l1 ++ x' :: l2 = (l1 ++ x :: l2).set lv x' := by rw [← hl]; simp
  rw [e, h]
  apply List.ext_getElem
  · simp
  · intro j q1 q2
    rw [List.getElem_set]
    by_cases hj : lv = j
    · rw [if_pos hj]; subst hj; simp [h1]
    · rw [if_neg hj]; simp [h2 j (Ne.symm hj)]
def EOK (es : List (Addr × NL)) (cs : List (List Nat)) : Prop := es.map (fun e => cont e.2) = (List.range 12).map fun c => (optOf cs c).map zs
theorem nl_get {rl : NL} {lin : List (List Nat)} (el : cont rl = lin.map zs) {i : Nat} (hi : i < rl.length) : rl.length = lin.length ∧ rl[i].2 = zs (lin.getD i []) := by
  have h1 := congrArg List.length el
  simp only [cont, List.length_map] at h1
  refine ⟨h1, ?_⟩
  have h2 := congrArg (fun l => l[i]?) el
  simp only [cont, List.getElem?_map] at h2
  rw [List.getElem?_eq_getElem hi, List.getElem?_eq_getElem (show i < lin.length by omega)] at h2
  rw [List.getD_eq_getElem?_getD, List.getElem?_eq_getElem (show i < lin.length by omega)]
  exact Option.some.inj h2
theorem lt_ext : ∀ {a b : List Int}, a.Pairwise (· < ·) → b.Pairwise (· < ·) → (∀ x, x ∈ a ↔ x ∈ b) → a = b
  | [], [], _, _, _ => rfl
  | [], y :: b, _, _, h => absurd ((h y).mpr (.head _)) (by simp)
  | x :: a, [], _, _, h => absurd ((h x).mp (.head _)) (by simp)
  | x :: a, y :: b, ha, hb, h => by
    obtain ⟨ha1, ha2⟩ := List.pairwise_cons.mp ha
    obtain ⟨hb1, hb2⟩ := List.pairwise_cons.mp hb
    have hxy : x = y := by
      rcases List.mem_cons.mp ((h x).mp (.head _)) with e | e
      · exact e
      · rcases List.mem_cons.mp ((h y).mpr (.head _)) with e' | e'
        · exact e'.symm
        · have := hb1 x e; have := ha1 y e'; omega
    subst hxy
    congr 1
    refine lt_ext ha2 hb2 fun z => ?_
    constructor
    · intro hz
      rcases List.mem_cons.mp ((h z).mp (.tail _ hz)) with e | e
      · have := ha1 z hz; omega
      · exact e
    · intro hz
      rcases List.mem_cons.mp ((h z).mpr (.tail _ hz)) with e | e
      · have := hb1 z hz; omega
      · exact e
def low12 (ns : List Nat) : List Nat := (List.range 12).filter fun n => decide (n ∈ ns)
theorem low12_mem {ns : List Nat} (hns : ∀ n ∈ ns, n < 12) (n : Nat) : n ∈ low12 ns ↔ n ∈ ns := by
  unfold low12
  rw [List.mem_filter, List.mem_range, decide_eq_true_eq]
  exact ⟨fun h => h.2, fun h => ⟨hns n h, h⟩⟩
theorem low12_len (ns : List Nat) : (low12 ns).length ≤ 12 := Nat.le_trans (List.length_filter_le _ _) (by simp)
theorem low12_sorted (ns : List Nat) : (zs (low12 ns)).Pairwise (· < ·) := by
  refine List.pairwise_map.mpr ((List.pairwise_lt_range.filter _).imp fun {a b} h => ?_)
  show (a : Int) < b
  omega
theorem sorted_low {ns : List Nat} (hns : ∀ n ∈ ns, n < 12) {ks xs : List Int} (hp : xs.Perm ks) (hs : xs.Pairwise (· ≤ ·)) (hn : ks.Nodup) (hm : ∀ x, x ∈ ks ↔ x ∈ zs ns) : xs = zs (low12 ns) := by
  refine lt_ext (asc_of hs (hp.nodup_iff.mpr hn)) (low12_sorted ns) fun x => ?_
  rw [hp.mem_iff, hm]
  simp only [zs, List.mem_map]
  exact ⟨fun ⟨n, h, e⟩ => ⟨n, (low12_mem hns n).mpr h, e⟩, fun ⟨n, h, e⟩ => ⟨n, (low12_mem hns n).mp h, e⟩⟩
def predsF (cs : List (List Nat)) (c : Nat) : List Nat := low12 (optOf cs c).flatten
def cellT (bg j : Nat) : Nat := (bg + 5 * j) % 12
def toldF (cs : List (List Nat)) (bg : Nat) : List (Int × List Int) := (List.range 12).map fun j => (((cellT bg j : Nat) : Int), zs (predsF cs (cellT bg j)))
theorem toldF_small (cs : List (List Nat)) (bg j : Nat) : (((toldF cs bg).take j).map fun a => a.2.length + 1).sum ≤ 156 ∧ (((toldF cs bg).take j).map fun a => a.2.length).sum ≤ 144 := by
  have h1 : ∀ l : List (Int × List Int), (∀ a ∈ l, a.2.length ≤ 12) → (l.map fun a => a.2.length + 1).sum ≤ 13 * l.length ∧ (l.map fun a => a.2.length).sum ≤ 12 * l.length := by
    intro l
    induction l with
    | nil => simp
    | cons a l ih =>
      intro h
      have := ih fun a ha => h a (.tail _ ha)
      have := h a (.head _)
      simp only [List.map_cons, List.sum_cons, List.length_cons]; omega
  have := h1 ((toldF cs bg).take j) fun a ha => by
    obtain ⟨i, _, rfl⟩ := List.mem_map.mp (List.mem_of_mem_take ha)
    show (zs _).length ≤ 12
    rw [List.length_map]; exact low12_len _
  have h3 : ((toldF cs bg).take j).length ≤ 12 := by rw [List.length_take]; simp [toldF]; omega
  omega
theorem allC_small {lin col : List (List Nat)} (h4 : ∀ l ∈ lin, l ≠ [] ∧ l.length ≤ 4 ∧ ∀ p ∈ l, p < 4) (h3 : ∀ c ∈ col, c ≠ [] ∧ c.length ≤ 3 ∧ ∀ q ∈ c, q < 3) : ∀ x ∈ allC lin col lin.length 0, x.length ≤ 12 ∧ ∀ y ∈ x, y < 12 := by
  intro x hx
  unfold allC at hx
  rw [List.take_zero, List.map_nil, List.append_nil, List.take_length] at hx
  obtain ⟨l, hl, h⟩ := List.mem_flatMap.mp hx
  obtain ⟨c, hc, rfl⟩ := List.mem_map.mp h
  have a := h4 l hl
  have b := h3 c hc
  refine ⟨?_, (lastN_lt a.1 b.1 a.2.2 b.2.2).2.1⟩
  have := cells_len l c
  have h2 : l.length * c.length ≤ 4 * 3 := Nat.mul_le_mul a.2.1 b.2.1
  omega
theorem optOf_small {cs : List (List Nat)} (h : ∀ x ∈ cs, x.length ≤ 12 ∧ ∀ y ∈ x, y < 12) (c : Nat) : ∀ o ∈ optOf cs c, o.length ≤ 12 ∧ ∀ y ∈ o, y < 12 := by
  intro o ho
  unfold optOf at ho
  obtain ⟨x, hx, rfl⟩ := List.mem_map.mp ho
  have := h x (List.mem_filter.mp hx).1
  refine ⟨by rw [List.length_dropLast]; omega, fun y hy => this.2 y ((List.dropLast_sublist x).mem hy)⟩
theorem flatten_len {l : List (List Nat)} {b : Nat} (h : ∀ x ∈ l, x.length ≤ b) : l.flatten.length ≤ l.length * b := by
  have := flat_len' id b l h
  rwa [List.flatMap_id] at this
theorem EOK.get {es : List (Addr × NL)} {cs : List (List Nat)} (h : EOK es cs) {c : Nat} (hc : c < 12) : ∃ e ∈ es, (refs2 es)[c]? = some (.ref e.1) ∧ cont e.2 = (optOf cs c).map zs := by
  have hl : es.length = 12 := by have := congrArg List.length h; simpa using this
  refine ⟨es[c], List.getElem_mem (by omega), by unfold refs2; rw [List.getElem?_map, List.getElem?_eq_getElem (by omega)]; rfl, ?_⟩
  have h5 := congrArg (fun l => l[c]?) h
  simp only [List.getElem?_map] at h5
  rw [List.getElem?_eq_getElem (by omega), List.getElem?_range hc] at h5
  exact Option.some.inj h5
theorem suc_row {g : AG} {q : Int × Int × List Int} (nd : (ksOf g).Nodup) (hq : q ∈ g) : sucOf g q.1 = q.2.2 := by
  induction g with
  | nil => cases hq
  | cons r g ih =>
    have nd' := List.nodup_cons.mp nd
    unfold sucOf at ih ⊢
    rw [List.find?_cons]
    rcases List.mem_cons.mp hq with rfl | hq
    · simp
    · have : (r.1 == q.1) = false := beq_eq_false_iff_ne.mpr fun e => nd'.1 (show r.1 ∈ ksOf g from e.symm ▸ List.mem_map_of_mem (f := (·.1)) hq)
      rw [this]
      exact ih nd'.2 hq
theorem suc_len {g : AG} {b : Nat} (h : ∀ q ∈ g, q.2.2.length ≤ b) (n : Int) : (sucOf g n).length ≤ b := by
  unfold sucOf
  cases hq : g.find? (fun r => r.1 == n) with
  | none => exact Nat.zero_le _
  | some r => exact h r (List.mem_of_find?_eq_some hq)
theorem Lev.down {G : AG} {lv : Int → Nat} (h : Lev G lv) : ∀ (d j : Nat) (n : Int), n ∈ ksOf G → lv n = j + d → ∃ n' ∈ ksOf G, lv n' = j
  | 0, j, n, h1, h2 => ⟨n, h1, h2⟩
  | d + 1, j, n, h1, h2 => by
    rcases h.st n h1 with q | ⟨p, p1, p2, p3⟩
    · omega
    · exact h.down d j p p1 (by omega)
theorem xorL_lt {l : List Nat} (h : ∀ x ∈ l, x < 16) : xorL l < 16 := by
  have : ∀ (l : List Nat) (a : Nat), a < 16 → (∀ x ∈ l, x < 16) → l.foldl (· ^^^ ·) a < 16 := by
    intro l
    induction l with
    | nil => intro a ha _; exact ha
    | cons x l ih => intro a ha hx; exact ih _ (xor16 ha (hx x (.head _))) fun y hy => hx y (.tail _ hy)
  exact this l 0 (by decide) h
structure DW (f : Nat → Nat) (D : Int → Prop) (kw : List (Int × Value)) : Prop where
  nd : (kw.map (·.1)).Nodup
  v : ∀ p ∈ kw, ∃ c : Nat, c < 12 ∧ p = ((c : Int), I (f c : Nat))
  k : ∀ n, n ∈ kw.map (·.1) ↔ D n
theorem dget_at {f : Nat → Nat} {c : Nat} : ∀ {kw : List (Int × Value)}, (∀ p ∈ kw, ∃ c : Nat, c < 12 ∧ p = ((c : Int), I (f c : Nat))) → (c : Int) ∈ kw.map (·.1) → dget kw (c : Int) = some (I (f c : Nat))
  | [], _, h => by cases h
  | p :: r, hv, h => by
    obtain ⟨e, he, rfl⟩ := hv p (.head _)
    unfold dget
    by_cases hq : ((e : Int) = c)
    · have : e = c := by omega
      subst this; simp
    · have ih := dget_at (c := c) (kw := r) (fun p hp => hv p (.tail _ hp)) (by
        rcases List.mem_cons.mp h with q | q
        · exact absurd q.symm hq
        · exact q)
      unfold dget at ih
      simpa [hq] using ih
theorem DW.get {f : Nat → Nat} {D : Int → Prop} {kw : List (Int × Value)} (h : DW f D kw) {c : Nat} (hc : D (c : Int)) : dget kw (c : Int) = some (I (f c : Nat)) := dget_at h.v ((h.k _).mpr hc)
theorem DW.congr {f : Nat → Nat} {D D' : Int → Prop} {kw : List (Int × Value)} (h : DW f D kw) (e : ∀ n, D n ↔ D' n) : DW f D' kw := ⟨h.nd, h.v, fun n => (h.k n).trans (e n)⟩
theorem DW.put {f : Nat → Nat} {D : Int → Prop} {kw : List (Int × Value)} (h : DW f D kw) {c : Nat} (hc : c < 12) (hn : ¬ D (c : Int)) : DW f (fun n => D n ∨ n = (c : Int)) (dput kw (c : Int) (I (f c : Nat))) := by
  have hk : ∀ p ∈ kw, p.1 ≠ (c : Int) := fun p hp e => hn ((h.k _).mp (e ▸ List.mem_map_of_mem (f := (·.1)) hp))
  rw [dput_new hk]
  refine ⟨?_, fun p hp => ?_, fun n => ?_⟩
  · rw [List.map_append, List.nodup_append]
    refine ⟨h.nd, by simp, fun a ha b hb e => ?_⟩
    simp only [List.map_cons, List.map_nil, List.mem_singleton] at hb
    obtain ⟨p, hp, rfl⟩ := List.mem_map.mp ha
    exact hk p hp (e.trans hb)
  · rcases List.mem_append.mp hp with q | q
    · exact h.v p q
    · exact ⟨c, hc, List.mem_singleton.mp q⟩
  · rw [List.map_append, List.mem_append, h.k n]
    simp
theorem DW.len {f : Nat → Nat} {D : Int → Prop} {kw : List (Int × Value)} (h : DW f D kw) : kw.length ≤ 12 := by
  have := nodup_len (a := kw.map (·.1)) (b := zs (List.range 12)) h.nd fun x hx => by
    obtain ⟨p, hp, rfl⟩ := List.mem_map.mp hx
    obtain ⟨c, hc, rfl⟩ := h.v p hp
    exact List.mem_map.mpr ⟨c, List.mem_range.mpr hc, rfl⟩
  simpa using this
theorem DW.full {f : Nat → Nat} {D : Int → Prop} {kw : List (Int × Value)} (h : DW f D kw) (hD : ∀ c : Nat, c < 12 → D (c : Int)) : kw.length = 12 := by
  have h1 := h.len
  have h2 := nodup_len (a := zs (List.range 12)) (b := kw.map (·.1)) (by decide) fun x hx => by
    obtain ⟨c, hc, rfl⟩ := List.mem_map.mp hx
    exact (h.k _).mpr (hD c (List.mem_range.mp hc))
  simp at h2
  omega
theorem cellT_all (bg c : Nat) (hc : c < 12) : ∃ j, j < 12 ∧ cellT bg j = c := ⟨(5 * (c + 11 * bg)) % 12, Nat.mod_lt _ (by decide), by unfold cellT; omega⟩
theorem toldF_mem (cs : List (List Nat)) (bg : Nat) (n : Int) : (∃ a ∈ toldF cs bg, a.1 = n) ↔ ∃ c : Nat, c < 12 ∧ n = (c : Int) := by
  constructor
  · rintro ⟨a, ha, rfl⟩
    obtain ⟨j, _, rfl⟩ := List.mem_map.mp ha
    exact ⟨cellT bg j, Nat.mod_lt _ (by decide), rfl⟩
  · rintro ⟨c, hc, rfl⟩
    obtain ⟨j, hj, e⟩ := cellT_all bg c hc
    exact ⟨_, List.mem_map.mpr ⟨j, List.mem_range.mpr hj, rfl⟩, by rw [e]⟩
theorem toldF_row (cs : List (List Nat)) (bg : Nat) {c : Nat} (hc : c < 12) : ((c : Int), zs (predsF cs c)) ∈ toldF cs bg := by
  obtain ⟨j, hj, e⟩ := cellT_all bg c hc
  exact List.mem_map.mpr ⟨j, List.mem_range.mpr hj, by rw [e]⟩
theorem take_getL {α : Type} {l : List α} {i : Nat} {x : α} (h : i < l.length) : l.take (i + 1) = l.take i ++ [l.getD i x] := by rw [List.take_add_one]; simp [List.getD, h]
section
variable {prog : Program} {w : World} {A : Around} {s₀ s : Shared} {L : Addr} {m : List (Str × Value)} {P R : Led} {d : Nat} {E : Value → Shared → Prop}
theorem field_spec {la ca : Addr} {rl rc : NL} {lin col : List (List Nat)} {bg : Nat} {t0 : Tok} {fs : List Env} {t1 t2 : Option (Addr × Obj)} {Q : Value → Shared → Prop} (GMm : GM (K w) s₀.heap) (C1 : CodeHd s₀.heap 195 191) (C2 : CodeHd s₀.heap 202 198) (k : OK A (d + 7)) (FF : Frames A L m (tabLed 191 posT t1 ++ (tabLed 198 posF t2 ++ P)) fs) (S : Sim w s₀ L m (tabLed 191 posT t1 ++ (tabLed 198 posF t2 ++ P)) s)
    (hla : (la, .list (refs rl)) ∈ P) (hrl : ∀ r ∈ rl, (r.1, MO.list (r.2.map I)) ∈ P) (hca : (ca, .list (refs rc)) ∈ P) (hrc : ∀ r ∈ rc, (r.1, MO.list (r.2.map I)) ∈ P) (el : cont rl = lin.map zs) (ec : cont rc = col.map zs)
    (ll : lin.length ≤ 15) (lc : col.length ≤ 7) (h4 : ∀ l ∈ lin, l ≠ [] ∧ l.length ≤ 4 ∧ ∀ p ∈ l, p < 4) (h3 : ∀ c ∈ col, c ≠ [] ∧ c.length ≤ 3 ∧ ∀ q ∈ c, q < 3)
    (ok1 : TabOK qT t1) (ok2 : TabOK qF t2) {lv : Int → Nat} {f : Nat → Nat} (hD : DOK (toldF (allC lin col lin.length 0) bg) lv) (hB : ∀ n, lv n < 100)
    (hf : ∀ c < 12, f c = mex ((optOf (allC lin col lin.length 0) c).map fun o => xorL (o.map f)) ∧ f c < 16)
    (h : ∀ D kw ep t1 t2 s', DW f (fun n => ∃ c : Nat, c < 12 ∧ n = (c : Int)) kw → Sim w s₀ L m ((D, .dict kw ep) :: (tabLed 191 posT t1 ++ (tabLed 198 posF t2 ++ P))) s' → Q (.ref D) s') :
    wpAny (model prog w) A (call (.ref 208) [.ref la, .ref ca, .int bg t0]) Q E s := by
  have G := GMm.G
  refine wpAny_noRaise (call_defCF [(Str.ofString "lines", .ref la), (Str.ofString "columns", .ref ca), (Str.ofString "begin", I bg)] (fun L' => [(L' + 1 + 1, .cell none), (L' + 1, .cell none)]) G k FF S rfl rfl rfl rfl rfl rfl (by rfl) (by decide) (by walk_at "vars") (fun L' => rfl) fun L' s A' S k hA => ?_)
  dsimp only [List.cons_append, List.nil_append] at S
  walk_at "go"
  refine range_iter (n := 12) S (by walk_at "mem") rfl rfl ?_
  clear S; intro it1 s S
  walk_at "go"
  revert a; intro oa S
  obtain ⟨R, hR⟩ : ∃ R : Led, R = (L' + 1 + 1, MO.cell none) :: (L, .frame m) :: (tabLed 191 posT t1 ++ (tabLed 198 posF t2 ++ P)) := ⟨_, rfl⟩
  replace S := S.to (Q := (it1, .riter (0 + 1 * (0 : Nat)) ((12 : Nat) - (0 : Nat)) 1) :: (oa, .list (refs2 [])) :: (nest2 [] ++ (L', .frame [(Str.ofString "lines", .ref la), (Str.ofString "columns", .ref ca), (Str.ofString "begin", I bg)]) :: (L' + 1, .cell none) :: R)) (by rw [hR]; walk_at "sub")
  refine comp_start rfl (comp_code (src_range k.h 0 1 12) (fun i m2 P' => ∃ es, P' = (oa, .list (refs2 es)) :: (nest2 es ++ (L', .frame [(Str.ofString "lines", .ref la), (Str.ofString "columns", .ref ca), (Str.ofString "begin", I bg)]) :: (L' + 1, .cell none) :: R) ∧ es.map (fun e => cont e.2) = (List.range i).map fun _ => []) S ⟨[], rfl, rfl⟩ ?hreq turn_list1 ?step ?done) (self_range S (by walk_at "mem"))
  case hreq => intros; trivial
  case step =>
    rintro i m2 P' hi ⟨es, rfl, hes⟩ J hJ
    clear S
    have hel : es.length = i := by have := congrArg List.length hes; simpa using this
    intro t s S
    change Sim w s₀ C _ _ _ at S
    dsimp only [List.nil_append, List.cons_append] at S
    walk_at "go"
    rw [if_pos rfl]
    walk_at "go"
    refine ⟨rfl, _, _, S.to (Q := (it1, .riter (0 + 1 * (i + 1 : Nat)) ((12 : Nat) - (i + 1 : Nat)) 1) :: (oa, .list (refs2 (es ++ [(a, [])]))) :: (nest2 (es ++ [(a, [])]) ++ (L', .frame [(Str.ofString "lines", .ref la), (Str.ofString "columns", .ref ca), (Str.ofString "begin", I bg)]) :: (L' + 1, .cell none) :: R)) ?_, hJ _ _ ⟨_, rfl, ?_⟩⟩
    · rw [nest2_app, nest2_one]
      simp only [refs2, List.map_append, List.map_cons, List.map_nil, List.append_assoc, List.cons_append, List.nil_append]
      change SubM _ (_ :: _ :: (_ ++ (a, MO.list []) :: _))
      walk_at "sub"
    · rw [List.map_append, hes, List.range_succ, List.map_append]; rfl
  case done =>
    clear S
    rintro m2 P' s ⟨es, rfl, hes⟩ S
    change Sim w s₀ C _ _ _ at S
    refine comp_use S (L := L') (m := [(Str.ofString "lines", .ref la), (Str.ofString "columns", .ref ca), (Str.ofString "begin", I bg)]) (P' := (oa, .list (refs2 es)) :: (nest2 es ++ (L' + 1, .cell none) :: R)) (by walk_at "sub") ?_
    clear S; intro s S
    have R1 : (la, MO.list (refs rl)) ∈ R := by rw [hR]; walk_at "mem"
    have R2 : ∀ r ∈ rl, (r.1, MO.list (r.2.map I)) ∈ R := fun r hr => by rw [hR]; have := hrl r hr; walk_at "mem"
    have R3 : (ca, MO.list (refs rc)) ∈ R := by rw [hR]; walk_at "mem"
    have R4 : ∀ r ∈ rc, (r.1, MO.list (r.2.map I)) ∈ R := fun r hr => by rw [hR]; have := hrc r hr; walk_at "mem"
    have hes0 : EOK es (allC lin col 0 0) := by
      unfold EOK allC; rw [hes]; rfl
    walk_at "go"
    revert it; intro it0 S
    refine for_code (src_list k.h (a := la) (xs := refs rl) .none) (fun i m' P' => ∃ es v, m' = [(Str.ofString "options", .ref oa), (Str.ofString "lines", .ref la), (Str.ofString "columns", .ref ca), (Str.ofString "begin", I bg)] ∧ P' = (oa, .list (refs2 es)) :: (nest2 es ++ (L' + 1, .cell v) :: R) ∧ EOK es (allC lin col i 0)) S ⟨es, none, rfl, rfl, hes0⟩ ?_ ?_ ?_
    · rintro i m' P' ⟨es, v, rfl, rfl, _⟩; walk_at "mem"
    · clear S hes hes0 es
      rintro i m' P' hi ⟨es, v, rfl, rfl, hes⟩ J hJ QJ hQ
      have hi' : i < rl.length := by simpa [refs] using hi
      have hrm : rl[i] ∈ rl := List.getElem_mem hi'
      obtain ⟨e1, e2⟩ := nl_get el hi'
      have hyi : (refs rl).getD i .none = .ref rl[i].1 := by unfold refs; simp [List.getD, hi']
      show All ((refs rl).getD i .none) _
      rw [hyi]
      have hr2 := R2 _ hrm
      rw [e2] at hr2
      have hln := h4 (lin.getD i []) (by simp [List.getD, show i < lin.length by omega])
      generalize rl[i] = rr at *
      obtain ⟨lr, lx⟩ := rr
      dsimp only at hr2 ⊢
      show ∀ _, _
      intro s S
      change Sim w s₀ L' _ _ _ at S
      dsimp only [List.nil_append, List.cons_append] at S
      walk_at "go"
      revert it; intro it2 S
      refine for_code (src_list k.h (a := ca) (xs := refs rc) .none) (fun j m' P' => ∃ es v, m' = [(Str.ofString "line", .ref lr), (Str.ofString "options", .ref oa), (Str.ofString "lines", .ref la), (Str.ofString "columns", .ref ca), (Str.ofString "begin", I bg)] ∧ P' = (oa, .list (refs2 es)) :: (nest2 es ++ (it0, .liter la (i + 1)) :: (L' + 1, .cell v) :: R) ∧ EOK es (allC lin col i j)) ((S.vars (by walk_at "vars")).to (by walk_at "sub")) ⟨es, v, rfl, rfl, hes⟩ ?_ ?_ ?_
      · rintro i m' P' ⟨es, v, rfl, rfl, _⟩; walk_at "mem"
      · clear S hes es v
        rintro j m' P' hj ⟨es, v, rfl, rfl, hes⟩ J2 hJ2 QJ2 hQ2
        have hj' : j < rc.length := by simpa [refs] using hj
        have hrm2 : rc[j] ∈ rc := List.getElem_mem hj'
        obtain ⟨e3, e4⟩ := nl_get ec hj'
        have hyj : (refs rc).getD j .none = .ref rc[j].1 := by unfold refs; simp [List.getD, hj']
        show All ((refs rc).getD j .none) _
        rw [hyj]
        have hr4 := R4 _ hrm2
        rw [e4] at hr4
        have hcn := h3 (col.getD j []) (by simp [List.getD, show j < col.length by omega])
        have eA := allC_col (lin := lin) (i := i) (show j < col.length by omega)
        have hal := allC_len lin col i j
        have hal2 : i * col.length ≤ 15 * 7 := Nat.mul_le_mul (by omega) lc
        try dsimp only at hJ2
        rw [eA] at hJ2
        generalize rc[j] = rr at *
        obtain ⟨cr, cx⟩ := rr
        dsimp only at hr4 ⊢
        generalize allC lin col i j = cs at *
        generalize lin.getD i [] = l at *
        generalize col.getD j [] = c at *
        show ∀ _, _
        intro s S
        change Sim w s₀ L' _ _ _ at S
        dsimp only [List.nil_append, List.cons_append] at S
        walk_at "go"
        obtain ⟨R5, hR5⟩ : ∃ R5 : Led, R5 = (L', MO.frame [(Str.ofString "line", .ref lr), (Str.ofString "options", .ref oa), (Str.ofString "lines", .ref la), (Str.ofString "columns", .ref ca), (Str.ofString "begin", I bg)]) :: (it2, .liter ca (j + 1)) :: (oa, .list (refs2 es)) :: (nest2 es ++ (it0, .liter la (i + 1)) :: (L' + 1, .cell (some (.ref cr))) :: R) := ⟨_, rfl⟩
        have Q1 : (lr, MO.list ((zs l).map I)) ∈ R5 := by rw [hR5]; walk_at "mem"
        have Q2 : (cr, MO.list ((zs c).map I)) ∈ R5 := by rw [hR5]; walk_at "mem"
        have Q3 : (L' + 1, MO.cell (some (.ref cr))) ∈ R5 := by rw [hR5]; walk_at "mem"
        revert it a; intro it3 xa S
        replace S := S.to (Q := (it3, .liter lr 0) :: (xa, .list ((zs (cellsOf [] c)).map I)) :: R5) (by rw [hR5]; walk_at "sub")
        refine comp_start rfl (comp_code (src_list k.h (a := lr) (xs := (zs l).map I) .none) (fun p m2 P' => P' = (xa, .list ((zs (cellsOf (l.take p) c)).map I)) :: R5) S rfl ?hreq2 turn_list2a ?step2 ?done2) (self_list S (by walk_at "mem"))
        case hreq2 => rintro p m2 P' rfl; walk_at "mem"
        case step2 =>
          rintro p m2 P' hp rfl J hJ
          clear S
          simp only [List.length_map] at hp
          show All (((zs l).map I).getD p .none) _
          rw [zs_getD hp]
          have e6 : cellsOf (l.take (p + 1)) c = cellsOf (l.take p) c ++ c.map fun q => 3 * l.getD p 0 + q := by
            rw [take_getD hp]; unfold cellsOf; rw [List.flatMap_append]; simp
          have hpl := cells_len (l.take p) c
          have hpl2 : (l.take p).length * c.length ≤ 4 * 3 := Nat.mul_le_mul (by rw [List.length_take]; omega) hcn.2.1
          try dsimp only at hJ
          rw [e6] at hJ
          generalize cellsOf (l.take p) c = pre at *
          generalize l.getD p 0 = pv at *
          intro t s S
          change Sim w s₀ C _ _ _ at S
          dsimp only [List.nil_append, List.cons_append] at S
          walk_at "go"
          rw [if_pos rfl]
          refine clause2 ?_
          walk_at "go"
          revert it; intro it4 S
          replace S := (S.vars (m' := [(Str.ofString "place", I pv)]) (by walk_at "vars")).to (Q := (it4, .liter cr 0) :: (xa, .list ((zs (pre ++ (c.take 0).map fun q => 3 * pv + q)).map I)) :: (it3, .liter lr (p + 1)) :: R5) (by rw [List.take_zero, List.map_nil, List.append_nil]; walk_at "sub")
          refine comp_start rfl (comp_code (src_list k.h (a := cr) (xs := (zs c).map I) .none) (fun q m3 P' => m3 = [(Str.ofString "place", I pv)] ∧ P' = (xa, .list ((zs (pre ++ (c.take q).map fun q => 3 * pv + q)).map I)) :: (it3, .liter lr (p + 1)) :: R5) S ⟨rfl, rfl⟩ ?hreq4 turn_list2b ?step4 ?done4) (self_list S (by walk_at "mem"))
          case hreq4 => rintro q m3 P' ⟨rfl, rfl⟩; walk_at "mem"
          case step4 =>
            rintro q m3 P' hq ⟨rfl, rfl⟩ J3 hJ3
            clear S
            simp only [List.length_map] at hq
            show All (((zs c).map I).getD q .none) _
            rw [zs_getD hq]
            try dsimp only at hJ3
            rw [take_getD hq, List.map_append, ← List.append_assoc] at hJ3
            have hql : (pre ++ (c.take q).map fun q => 3 * pv + q).length ≤ 100 := by rw [List.length_append, List.length_map, List.length_take]; omega
            generalize (pre ++ (c.take q).map fun q => 3 * pv + q) = pre2 at *
            generalize c.getD q 0 = qv at *
            intro t s S
            change Sim w s₀ C _ _ _ at S
            dsimp only [List.nil_append, List.cons_append] at S
            walk_at "go"
            rw [if_pos rfl]
            walk_at "go"
            refine o_mul S (.of_left (by decide)) ?_
            clear S; intro t s S
            walk_at "go"
            refine ⟨rfl, [(Str.ofString "place", I pv)], _, (S.vars (by walk_at "vars")).to (Q := (it4, .liter cr (q + 1)) :: (xa, .list ((zs (pre2 ++ [3 * pv + qv])).map I)) :: (it3, .liter lr (p + 1)) :: R5) ?_, hJ3 _ _ ⟨rfl, rfl⟩⟩
            rw [show (zs (pre2 ++ [3 * pv + qv])).map I = (zs pre2).map I ++ [I (3 * (pv : Int) + (qv : Int))] by simp [zs]]; walk_at "sub"
          case done4 =>
            clear S
            rintro m3 P' s ⟨rfl, rfl⟩ S
            change Sim w s₀ C _ _ _ at S
            simp only [List.length_map, List.take_length] at S
            exact ⟨rfl, _, _, S.to (Q := (it3, .liter lr (p + 1)) :: (xa, .list ((zs (pre ++ c.map fun q => 3 * pv + q)).map I)) :: R5) (by walk_at "sub"), hJ _ _ rfl⟩
        case done2 =>
          clear S
          rintro m2 P' s rfl S
          change Sim w s₀ C _ _ _ at S
          simp only [List.length_map, List.take_length] at S
          refine comp_use S (L := L') (m := [(Str.ofString "line", .ref lr), (Str.ofString "options", .ref oa), (Str.ofString "lines", .ref la), (Str.ofString "columns", .ref ca), (Str.ofString "begin", I bg)]) (P' := (xa, .list ((zs (cellsOf l c)).map I)) :: (it2, .liter ca (j + 1)) :: (oa, .list (refs2 es)) :: (nest2 es ++ (it0, .liter la (i + 1)) :: (L' + 1, .cell (some (.ref cr))) :: R)) (by rw [hR5]; walk_at "sub") ?_
          clear S Q1 Q2 Q3 hR5 R5; intro s S
          obtain ⟨x1, x2, x3⟩ := lastN_lt hln.1 hcn.1 hln.2.2 hcn.2.2
          have hxl := cells_len l c
          have hxl2 : l.length * c.length ≤ 4 * 3 := Nat.mul_le_mul hln.2.1 hcn.2.1
          generalize cellsOf l c = xc at *
          have hlast : xc.getLast? = some (lastN xc) := by
            unfold lastN; rw [List.getLast?_eq_some_getLast x1]; rfl
          walk_at "go"
          have hel : es.length = 12 := by have := congrArg List.length hes; simpa using this
          have hxz : ((zs xc).map I)[((zs xc).map I).length - 1]? = some (I (lastN xc : Nat)) := by
            rw [List.getLast?_eq_getElem?] at hlast
            simp only [zs, List.length_map, List.getElem?_map, hlast, Option.map_some]
          refine list_lastT S (by walk_at "mem") hxz ?_
          intro t
          obtain ⟨r1, ee, r2, he2, hl1⟩ := split_at (rs := es) (i := lastN xc) (by omega)
          have hee : cont ee.2 = (optOf cs (lastN xc)).map zs := by
            have h5 := congrArg (fun l => l[lastN xc]?) hes
            simp only [List.getElem?_map, he2] at h5
            rw [List.getElem?_append_right (by omega), hl1, Nat.sub_self, List.getElem?_range x3] at h5
            exact Option.some.inj h5
          have hen : ee.2.length ≤ 200 := by
            have h6 := congrArg List.length hee
            simp only [cont, List.length_map] at h6
            have := optOf_len cs (lastN xc)
            have hal3 : i * col.length + col.length ≤ 15 * 7 + 7 := by omega
            omega
          refine list_item S (by walk_at "mem") (by omega) (by omega) (x := .ref ee.1) (by rw [Int.toNat_natCast, he2]; unfold refs2; rw [List.map_append, List.getElem?_append_right (by simp [hl1])]; simp [hl1]) ?_
          dsimp only [All]
          replace S := S.to (Q := (xa, .list ((zs xc).map I)) :: (it2, .liter ca (j + 1)) :: (oa, .list (refs2 es)) :: (nest2 r1 ++ (ee.1, .list (refs ee.2)) :: (nest ee.2 ++ (nest2 r2 ++ (it0, .liter la (i + 1)) :: (L' + 1, .cell (some (.ref cr))) :: R)))) (by rw [he2, nest2_app, nest2_cons]; simp only [List.append_assoc, List.cons_append, List.nil_append]; walk_at "sub")
          walk_at "go"
          rw [pick_butLast, ← List.map_dropLast, ← List.map_dropLast] at S
          walk_at "go"
          refine ⟨[(Str.ofString "line", .ref lr), (Str.ofString "options", .ref oa), (Str.ofString "lines", .ref la), (Str.ofString "columns", .ref ca), (Str.ofString "begin", I bg)], _, (S.vars (by walk_at "vars")).to (Q := (it2, .liter ca (j + 1)) :: (oa, .list (refs2 (r1 ++ (ee.1, ee.2 ++ [(D, zs xc.dropLast)]) :: r2))) :: (nest2 (r1 ++ (ee.1, ee.2 ++ [(D, zs xc.dropLast)]) :: r2) ++ (it0, .liter la (i + 1)) :: (L' + 1, .cell (some (.ref cr))) :: R)) ?_, hJ2 _ _ ⟨_, _, rfl, rfl, ?_⟩⟩
          · rw [nest2_app, nest2_cons, refs_app, nest_app, nest_one]
            have eR : refs2 (r1 ++ (ee.1, ee.2 ++ [(D, zs xc.dropLast)]) :: r2) = refs2 es := by rw [he2]; unfold refs2; simp
            rw [eR]
            simp only [List.append_assoc, List.cons_append, List.nil_append]
            change SubM _ (_ :: _ :: (_ ++ (_, MO.list (refs ee.2 ++ [.ref D])) :: _))
            walk_at "sub"
          · unfold EOK at hes ⊢
            rw [he2] at hes
            simp only [List.map_append, List.map_cons] at hes ⊢
            have hfun : ∀ q, (optOf (cs ++ [xc]) q).map zs = (optOf cs q).map zs ++ if lastN xc = q then [zs xc.dropLast] else [] := fun q => by
              rw [optOf_add]
              by_cases h : lastN xc = q
              · rw [if_pos h, if_pos h, List.map_append]; rfl
              · rw [if_neg h, if_neg h, List.append_nil, List.append_nil]
            refine put_mid (f := fun q => (optOf cs q).map zs) (f' := fun q => (optOf (cs ++ [xc]) q).map zs) hes (by rw [List.length_map, hl1]) ?_ fun q hq => ?_
            · rw [hfun, if_pos rfl, ← hee]; rfl
            · show (optOf (cs ++ [xc]) q).map zs = _
              rw [hfun, if_neg (fun e => hq e.symm), List.append_nil]
      · clear S hes es v
        rintro m' P' s ⟨es, v, rfl, rfl, hes⟩ S
        change Sim w s₀ L' _ _ _ at S
        have e5 : (refs rc).length = col.length := by
          have := congrArg List.length ec
          simpa [refs] using this
        rw [e5, allC_row (by omega)] at hes
        walk_at "go"
        refine ⟨[(Str.ofString "options", .ref oa), (Str.ofString "lines", .ref la), (Str.ofString "columns", .ref ca), (Str.ofString "begin", I bg)], _, (S.vars (by walk_at "vars")).to (Q := (it0, .liter la (i + 1)) :: (oa, .list (refs2 es)) :: (nest2 es ++ (L' + 1, .cell v) :: R)) (by walk_at "sub"), hJ _ _ ⟨es, v, rfl, rfl, hes⟩⟩
    · clear S hes hes0 es
      rintro m' P' s ⟨es, v, rfl, rfl, hes⟩ S
      change Sim w s₀ L' _ _ _ at S
      have e5 : (refs rl).length = lin.length := by
        have := congrArg List.length el
        simpa [refs] using this
      rw [e5] at hes
      have hcl := allC_len lin col lin.length 0
      have hcl2 : lin.length * col.length ≤ 15 * 7 := Nat.mul_le_mul ll lc
      have hcm := allC_small h4 h3
      generalize allC lin col lin.length 0 = cs at *
      walk_at "go"
      refine new_ts (d := d + 3) G k S ?_
      clear S; intro x dx N s S
      walk_at "go"
      refine range_iter (n := 12) S (by walk_at "mem") rfl rfl ?_
      clear S; intro it4 s S
      obtain ⟨RO, hRO⟩ : ∃ RO : Led, RO = (oa, MO.list (refs2 es)) :: (nest2 es ++ (L' + 1, .cell v) :: R) := ⟨_, rfl⟩
      have O1 : (oa, MO.list (refs2 es)) ∈ RO := by rw [hRO]; walk_at "mem"
      have O2 : ∀ e ∈ es, (e.1, MO.list (refs e.2)) ∈ RO := by intro e he; rw [hRO]; have := nest2_mem he; walk_at "mem"
      have O3 : ∀ e ∈ es, ∀ r ∈ e.2, (r.1, MO.list (r.2.map I)) ∈ RO := by intro e he r hr; rw [hRO]; have := nest2_mem2 he hr; walk_at "mem"
      replace S := (S.vars (m' := [(Str.ofString "plan", .ref x), (Str.ofString "options", .ref oa), (Str.ofString "begin", I bg)]) (by walk_at "vars")).to (Q := (it4, .riter (0 + 1 * (0 : Nat)) ((12 : Nat) - (0 : Nat)) 1) :: (x, .inst 154 dx) :: (dx, tsA N .none 0 0) :: (N, .dict (kvs []) 0) :: (nodes [] ++ RO)) (by rw [hRO]; walk_at "sub")
      refine for_code (src_range k.h 0 1 12) (fun j m' P' => m' = [(Str.ofString "plan", .ref x), (Str.ofString "options", .ref oa), (Str.ofString "begin", I bg)] ∧ ∃ g ep, P' = (x, .inst 154 dx) :: (dx, tsA N .none 0 0) :: (N, .dict (kvs g) ep) :: (nodes g ++ RO) ∧ g.map ab = build ((toldF cs bg).take j) []) S ⟨rfl, [], 0, rfl, rfl⟩ ?_ ?_ ?_
      · intros; trivial
      · clear S
        rintro j m' P' hj ⟨rfl, g, ep, rfl, hgb⟩ J hJ QJ hQ
        have e1 : (toldF cs bg).take (j + 1) = (toldF cs bg).take j ++ [(((cellT bg j : Nat) : Int), zs (predsF cs (cellT bg j)))] := by
          unfold toldF; rw [List.take_add_one]; simp [hj]
        try dsimp only at hJ
        rw [e1] at hJ
        have hsm := toldF_small cs bg j
        have hbl := build_len ((toldF cs bg).take j) []
        have hbs := build_suc ((toldF cs bg).take j) [] 0 (by simp)
        rw [← hgb] at hbl hbs
        rw [List.length_map, List.length_nil] at hbl
        have hcell : ((bg : Int) + 5 * ((j : Nat) : Int)).fmod 12 = ((cellT bg j : Nat) : Int) := by
          unfold cellT
          rw [Int.fmod_eq_emod_of_nonneg _ (by decide)]; push_cast; rfl
        have hc12 : cellT bg j < 12 := Nat.mod_lt _ (by decide)
        intro t s S
        change Sim w s₀ L' _ _ _ at S
        dsimp only [List.nil_append, List.cons_append] at S
        rw [show (0 : Int) + 1 * (j : Int) = ((j : Nat) : Int) by omega]
        walk_at "go"
        refine o_mul S (.of_left (by decide)) ?_
        clear S; intro t s S
        walk_at "go"
        rw [hcell] at S
        generalize cellT bg j = c at *
        refine starCall ?_
        walk_at "go"
        refine bound_get bAdd G S (by walk_at "mem") (by walk_at "mem") rfl ?_
        clear S; intro q s S
        refine callWith_B2 (x := x) (bAdd (w := w)).k ?_
        walk_at "go"
        refine items_star ?_
        walk_at "go"
        obtain ⟨ee, he1, he2, he3⟩ := hes.get hc12
        refine list_item S (by walk_at "mem") (by omega) (by omega) (x := .ref ee.1) (by rw [Int.toNat_natCast]; exact he2) ?_
        dsimp only [All]
        have P1 := O2 ee he1
        have P2 := O3 ee he1
        have hos := optOf_small hcm c
        have hol := optOf_len cs c
        unfold predsF at hJ
        generalize optOf cs c = os at *
        obtain ⟨ea, en⟩ := ee
        dsimp only at he3 P1 P2 ⊢
        walk_at "go"
        obtain ⟨R5, hR5⟩ : ∃ R5 : Led, R5 = (L', MO.frame [(Str.ofString "cell", I (c : Nat)), (Str.ofString "turn", I (j : Nat)), (Str.ofString "plan", .ref x), (Str.ofString "options", .ref oa), (Str.ofString "begin", I bg)]) :: (q, MO.bnd 104 x) :: (it4, .riter (0 + 1 * (j + 1 : Nat)) ((12 : Nat) - (j + 1 : Nat)) 1) :: (x, .inst 154 dx) :: (dx, tsA N .none 0 0) :: (N, .dict (kvs g) ep) :: (nodes g ++ RO) := ⟨_, rfl⟩
        have P3 : (ea, MO.list (refs en)) ∈ R5 := by rw [hR5]; walk_at "mem"
        have P4 : ∀ r ∈ en, (r.1, MO.list (r.2.map I)) ∈ R5 := fun r hr => by rw [hR5]; have := P2 r hr; walk_at "mem"
        revert it a; intro it5 xa S
        replace S := S.to (Q := (it5, .liter ea 0) :: (xa, .list ((zs ((os.take 0).flatten)).map I)) :: R5) (by rw [hR5]; walk_at "sub")
        refine comp_start rfl (comp_code (src_list k.h (a := ea) (xs := refs en) .none) (fun p m2 P' => P' = (xa, .list ((zs ((os.take p).flatten)).map I)) :: R5) S rfl ?hreq2 turn_list2a ?step2 ?done2) (self_list S (by walk_at "mem"))
        case hreq2 => rintro p m2 P' rfl; walk_at "mem"
        case step2 =>
          rintro p m2 P' hp rfl J2 hJ2
          clear S
          have hp' : p < en.length := by simpa [refs] using hp
          have hrm : en[p] ∈ en := List.getElem_mem hp'
          obtain ⟨e3, e4⟩ := nl_get he3 hp'
          have hyj : (refs en).getD p .none = .ref en[p].1 := by unfold refs; simp [List.getD, hp']
          show All ((refs en).getD p .none) _
          rw [hyj]
          have hr4 := P4 _ hrm
          rw [e4] at hr4
          have hon := hos (os.getD p []) (by simp [List.getD, show p < os.length by omega])
          have e6 : (os.take (p + 1)).flatten = (os.take p).flatten ++ os.getD p [] := by
            rw [take_getL (x := []) (show p < os.length by omega), List.flatten_append]; simp
          have hfl := flatten_len (l := os.take p) (b := 12) fun x hx => (hos x (List.mem_of_mem_take hx)).1
          rw [List.length_take] at hfl
          try dsimp only at hJ2
          rw [e6] at hJ2
          generalize en[p] = rr at *
          obtain ⟨cr, cx⟩ := rr
          dsimp only at hr4 ⊢
          generalize (os.take p).flatten = pre at *
          generalize os.getD p [] = o at *
          show ∀ _, _
          intro s S
          change Sim w s₀ C _ _ _ at S
          dsimp only [List.nil_append, List.cons_append] at S
          walk_at "go"
          rw [if_pos rfl]
          refine clause2 ?_
          walk_at "go"
          revert it; intro it6 S
          replace S := S.to (Q := (it6, .liter cr 0) :: (xa, .list ((zs (pre ++ o.take 0)).map I)) :: (it5, .liter ea (p + 1)) :: R5) (by rw [List.take_zero, List.append_nil]; walk_at "sub")
          refine comp_start rfl (comp_code (src_list k.h (a := cr) (xs := (zs o).map I) .none) (fun q m3 P' => P' = (xa, .list ((zs (pre ++ o.take q)).map I)) :: (it5, .liter ea (p + 1)) :: R5) S rfl ?hreq4 turn_list2b ?step4 ?done4) (self_list S (by walk_at "mem"))
          case hreq4 => rintro q m3 P' rfl; walk_at "mem"
          case step4 =>
            rintro q m3 P' hq rfl J3 hJ3
            clear S
            simp only [List.length_map] at hq
            show All (((zs o).map I).getD q .none) _
            rw [zs_getD hq]
            try dsimp only at hJ3
            rw [take_getD hq, ← List.append_assoc] at hJ3
            have hql : (pre ++ o.take q).length ≤ 2000 := by rw [List.length_append, List.length_take]; omega
            generalize (pre ++ o.take q) = pre2 at *
            generalize o.getD q 0 = qv at *
            intro t s S
            change Sim w s₀ C _ _ _ at S
            dsimp only [List.nil_append, List.cons_append] at S
            walk_at "go"
            rw [if_pos rfl]
            walk_at "go"
            refine ⟨rfl, _, _, S.to (Q := (it6, .liter cr (q + 1)) :: (xa, .list ((zs (pre2 ++ [qv])).map I)) :: (it5, .liter ea (p + 1)) :: R5) ?_, hJ3 _ _ rfl⟩
            rw [show (zs (pre2 ++ [qv])).map I = (zs pre2).map I ++ [I (qv : Int)] by simp [zs]]; walk_at "sub"
          case done4 =>
            clear S
            rintro m3 P' s rfl S
            change Sim w s₀ C _ _ _ at S
            simp only [List.length_map, List.take_length] at S
            exact ⟨rfl, _, _, S.to (Q := (it5, .liter ea (p + 1)) :: (xa, .list ((zs (pre ++ o)).map I)) :: R5) (by walk_at "sub"), hJ2 _ _ rfl⟩
        case done2 =>
          clear S
          rintro m2 P' s rfl S
          change Sim w s₀ C _ _ _ at S
          have e7 : (refs en).length = os.length := by
            have := congrArg List.length he3
            simpa [refs] using this
          rw [e7, List.take_length] at S
          refine comp_end S (L := L') (m := [(Str.ofString "cell", I (c : Nat)), (Str.ofString "turn", I (j : Nat)), (Str.ofString "plan", .ref x), (Str.ofString "options", .ref oa), (Str.ofString "begin", I bg)]) (P' := (xa, .list ((zs os.flatten).map I)) :: (q, MO.bnd 104 x) :: (it4, .riter (0 + 1 * (j + 1 : Nat)) ((12 : Nat) - (j + 1 : Nat)) 1) :: (x, .inst 154 dx) :: (dx, tsA N .none 0 0) :: (N, .dict (kvs g) ep) :: (nodes g ++ RO)) (by rw [hR5]; walk_at "sub") ?_
          clear S P3 P4 hR5 R5; intro s S
          have hfl := flatten_len (l := os) (b := 12) fun x hx => (hos x hx).1
          have hf12 : ∀ n ∈ os.flatten, n < 12 := fun n hn => by
            obtain ⟨o, ho, hno⟩ := List.mem_flatten.mp hn
            exact (hos o ho).2 n hno
          walk_at "go"
          refine set_list k.h S (by walk_at "mem") (by rw [List.length_map]; show os.flatten.length + 1 < 4096; omega) ?_
          clear S; intro b ss sp t s hE hmem hsz S
          walk_at "go"
          have hes : ss.size ≤ 12 := by
            have h1 := nodup_len (a := ss.toList.map keyOf) (b := zs (List.range 12)) hE.nd fun x hx => by
              obtain ⟨n, hn, rfl⟩ := List.mem_map.mp ((hmem x).mp hx)
              exact List.mem_map.mpr ⟨n, List.mem_range.mpr (hf12 n hn), rfl⟩
            simpa using h1
          refine sorted_set k.h S (by walk_at "mem") hE (by omega) ?_
          clear S; intro fd xs s hp hs S
          have hxs := sorted_low hf12 hp hs hE.nd hmem
          subst hxs
          have hll := low12_len os.flatten
          generalize low12 os.flatten = pr at *
          refine star_list S (by walk_at "mem") (by rw [List.length_map, List.length_map, sizeLine_eq]; omega) fun vs s' hvs S' => ?_
          clear S; have S := S'; clear S'
          walk_at "go"
          refine ⟨S.methP G (by walk_at "mem"), ?_⟩
          refine call_bound (f := 104) (x := x) S (by walk_at "mem") ?_
          simp only [List.append_nil, List.nil_append, List.cons_append]
          replace S := S.to (Q := (x, .inst 154 dx) :: (dx, tsA N .none 0 0) :: (N, .dict (kvs g) ep) :: (nodes g ++ ((it4, .riter (0 + 1 * (j + 1 : Nat)) ((12 : Nat) - (j + 1 : Nat)) 1) :: RO))) (by walk_at "sub")
          refine add_code (d := d) G (k.le (by omega)) S (by rw [List.length_map]; omega) hbs (by rw [List.length_map]; omega) hvs fun g' ep' s' hg' S' => ?_
          clear S; have S := S'; clear S'
          dsimp only
          walk_at "go"
          refine ⟨_, _, (S.vars (m' := [(Str.ofString "plan", .ref x), (Str.ofString "options", .ref oa), (Str.ofString "begin", I bg)]) (by walk_at "vars")).to (Q := (it4, .riter (0 + 1 * (j + 1 : Nat)) ((12 : Nat) - (j + 1 : Nat)) 1) :: (x, .inst 154 dx) :: (dx, tsA N .none 0 0) :: (N, .dict (kvs g') ep') :: (nodes g' ++ RO)) (by walk_at "sub"), hJ _ _ ⟨rfl, g', ep', rfl, ?_⟩⟩
          rw [hg', hgb, build, build, List.foldl_append]; rfl
      · clear S
        rintro m' P' s ⟨rfl, g, ep, rfl, hgb⟩ S
        change Sim w s₀ L' _ _ _ at S
        have e9 : (toldF cs bg).take 12 = toldF cs bg := List.take_of_length_le (by simp [toldF])
        rw [e9] at hgb
        walk_at "go"
        have hlev := lev_of hD
        rw [← hgb] at hlev
        have hsm := toldF_small cs bg 12
        rw [e9] at hsm
        have hbl := build_len (toldF cs bg) []
        have hbs := build_suc (toldF cs bg) [] 0 (by simp)
        rw [← hgb] at hbl hbs
        rw [List.length_map, List.length_nil] at hbl
        have hnd := keys_nodup S (by walk_at "mem")
        have hks : ∀ q ∈ g, ∀ n ∈ q.suc, n ∈ (g.map ab).map (·.1) ∧ lv q.key < lv n := by
          intro q hq n hn
          have h1 : q.key ∈ ksOf (g.map ab) := by unfold ksOf; rw [List.map_map]; exact List.mem_map.mpr ⟨q, hq, rfl⟩
          obtain ⟨g1, g2, rfl, n1, n2⟩ := split_key hq hnd
          exact hlev.1.cl q.key h1 n (by rw [sucOf_at n1]; exact hn)
        have hmem : ∀ n, n ∈ ksOf (g.map ab) ↔ ∃ c : Nat, c < 12 ∧ n = (c : Int) := by
          intro n
          rw [hlev.2 n, toldF_mem]
        replace S := S.to (Q := (x, .inst 154 dx) :: (dx, tsA N .none 0 0) :: (N, .dict (kvs g) ep) :: (nodes g ++ RO)) (by walk_at "sub")
        refine prep_spec (d := d + 1) G (k.le (by omega)) (fs := _) (FF.call hA (by show ScopeKind.function ≠ ScopeKind.module; decide) rfl fun Le me hq => ?_) S (by omega) (fun n => 100 - lv n) 144 (fun q hq => ?_) (fun q hq n hn => ?_) fun ra s S' => ?_
        · rw [hRO, hR]; walk_at "mem"
        · have := hbs (ab q) (List.mem_map_of_mem hq); simpa using Nat.le_trans this (by omega)
        · have h1 := hks q hq n hn
          have h2 := hB n
          refine ⟨h1.1, ?_⟩
          show 100 - lv n < 100 - lv q.key
          omega
        clear S; have S := S'; clear S'
        obtain ⟨RP, hRP⟩ : ∃ RP : Led, RP = (oa, MO.list (refs2 es)) :: (nest2 es ++ (L' + 1, .cell v) :: (L, .frame m) :: P) := ⟨_, rfl⟩
        have O1 : (oa, MO.list (refs2 es)) ∈ RP := by rw [hRP]; walk_at "mem"
        have O2 : ∀ e ∈ es, (e.1, MO.list (refs e.2)) ∈ RP := by intro e he; rw [hRP]; have := nest2_mem he; walk_at "mem"
        have O3 : ∀ e ∈ es, ∀ r ∈ e.2, (r.1, MO.list (r.2.map I)) ∈ RP := by intro e he r hr; rw [hRP]; have := nest2_mem2 he hr; walk_at "mem"
        replace S := S.to (Q := (x, .inst 154 dx) :: (dx, tsA N (.ref ra) 0 0) :: (ra, .list ((free0 (g.map ab)).map I)) :: (N, .dict (kvs g) ep) :: (nodes g ++ ((L' + 1 + 1, MO.cell none) :: (tabLed 191 posT t1 ++ (tabLed 198 posF t2 ++ RP))))) (by rw [hRO, hR, hRP]; walk_at "sub")
        walk_at "go"
        replace S := (S.at (a := a) (by walk_at "rem")).raw_dict
        revert a; intro wd S
        refine while_code (fun n m' P' => m' = [(Str.ofString "plan", .ref x), (Str.ofString "options", .ref oa)] ∧ ∃ kk rd g2 po kw ew t1 t2, P' = (x, .inst 154 dx) :: (dx, tsA N (.ref ra) po po) :: (ra, .list (rd.map I)) :: (N, .dict (kvs g2) ep) :: (nodes g2 ++ ((wd, .dict kw ew) :: (tabLed 191 posT t1 ++ (tabLed 198 posF t2 ++ ((L' + 1 + 1, MO.cell (some (.ref wd))) :: RP))))) ∧
          At (g.map ab) lv kk (g2.map ab) rd ∧ DW f (fun n => n ∈ ksOf (g.map ab) ∧ lv n < kk) kw ∧ TabOK qT t1 ∧ TabOK qF t2 ∧ n + kk = 100) 100 ((S.vars (by walk_at "vars")).to (by walk_at "sub")) ⟨rfl, 0, _, g, 0, [], 0, t1, t2, rfl, At.start hlev.1, ⟨List.nodup_nil, (fun _ h => by cases h), (fun n => ⟨(fun h => by cases h), fun h => absurd h.2 (Nat.not_lt_zero _)⟩)⟩, ok1, ok2, rfl⟩ ?_
        clear S ok1 ok2
        rintro n m' P' s ⟨rfl, kk, rd, g2, po, kw, ew, t1, t2, rfl, hat, hdw, ok1, ok2, hnk⟩ J hJ QJ hQ S
        change Sim w s₀ L' _ _ _ at S
        have hrd12 : ∀ n ∈ rd, ∃ c : Nat, c < 12 ∧ n = (c : Int) := fun n hn => (hmem n).mp ((hat.mr n).mp hn).1
        have hrdl : rd.length ≤ 12 := by
          have := nodup_len (b := zs (List.range 12)) hat.nr (fun x hx => by
            obtain ⟨c, hc, rfl⟩ := hrd12 x hx
            exact List.mem_map.mpr ⟨c, List.mem_range.mpr hc, rfl⟩)
          simpa using this
        walk_at "go"
        refine act_spec (d := d) G (k.le (by omega)) S (by omega) ?_
        clear S; intro s S
        walk_at "go"
        rw [show decide (po < po) = false by simp, Bool.false_or]
        by_cases hrd : rd = []
        · rw [if_neg (by rw [hrd]; simp)]
          walk_at "go"
          refine hQ _ _ ?_
          walk_at "go"
          dsimp only [retv]
          refine h wd kw ew t1 t2 _ (hdw.congr fun n => ?_) (S.out (by rw [hRP]; walk_at "sub"))
          rw [hmem n]
          refine ⟨fun q => q.1, fun q => ⟨q, Nat.lt_of_not_le fun hle => ?_⟩⟩
          obtain ⟨n', h1, h2⟩ := hlev.1.down (lv n - kk) kk n ((hmem n).mpr q) (by omega)
          have := (hat.mr n').mpr ⟨h1, h2⟩
          rw [hrd] at this
          cases this
        · rw [if_pos (by cases rd with | nil => exact absurd rfl hrd | cons => rfl)]
          walk_at "go"
          have hkk : kk < 100 := by
            obtain ⟨n1, hn1⟩ := List.exists_mem_of_ne_nil _ hrd
            obtain ⟨q1, q2⟩ := (hat.mr n1).mp hn1
            have := hB n1
            omega
          refine ready_spec (d := d) G (k.le (by omega)) S (by omega) (fun n hn => by rw [show (g2.map ab).map (·.1) = ksOf (g2.map ab) from rfl, hat.ks]; exact ((hat.mr n).mp hn).1) fun g3 tp s' hg3 S' => ?_
          clear S; have S := S'; clear S'
          walk_at "go"
          obtain ⟨R7, hR7⟩ : ∃ R7 : Led, R7 = (tp, MO.tup (rd.map I)) :: (x, .inst 154 dx) :: (dx, tsA N (.ref ra) (po + rd.length) po) :: (ra, .list []) :: (N, .dict (kvs g3) ep) :: (nodes g3 ++ ((L' + 1 + 1, MO.cell (some (.ref wd))) :: RP)) := ⟨_, rfl⟩
          have U1 : (oa, MO.list (refs2 es)) ∈ R7 := by rw [hR7]; walk_at "mem"
          have U2 : ∀ e ∈ es, (e.1, MO.list (refs e.2)) ∈ R7 := by intro e he; rw [hR7]; have := O2 e he; walk_at "mem"
          have U3 : ∀ e ∈ es, ∀ r ∈ e.2, (r.1, MO.list (r.2.map I)) ∈ R7 := by intro e he r hr; rw [hR7]; have := O3 e he r hr; walk_at "mem"
          have U4 : (tp, MO.tup (rd.map I)) ∈ R7 := by rw [hR7]; walk_at "mem"
          have U5 : (L' + 1 + 1, MO.cell (some (.ref wd))) ∈ R7 := by rw [hR7]; walk_at "mem"
          revert it; intro it7 S
          refine for_code (src_tup k.h (a := tp) (xs := rd.map I) .none) (fun i m' P' => m' = [(Str.ofString "ready", .ref tp), (Str.ofString "plan", .ref x), (Str.ofString "options", .ref oa)] ∧ ∃ kw ew t1 t2, P' = (wd, .dict kw ew) :: (tabLed 191 posT t1 ++ (tabLed 198 posF t2 ++ (R7))) ∧ DW f (fun n => (n ∈ ksOf (g.map ab) ∧ lv n < kk) ∨ n ∈ rd.take i) kw ∧ TabOK qT t1 ∧ TabOK qF t2) (P := (wd, .dict kw ew) :: (tabLed 191 posT t1 ++ (tabLed 198 posF t2 ++ (R7)))) ((S.vars (by walk_at "vars")).to (by rw [hR7]; walk_at "sub")) ⟨rfl, kw, ew, t1, t2, rfl, hdw.congr (fun n => by simp), ok1, ok2⟩ ?_ ?_ ?_
          · rintro i m' P' ⟨rfl, kw, ew, t1, t2, rfl, _⟩; walk_at "mem"
          · clear S hdw ok1 ok2 kw ew t1 t2
            rintro i m' P' hi ⟨rfl, kw, ew, t1, t2, rfl, hdw, ok1, ok2⟩ J2 hJ2 QJ2 hQ2
            simp only [List.length_map] at hi
            have hgi : (rd.map I).getD i .none = I (rd.getD i 0) := by simp [List.getD, hi]
            show All ((rd.map I).getD i .none) _
            rw [hgi]
            have hdm : rd.getD i 0 ∈ rd := by simp [List.getD, hi]
            have hdn : rd.getD i 0 ∉ rd.take i := by
              intro q
              have hnd := hat.nr
              rw [← List.take_append_drop i rd, List.nodup_append] at hnd
              have : rd.getD i 0 ∈ rd.drop i := by
                rw [List.drop_eq_getElem_cons hi, List.getD_eq_getElem?_getD, List.getElem?_eq_getElem hi]; exact .head _
              exact hnd.2.2 _ q _ this rfl
            have e1 : rd.take (i + 1) = rd.take i ++ [rd.getD i 0] := by rw [List.take_add_one]; simp [List.getD, hi]
            try dsimp only at hJ2
            rw [e1] at hJ2
            obtain ⟨c, hc, hce⟩ := hrd12 _ hdm
            rw [hce] at hdm hdn hJ2 ⊢
            have hlvc := ((hat.mr _).mp hdm).2
            intro t s S
            change Sim w s₀ L' _ _ _ at S
            dsimp only [List.nil_append, List.cons_append] at S
            walk_at "go"
            obtain ⟨ee, he1, he2, he3⟩ := hes.get hc
            refine list_item S (by walk_at "mem") (by omega) (by omega) (x := .ref ee.1) (by rw [Int.toNat_natCast]; exact he2) ?_
            dsimp only [All]
            have P1 := U2 ee he1
            have P2 := U3 ee he1
            have hos := optOf_small hcm c
            have hol := optOf_len cs c
            obtain ⟨hfc, hf16⟩ := hf c hc
            have hget : ∀ o ∈ optOf cs c, ∀ y ∈ o, dget kw ((y : Nat) : Int) = some (I (f y : Nat)) ∧ f y < 16 := by
              intro o ho y hy
              have hy12 := (hos o ho).2 y hy
              have hyp : ((y : Nat) : Int) ∈ zs (predsF cs c) := List.mem_map.mpr ⟨y, (low12_mem (fun n hn => by
                obtain ⟨o', ho', hn'⟩ := List.mem_flatten.mp hn
                exact (hos o' ho').2 n hn') y).mpr (List.mem_flatten.mpr ⟨o, ho, hy⟩), rfl⟩
              obtain ⟨_, q2⟩ := hD.cl _ (toldF_row cs bg hc) _ hyp
              exact ⟨hdw.get (.inl ⟨(hmem _).mpr ⟨y, hy12, rfl⟩, by rw [← hlvc]; exact q2⟩), (hf y hy12).2⟩
            generalize optOf cs c = os at *
            obtain ⟨ea, en⟩ := ee
            dsimp only at he3 P1 P2 ⊢
            walk_at "go"
            revert it a; intro it8 xa S
            obtain ⟨R8, hR8⟩ : ∃ R8 : Led, R8 = (L', MO.frame [(Str.ofString "cell", I (c : Nat)), (Str.ofString "ready", .ref tp), (Str.ofString "plan", .ref x), (Str.ofString "options", .ref oa)]) :: (it7, .titer tp (i + 1)) :: (wd, .dict kw ew) :: (tabLed 198 posF t2 ++ R7) := ⟨_, rfl⟩
            have V1 : (ea, MO.list (refs en)) ∈ R8 := by rw [hR8]; walk_at "mem"
            have V2 : ∀ r ∈ en, (r.1, MO.list (r.2.map I)) ∈ R8 := fun r hr => by rw [hR8]; have := P2 r hr; walk_at "mem"
            have V3 : (L' + 1 + 1, MO.cell (some (.ref wd))) ∈ R8 := by rw [hR8]; walk_at "mem"
            have V4 : (wd, MO.dict kw ew) ∈ R8 := by rw [hR8]; walk_at "mem"
            replace S := S.to (Q := (it8, .liter ea 0) :: (xa, .list ((zs ((os.take 0).map fun o => xorL (o.map f))).map I)) :: (tabLed 191 posT t1 ++ R8)) (by rw [hR8]; walk_at "sub")
            refine comp_start rfl (comp_code (src_list k.h (a := ea) (xs := refs en) .none) (fun p m2 P' => ∃ t1, P' = (xa, .list ((zs ((os.take p).map fun o => xorL (o.map f))).map I)) :: (tabLed 191 posT t1 ++ R8) ∧ TabOK qT t1) S ⟨t1, rfl, ok1⟩ ?hreq2 turn_list1 ?step2 ?done2) (self_list S (by walk_at "mem"))
            case hreq2 => rintro p m2 P' ⟨t1, rfl, _⟩; walk_at "mem"
            case step2 =>
              clear S ok1 t1
              rintro p m2 P' hp ⟨t1, rfl, ok1⟩ J3 hJ3
              have hp' : p < en.length := by simpa [refs] using hp
              have hrm : en[p] ∈ en := List.getElem_mem hp'
              obtain ⟨e3, e4⟩ := nl_get he3 hp'
              have hyj : (refs en).getD p .none = .ref en[p].1 := by unfold refs; simp [List.getD, hp']
              show All ((refs en).getD p .none) _
              rw [hyj]
              have hr4 := V2 _ hrm
              rw [e4] at hr4
              have hom : os.getD p [] ∈ os := by simp [List.getD, show p < os.length by omega]
              have hon := hos _ hom
              have hgo := hget _ hom
              have e6 : (os.take (p + 1)).map (fun o => xorL (o.map f)) = (os.take p).map (fun o => xorL (o.map f)) ++ [xorL ((os.getD p []).map f)] := by
                rw [take_getL (x := []) (show p < os.length by omega), List.map_append]; rfl
              have hml : ((os.take p).map fun o => xorL (o.map f)).length ≤ 200 := by rw [List.length_map, List.length_take]; omega
              try dsimp only at hJ3
              rw [e6] at hJ3
              generalize en[p] = rr at *
              obtain ⟨cr, cx⟩ := rr
              dsimp only at hr4 ⊢
              generalize (os.take p).map (fun o => xorL (o.map f)) = pre at *
              generalize os.getD p [] = o at *
              show ∀ _, _
              intro s S
              change Sim w s₀ C _ _ _ at S
              dsimp only [List.nil_append, List.cons_append] at S
              walk_at "go"
              rw [if_pos rfl]
              walk_at "go"
              replace S := S.to (Q := tabLed 191 posT t1 ++ ((it8, .liter ea (p + 1)) :: (xa, .list ((zs pre).map I)) :: R8)) (by walk_at "sub")
              refine turned_spec (d := d) GMm C1 (k.le (by omega)) S (by walk_at "mem") (by walk_at "mem") (by omega) hgo ok1 ?_
              clear S; intro t1' t s ok1' S
              walk_at "go"
              refine ⟨rfl, _, _, S.to (Q := (it8, .liter ea (p + 1)) :: (xa, .list ((zs (pre ++ [xorL (o.map f)])).map I)) :: (tabLed 191 posT t1' ++ R8)) ?_, hJ3 _ _ ⟨t1', rfl, ok1'⟩⟩
              rw [show (zs (pre ++ [xorL (o.map f)])).map I = (zs pre).map I ++ [I (xorL (o.map f) : Nat)] by simp [zs]]; walk_at "sub"
            case done2 =>
              clear S ok1 t1
              rintro m2 P' s ⟨t1, rfl, ok1⟩ S
              change Sim w s₀ C _ _ _ at S
              have e7 : (refs en).length = os.length := by
                have := congrArg List.length he3
                simpa [refs] using this
              rw [e7, List.take_length] at S
              refine comp_end S (L := L') (m := [(Str.ofString "cell", I (c : Nat)), (Str.ofString "ready", .ref tp), (Str.ofString "plan", .ref x), (Str.ofString "options", .ref oa)]) (P' := (xa, .list ((zs (os.map fun o => xorL (o.map f))).map I)) :: (it7, .titer tp (i + 1)) :: (wd, .dict kw ew) :: (tabLed 191 posT t1 ++ (tabLed 198 posF t2 ++ R7))) (by rw [hR8]; walk_at "sub") ?_
              clear S V1 V2 V3 V4 hR8 R8; intro s S
              have hx16 : ∀ n ∈ os.map (fun o => xorL (o.map f)), n < 16 := fun n hn => by
                obtain ⟨o, ho, rfl⟩ := List.mem_map.mp hn
                exact xorL_lt fun y hy => by
                  obtain ⟨z, hz, rfl⟩ := List.mem_map.mp hy
                  exact (hget o ho z hz).2
              have hml : (os.map fun o => xorL (o.map f)).length ≤ 200 := by rw [List.length_map]; omega
              walk_at "go"
              replace S := S.to (Q := tabLed 198 posF t2 ++ ((xa, .list ((zs (os.map fun o => xorL (o.map f))).map I)) :: (it7, .titer tp (i + 1)) :: (wd, .dict kw ew) :: (tabLed 191 posT t1 ++ R7))) (by walk_at "sub")
              refine first_spec (d := d) GMm C2 (k.le (by omega)) S (by walk_at "mem") hx16 (by omega) ok2 ?_
              clear S; intro t2' t s ok2' S
              walk_at "go"
              rw [← hfc]
              have hkl := hdw.len
              refine dict_put S (by walk_at "rem") (by rw [sizeLine_eq]; omega) ?_
              clear S; intro ew' s S
              dsimp only [er] at S
              walk_at "go"
              refine ⟨[(Str.ofString "ready", .ref tp), (Str.ofString "plan", .ref x), (Str.ofString "options", .ref oa)], _, (S.vars (by walk_at "vars")).to (Q := (it7, .titer tp (i + 1)) :: (wd, .dict (dput kw (c : Int) (I (f c : Nat))) ew') :: (tabLed 191 posT t1 ++ (tabLed 198 posF t2' ++ R7))) (by walk_at "sub"), hJ2 _ _ ⟨rfl, _, ew', t1, t2', rfl, (hdw.put hc (fun q => ?_)).congr (fun n => ?_), ok1, ok2'⟩⟩
              · rcases q with q | q
                · have := q.2; omega
                · exact hdn q
              · rw [List.mem_append, List.mem_singleton, or_assoc]
          · clear S hdw ok1 ok2 kw ew t1 t2
            rintro m' P' s ⟨rfl, kw, ew, t1, t2, rfl, hdw, ok1, ok2⟩ S
            change Sim w s₀ L' _ _ _ at S
            simp only [List.length_map, List.take_length] at hdw
            walk_at "go"
            refine starCall ?_
            replace S := S.to (Q := (tp, .tup (rd.map I)) :: (x, .inst 154 dx) :: (dx, tsA N (.ref ra) (po + rd.length) po) :: (ra, .list ([].map I)) :: (N, .dict (kvs g3) ep) :: (nodes g3 ++ ((wd, .dict kw ew) :: (tabLed 191 posT t1 ++ (tabLed 198 posF t2 ++ ((L' + 1 + 1, MO.cell (some (.ref wd))) :: RP)))))) (by rw [hR7]; walk_at "sub")
            clear U1 U2 U3 U4 U5 hR7 R7
            walk_at "go"
            refine bound_get bDone G S (by walk_at "mem") (by walk_at "mem") rfl ?_
            clear S; intro q s S
            refine callWith_B1 (x := x) (bDone (w := w)).k ?_
            walk_at "go"
            refine star_tup S (by walk_at "mem") (by rw [List.length_map, sizeLine_eq]; omega) fun vs s' hvs S' => ?_
            clear S; have S := S'; clear S'
            refine ⟨S.methP G (by walk_at "mem"), ?_⟩
            refine call_bound (f := 137) (x := x) S (by walk_at "mem") ?_
            replace S := S.to (Q := (x, .inst 154 dx) :: (dx, tsA N (.ref ra) (po + rd.length) po) :: (ra, .list ([].map I)) :: (N, .dict (kvs g3) ep) :: (nodes g3 ++ ((wd, .dict kw ew) :: (tabLed 191 posT t1 ++ (tabLed 198 posF t2 ++ ((L' + 1 + 1, MO.cell (some (.ref wd))) :: RP)))))) (by walk_at "sub")
            obtain ⟨hnp, hat2⟩ := hat.round hlev.1
            obtain ⟨s1, s2, _⟩ := sets_np rd (g2.map ab)
            rw [← hg3] at hnp hat2 s1 s2
            have ks3 : ksOf (g3.map ab) = ksOf (g.map ab) := s1.trans hat.ks
            have su3 : ∀ p, sucOf (g3.map ab) p = sucOf (g.map ab) p := fun p => (s2 p).trans (hat.su p)
            have row3 : ∀ q ∈ g3.map ab, q.2.2 = sucOf (g.map ab) q.1 := fun q hq => by rw [← su3, suc_row (by rw [ks3]; exact hlev.1.nd) hq]
            refine done_code (d := d) (b := 144) G (k.le (by omega)) S hvs (fun q hq => ?_) (by rw [List.length_nil]; omega) (by omega) (fun n hn => by show n ∈ ksOf (g3.map ab); rw [ks3]; exact ((hat.mr n).mp hn).1) (fun q hq n hn => ?_) hnp fun g4 s' hsh hg4 S' => ?_
            · rw [row3 q hq]; exact Nat.le_trans (suc_len hbs _) (by omega)
            · show n ∈ ksOf (g3.map ab)
              rw [row3 q hq] at hn
              rw [ks3]
              exact (hlev.1.cl q.1 (by rw [← ks3]; exact List.mem_map_of_mem (f := (·.1)) hq) n hn).1
            clear S; have S := S'; clear S'
            dsimp only
            walk_at "go"
            rw [← kvs_sh hsh] at S
            refine ⟨_, _, (S.vars (m' := [(Str.ofString "plan", .ref x), (Str.ofString "options", .ref oa)]) (by walk_at "vars")).to (Q := (x, .inst 154 dx) :: (dx, tsA N (.ref ra) (po + rd.length) (po + rd.length)) :: (ra, .list ((rd.foldl gDone1 (g3.map ab, [])).2.map I)) :: (N, .dict (kvs g4) ep) :: (nodes g4 ++ ((wd, .dict kw ew) :: (tabLed 191 posT t1 ++ (tabLed 198 posF t2 ++ ((L' + 1 + 1, MO.cell (some (.ref wd))) :: RP)))))) (by walk_at "sub"), hJ (n - 1) _ _ (by omega) ⟨rfl, kk + 1, _, g4, _, kw, ew, t1, t2, rfl, by rw [hg4]; exact hat2, hdw.congr (fun n => ?_), ok1, ok2, by omega⟩⟩
            rw [hat.mr n]
            constructor
            · rintro (q | q)
              · exact ⟨q.1, by omega⟩
              · exact ⟨q.1, by omega⟩
            · rintro ⟨q1, q2⟩
              by_cases hq : lv n < kk
              · exact .inl ⟨q1, hq⟩
              · exact .inr ⟨q1, by omega⟩
end

theorem tDist : ∀ x < 16, ∀ y < 16, ∀ z < 16, times4 (x ^^^ y) z = times4 x z ^^^ times4 y z := by decide +kernel
theorem tComm : ∀ x < 16, ∀ y < 16, times4 x y = times4 y x := by decide +kernel
theorem tZero : ∀ x < 16, ∀ y < 16, times4 x y = 0 → x = 0 ∨ y = 0 := by decide +kernel
theorem tMex : ∀ a < 9, ∀ b < 5, ∀ v < times4 a b, ∃ a' < a, ∃ b' < b, times4 a' b' ^^^ times4 a' b ^^^ times4 a b' = v := by decide +kernel
theorem tNil : ∀ z < 16, times4 0 z = 0 := by decide +kernel
def lowB (mv p : Nat) : List Nat := (List.range p).filter fun b => decide (mv / 2 ^ b % 2 = 1)
theorem bits_top : ∀ p < 4, ∀ mv < 16, mv / 2 ^ p = 1 → bitsTo mv 5 = lowB mv p ++ [p] := by decide +kernel
theorem has_top : ∀ mv < 16, 0 < mv → ∃ p < 4, mv / 2 ^ p = 1 := by decide +kernel
theorem has_top3 : ∀ mv < 8, 0 < mv → ∃ p < 3, mv / 2 ^ p = 1 := by decide +kernel
theorem lowB_lt {mv p y : Nat} (h : y ∈ lowB mv p) : y < p := List.mem_range.mp (List.mem_filter.mp h).1
theorem lowB_succ (mv p : Nat) : lowB mv (p + 1) = lowB mv p ++ if mv / 2 ^ p % 2 = 1 then [p] else [] := by
  unfold lowB
  rw [List.range_succ, List.filter_append]
  congr 1
  by_cases h : mv / 2 ^ p % 2 = 1
  · rw [if_pos h, List.filter_cons_of_pos (by simpa using h)]; rfl
  · rw [if_neg h, List.filter_cons_of_neg (by simpa using h)]; rfl
theorem xorL_app (a b : List Nat) : xorL (a ++ b) = xorL a ^^^ xorL b := by
  have h : ∀ (l : List Nat) (x : Nat), l.foldl (· ^^^ ·) x = x ^^^ l.foldl (· ^^^ ·) 0 := by
    intro l
    induction l with
    | nil => intro x; simp
    | cons y l ih => intro x; rw [List.foldl_cons, List.foldl_cons, ih (x ^^^ y), ih (0 ^^^ y), Nat.zero_xor, Nat.xor_assoc]
  unfold xorL
  rw [List.foldl_append, h]
theorem xorL_one (x : Nat) : xorL [x] = x := by unfold xorL; simp
theorem wOf_low (W : List Nat) (mv : Nat) : ∀ p, wOf W mv p = xorL ((lowB mv p).map fun b => W.getD b 0)
  | 0 => rfl
  | p + 1 => by
    rw [lowB_succ, List.map_append, xorL_app, ← wOf_low W mv p, wOf]
    by_cases h : mv / 2 ^ p % 2 = 1
    · rw [if_pos h, if_pos h, List.map_cons, List.map_nil, xorL_one]
    · rw [if_neg h, if_neg h, List.map_nil]; simp [xorL]
theorem wOf_pre {W V : List Nat} (mv : Nat) : ∀ p, (∀ b < p, W.getD b 0 = V.getD b 0) → wOf W mv p = wOf V mv p
  | 0, _ => rfl
  | p + 1, h => by
    rw [wOf, wOf, wOf_pre mv p (fun b hb => h b (by omega)), h p (by omega)]
theorem map16 {l : List Nat} {f : Nat → Nat} (h : ∀ x, f x < 16) : ∀ x ∈ l.map f, x < 16 := fun x hx => by
  obtain ⟨y, _, rfl⟩ := List.mem_map.mp hx
  exact h y
theorem row_xor {a : Nat} {g : Nat → Nat} (ha : a < 16) (hg : ∀ x, g x < 16) : ∀ c : List Nat, xorL (c.map fun q => times4 a (g q)) = times4 a (xorL (c.map g))
  | [] => by
    show 0 = times4 a 0
    rw [tComm a ha 0 (by decide), tNil a ha]
  | q :: c => by
    have ih := row_xor ha hg c
    have h1 : xorL ((q :: c).map fun q => times4 a (g q)) = times4 a (g q) ^^^ xorL (c.map fun q => times4 a (g q)) := by
      rw [List.map_cons, ← List.singleton_append, xorL_app, xorL_one]
    have h2 : xorL ((q :: c).map g) = g q ^^^ xorL (c.map g) := by
      rw [List.map_cons, ← List.singleton_append, xorL_app, xorL_one]
    have hx := xorL_lt (map16 (l := c) hg)
    rw [h1, h2, ih, tComm a ha _ (xor16 (hg q) hx), tDist _ (hg q) _ hx _ ha, tComm _ (hg q) _ ha, tComm _ hx _ ha]
theorem cells_xor {g h : Nat → Nat} (hg : ∀ x, g x < 16) (hh : ∀ x, h x < 16) {F : Nat → Nat} (hF : ∀ p q, q < 3 → F (3 * p + q) = times4 (g p) (h q)) {c : List Nat} (hc : ∀ q ∈ c, q < 3) : ∀ l : List Nat, xorL ((cellsOf l c).map F) = times4 (xorL (l.map g)) (xorL (c.map h))
  | [] => by
    show 0 = times4 0 _
    rw [tNil _ (xorL_lt (map16 hh))]
  | p :: l => by
    have ih := cells_xor hg hh hF hc l
    have e : cellsOf (p :: l) c = (c.map fun q => 3 * p + q) ++ cellsOf l c := by unfold cellsOf; rw [List.flatMap_cons]
    have h1 : ((c.map fun q => 3 * p + q).map F) = c.map fun q => times4 (g p) (h q) := by
      rw [List.map_map]
      exact List.map_congr_left fun q hq => hF p q (hc q hq)
    have h2 : xorL ((p :: l).map g) = g p ^^^ xorL (l.map g) := by
      rw [List.map_cons, ← List.singleton_append, xorL_app, xorL_one]
    have hx := xorL_lt (map16 (l := l) hg)
    have hy := xorL_lt (map16 (l := c) hh)
    rw [e, List.map_append, xorL_app, h1, row_xor (hg p) hh, ih, h2, tDist _ (hg p) _ hx _ hy]
theorem cells_top (l c : List Nat) (p q : Nat) : cellsOf (l ++ [p]) (c ++ [q]) = (cellsOf l (c ++ [q]) ++ c.map fun q => 3 * p + q) ++ [3 * p + q] := by
  unfold cellsOf
  rw [List.flatMap_append]; simp
/-- what an option is worth -/
theorem opt_worth {g h : Nat → Nat} (hg : ∀ x, g x < 16) (hh : ∀ x, h x < 16) {F : Nat → Nat} (hF : ∀ p q, q < 3 → F (3 * p + q) = times4 (g p) (h q)) {l c : List Nat} {p q : Nat} (hc : ∀ y ∈ c, y < 3) (hq : q < 3) :
    lastN (cellsOf (l ++ [p]) (c ++ [q])) = 3 * p + q ∧ xorL ((cellsOf (l ++ [p]) (c ++ [q])).dropLast.map F) = times4 (xorL (l.map g)) (xorL (c.map h)) ^^^ times4 (xorL (l.map g)) (h q) ^^^ times4 (g p) (xorL (c.map h)) := by
  rw [cells_top]
  constructor
  · unfold lastN; rw [List.getLast?_concat]; rfl
  · rw [List.dropLast_concat, List.map_append, xorL_app, cells_xor hg hh hF (fun y hy => by
      rcases List.mem_append.mp hy with r | r
      · exact hc y r
      · rw [List.mem_singleton.mp r]; exact hq)]
    have h1 : ((c.map fun q => 3 * p + q).map F) = c.map fun q => times4 (g p) (h q) := by
      rw [List.map_map]
      exact List.map_congr_left fun q hq => hF p q (hc q hq)
    have hx := xorL_lt (map16 (l := l) hg)
    have hy := xorL_lt (map16 (l := c) hh)
    rw [h1, row_xor (hg p) hh, List.map_append, xorL_app, List.map_cons, List.map_nil, xorL_one, tComm _ hx _ (xor16 hy (hh q)), tDist _ hy _ (hh q) _ hx, tComm _ hy _ hx, tComm _ (hh q) _ hx]

theorem xor_zero {a b : Nat} (h : a ^^^ b = 0) : a = b := by
  have : (a ^^^ b) ^^^ b = a := by rw [Nat.xor_assoc, Nat.xor_self, Nat.xor_zero]
  rw [h, Nat.zero_xor] at this
  exact this.symm
theorem mex_le (l : List Nat) : mex l ≤ l.length := by
  have := nodup_sub_len (a := List.range (mex l)) (b := l) List.nodup_range fun x hx => (mex_is l).2 x (List.mem_range.mp hx)
  rwa [List.length_range] at this
theorem tartan {SA SB V : List Nat} {a b : Nat} (hA : ∀ x ∈ SA, x < 16) (hB : ∀ x ∈ SB, x < 16) (ha : a < 9) (hb : b < 5) (mA : IsMex SA a) (mB : IsMex SB b)
    (hV : ∀ v, v ∈ V ↔ ∃ A ∈ SA, ∃ B ∈ SB, v = times4 A B ^^^ times4 A b ^^^ times4 a B) : IsMex V (times4 a b) := by
  refine ⟨fun h => ?_, fun v hv => ?_⟩
  · obtain ⟨A, h1, B, h2, e⟩ := (hV _).mp h
    have hA16 := hA A h1
    have hB16 := hB B h2
    have ha16 : a < 16 := by omega
    have hb16 : b < 16 := by omega
    have hz : times4 (A ^^^ a) (B ^^^ b) = 0 := by
      rw [tDist A hA16 a ha16 _ (xor16 hB16 hb16), tComm A hA16 _ (xor16 hB16 hb16), tComm a ha16 _ (xor16 hB16 hb16), tDist B hB16 b hb16 A hA16, tDist B hB16 b hb16 a ha16, tComm B hB16 A hA16, tComm b hb16 A hA16, tComm B hB16 a ha16, tComm b hb16 a ha16, ← Nat.xor_assoc, ← e, Nat.xor_self]
    rcases tZero _ (xor16 hA16 ha16) _ (xor16 hB16 hb16) hz with q | q
    · exact mA.1 (xor_zero q ▸ h1)
    · exact mB.1 (xor_zero q ▸ h2)
  · obtain ⟨a', h1, b', h2, e⟩ := tMex a ha b hb v hv
    exact (hV v).mpr ⟨a', mA.2 a' h1, b', mB.2 b' h2, e.symm⟩
theorem alone_getD (ms : List Nat) {p n : Nat} (hp : p < n) : (aloneL ms n).getD p 0 = mex (metA ms (aloneL ms p) p) := by
  obtain ⟨t, ht⟩ := aloneL_pre ms (c := p + 1) (e := n) hp
  have hl := aloneL_len ms p
  rw [ht, aloneL, List.append_assoc, List.getD_eq_getElem?_getD, List.getElem?_append_right (by omega), hl, Nat.sub_self]
  rfl
theorem alone_below (ms : List Nat) {b p n : Nat} (hb : b < p) (hp : p ≤ n) : (aloneL ms p).getD b 0 = (aloneL ms n).getD b 0 := by rw [alone_getD ms hb, alone_getD ms (Nat.lt_of_lt_of_le hb hp)]
theorem metA_len (ms W : List Nat) (p : Nat) : (metA ms W p).length = (ms.filter fun mv => decide (mv / 2 ^ p = 1)).length := by unfold metA; rw [List.length_map]
theorem alone_le {ms : List Nat} {B n : Nat} (h : ∀ p < n, (ms.filter fun mv => decide (mv / 2 ^ p = 1)).length ≤ B) : ∀ x ∈ aloneL ms n, x ≤ B := by
  intro x hx
  obtain ⟨p, hp, rfl⟩ := List.mem_iff_getElem.mp hx
  have hl := aloneL_len ms n
  have := alone_getD ms (p := p) (n := n) (by omega)
  rw [List.getD_eq_getElem?_getD, List.getElem?_eq_getElem hp] at this
  rw [show (aloneL ms n)[p] = mex (metA ms (aloneL ms p) p) from this]
  exact Nat.le_trans (mex_le _) (by rw [metA_len]; exact h p (by omega))
theorem metA_mem {ms : List Nat} {p n : Nat} (hp : p < n) (A : Nat) : A ∈ metA ms (aloneL ms p) p ↔ ∃ mv ∈ ms, mv / 2 ^ p = 1 ∧ A = xorL ((lowB mv p).map fun b => (aloneL ms n).getD b 0) := by
  unfold metA
  rw [List.mem_map]
  have e : ∀ mv, wOf (aloneL ms p) mv p = xorL ((lowB mv p).map fun b => (aloneL ms n).getD b 0) := fun mv => by
    rw [← wOf_low]
    exact wOf_pre mv p fun b hb => alone_below ms hb (by omega)
  constructor
  · rintro ⟨mv, h, rfl⟩
    obtain ⟨h1, h2⟩ := List.mem_filter.mp h
    exact ⟨mv, h1, by simpa using h2, e mv⟩
  · rintro ⟨mv, h1, h2, rfl⟩
    exact ⟨mv, List.mem_filter.mpr ⟨h1, by simpa using h2⟩, e mv⟩
def coinsL (ms : List Nat) : List (List Nat) := ms.map fun mv => bitsTo mv 5
abbrev csOf (m1 m2 : List Nat) : List (List Nat) := allC (coinsL m1) (coinsL m2) (coinsL m1).length 0
theorem cs_mem (m1 m2 : List Nat) (x : List Nat) : x ∈ csOf m1 m2 ↔ ∃ u ∈ m1, ∃ v ∈ m2, x = cellsOf (bitsTo u 5) (bitsTo v 5) := by
  unfold csOf allC coinsL
  rw [List.take_zero, List.map_nil, List.append_nil, List.take_length]
  simp only [List.mem_flatMap, List.mem_map]
  constructor
  · rintro ⟨l, ⟨u, hu, rfl⟩, c, ⟨v, hv, rfl⟩, rfl⟩; exact ⟨u, hu, v, hv, rfl⟩
  · rintro ⟨u, hu, v, hv, rfl⟩; exact ⟨_, ⟨u, hu, rfl⟩, _, ⟨v, hv, rfl⟩, rfl⟩
structure Games (m1 m2 : List Nat) : Prop where
  a : ∀ mv ∈ m1, 0 < mv ∧ mv < 16
  b : ∀ mv ∈ m2, 0 < mv ∧ mv < 8
  c : ∀ p < 4, (m1.filter fun mv => decide (mv / 2 ^ p = 1)).length ≤ 8
  d : ∀ p < 3, (m2.filter fun mv => decide (mv / 2 ^ p = 1)).length ≤ 4
theorem field_mex {m1 m2 : List Nat} (Gm : Games m1 m2) (c : Nat) (hc : c < 12) :
    prodOf (aloneL m1 4) (aloneL m2 3) c = mex ((optOf (csOf m1 m2) c).map fun o => xorL (o.map (prodOf (aloneL m1 4) (aloneL m2 3)))) ∧ prodOf (aloneL m1 4) (aloneL m2 3) c < 16 := by
  have w1 : ∀ x ∈ aloneL m1 4, x < 16 := fun x hx => by have := alone_le Gm.c x hx; omega
  have w2 : ∀ x ∈ aloneL m2 3, x < 16 := fun x hx => by have := alone_le Gm.d x hx; omega
  have g1 := getD16 w1
  have g2 := getD16 w2
  refine ⟨?_, t4_lt _ (g1 _) _ (g2 _)⟩
  obtain ⟨p, q, hp, hq, rfl⟩ : ∃ p q, p < 4 ∧ q < 3 ∧ c = 3 * p + q := ⟨c / 3, c % 3, by omega, by omega, by omega⟩
  have hF : ∀ p q, q < 3 → prodOf (aloneL m1 4) (aloneL m2 3) (3 * p + q) = times4 ((aloneL m1 4).getD p 0) ((aloneL m2 3).getD q 0) := fun p q hq => by
    unfold prodOf
    rw [show (3 * p + q) / 3 = p by omega, show (3 * p + q) % 3 = q by omega]
  rw [hF p q hq]
  refine mex_uniq ?_ (mex_is _)
  have e1 := alone_getD m1 hp
  have e2 := alone_getD m2 hq
  refine tartan (SA := metA m1 (aloneL m1 p) p) (SB := metA m2 (aloneL m2 q) q) (fun x hx => ?_) (fun x hx => ?_) ?_ ?_ (e1 ▸ mex_is _) (e2 ▸ mex_is _) fun v => ?_
  · obtain ⟨mv, _, _, rfl⟩ := (metA_mem hp x).mp hx
    exact xorL_lt (map16 g1)
  · obtain ⟨mv, _, _, rfl⟩ := (metA_mem hq x).mp hx
    exact xorL_lt (map16 g2)
  · rw [e1]; have := mex_le (metA m1 (aloneL m1 p) p); rw [metA_len] at this; have := Gm.c p hp; omega
  · rw [e2]; have := mex_le (metA m2 (aloneL m2 q) q); rw [metA_len] at this; have := Gm.d q hq; omega
  have key : ∀ u ∈ m1, ∀ v ∈ m2, ∀ p' < 4, ∀ q' < 3, u / 2 ^ p' = 1 → v / 2 ^ q' = 1 → lastN (cellsOf (bitsTo u 5) (bitsTo v 5)) = 3 * p' + q' ∧ xorL ((cellsOf (bitsTo u 5) (bitsTo v 5)).dropLast.map (prodOf (aloneL m1 4) (aloneL m2 3))) = times4 (xorL ((lowB u p').map fun b => (aloneL m1 4).getD b 0)) (xorL ((lowB v q').map fun b => (aloneL m2 3).getD b 0)) ^^^ times4 (xorL ((lowB u p').map fun b => (aloneL m1 4).getD b 0)) ((aloneL m2 3).getD q' 0) ^^^ times4 ((aloneL m1 4).getD p' 0) (xorL ((lowB v q').map fun b => (aloneL m2 3).getD b 0)) := by
    intro u hu v hv p' hp' q' hq' h1 h2
    rw [bits_top p' hp' u (Gm.a u hu).2 h1, bits_top q' (by omega) v (by have := (Gm.b v hv).2; omega) h2]
    exact opt_worth g1 g2 hF (fun y hy => by have := lowB_lt hy; omega) hq'
  rw [List.mem_map]
  constructor
  · rintro ⟨o, ho, rfl⟩
    unfold optOf at ho
    obtain ⟨x, hx, rfl⟩ := List.mem_map.mp ho
    obtain ⟨hx1, hx2⟩ := List.mem_filter.mp hx
    obtain ⟨u, hu, v, hv, rfl⟩ := (cs_mem m1 m2 x).mp hx1
    obtain ⟨p', hp', t1⟩ := has_top u (Gm.a u hu).2 (Gm.a u hu).1
    obtain ⟨q', hq', t2⟩ := has_top3 v (Gm.b v hv).2 (Gm.b v hv).1
    obtain ⟨k1, k2⟩ := key u hu v hv p' hp' q' hq' t1 t2
    have hx3 : lastN (cellsOf (bitsTo u 5) (bitsTo v 5)) = 3 * p + q := by simpa using hx2
    have hpp : p' = p := by omega
    have hqq : q' = q := by omega
    subst hpp hqq
    exact ⟨_, (metA_mem hp _).mpr ⟨u, hu, t1, rfl⟩, _, (metA_mem hq _).mpr ⟨v, hv, t2, rfl⟩, k2⟩
  · rintro ⟨A, hA, B, hB, rfl⟩
    obtain ⟨u, hu, t1, rfl⟩ := (metA_mem hp A).mp hA
    obtain ⟨v, hv, t2, rfl⟩ := (metA_mem hq B).mp hB
    obtain ⟨k1, k2⟩ := key u hu v hv p hp q hq t1 t2
    refine ⟨_, ?_, k2⟩
    unfold optOf
    exact List.mem_map.mpr ⟨_, List.mem_filter.mpr ⟨(cs_mem m1 m2 _).mpr ⟨u, hu, v, hv, rfl⟩, by simpa using k1⟩, rfl⟩

theorem full_c : ∀ p < 4, (((List.range 15).map (1 + ·)).filter fun mv => decide (mv / 2 ^ p = 1)).length ≤ 8 := by decide +kernel
theorem full_d : ∀ p < 3, (((List.range 7).map (1 + ·)).filter fun mv => decide (mv / 2 ^ p = 1)).length ≤ 4 := by decide +kernel
theorem gameL_mem {ns : List Int} {sz mv : Nat} (h : mv ∈ gameL ns sz) : 0 < mv ∧ mv < sz + 1 := by
  unfold gameL at h
  obtain ⟨i, hi, rfl⟩ := List.mem_map.mp (List.mem_filter.mp h).1
  have := List.mem_range.mp hi
  omega
theorem games_of (n1 n2 : List Int) : Games (gameL n1 15) (gameL n2 7) where
  a := fun mv h => gameL_mem h
  b := fun mv h => gameL_mem h
  c := fun p hp => Nat.le_trans (List.Sublist.length_le (List.Sublist.filter _ (List.filter_sublist))) (full_c p hp)
  d := fun p hp => Nat.le_trans (List.Sublist.length_le (List.Sublist.filter _ (List.filter_sublist))) (full_d p hp)
theorem gameL_len (ns : List Int) (sz : Nat) : (gameL ns sz).length ≤ sz := by
  unfold gameL
  refine Nat.le_trans (List.length_filter_le _ _) (by simp)
def mx (l : List Nat) : Nat := l.foldr Nat.max 0
theorem mx_le : ∀ {l : List Nat} {x : Nat}, x ∈ l → x ≤ mx l
  | y :: l, x, h => by
    unfold mx
    rw [List.foldr_cons]
    rcases List.mem_cons.mp h with rfl | q
    · exact Nat.le_max_left _ _
    · exact Nat.le_trans (mx_le q) (Nat.le_max_right _ _)
theorem mx_in : ∀ l : List Nat, mx l = 0 ∨ mx l ∈ l
  | [] => .inl rfl
  | y :: l => by
    have e : mx (y :: l) = Nat.max y (mx l) := rfl
    rw [e]
    rcases Nat.le_total y (mx l) with h | h
    · rw [show Nat.max y (mx l) = mx l from Nat.max_eq_right h]
      rcases mx_in l with q | q
      · exact .inl q
      · exact .inr (.tail _ q)
    · rw [show Nat.max y (mx l) = y from Nat.max_eq_left h]
      exact .inr (.head _)
def levT (pr : Nat → List Nat) : Nat → List Nat
  | 0 => []
  | n + 1 => levT pr n ++ [mx ((pr n).map fun y => (levT pr n).getD y 0 + 1)]
theorem levT_len (pr : Nat → List Nat) : ∀ n, (levT pr n).length = n
  | 0 => rfl
  | n + 1 => by rw [levT, List.length_append, levT_len pr n]; rfl
theorem levT_pre (pr : Nat → List Nat) {y : Nat} : ∀ {n m : Nat}, y < n → n ≤ m → (levT pr m).getD y 0 = (levT pr n).getD y 0
  | n, 0, h, h2 => by omega
  | n, m + 1, h, h2 => by
    by_cases e : n = m + 1
    · rw [e]
    · rw [← levT_pre pr (n := n) (m := m) h (by omega), levT, List.getD_eq_getElem?_getD, List.getElem?_append_left (by rw [levT_len]; omega), ← List.getD_eq_getElem?_getD]
def lvN (pr : Nat → List Nat) (c : Nat) : Nat := (levT pr (c + 1)).getD c 0
theorem lvN_eq {pr : Nat → List Nat} {c : Nat} (h : ∀ y ∈ pr c, y < c) : lvN pr c = mx ((pr c).map fun y => lvN pr y + 1) := by
  unfold lvN
  rw [levT, List.getD_eq_getElem?_getD, List.getElem?_append_right (by rw [levT_len]; omega), levT_len, Nat.sub_self]
  show mx _ = _
  congr 1
  refine List.map_congr_left fun y hy => ?_
  rw [levT_pre pr (n := y + 1) (m := c) (by omega) (h y hy)]
theorem lvN_le {pr : Nat → List Nat} (h : ∀ c < 12, ∀ y ∈ pr c, y < c) : ∀ n c, c < n → c < 12 → lvN pr c ≤ c
  | 0, c, h1, _ => by omega
  | n + 1, c, h1, h2 => by
    rw [lvN_eq (h c h2)]
    rcases mx_in ((pr c).map fun y => lvN pr y + 1) with q | q
    · omega
    · obtain ⟨y, hy, e⟩ := List.mem_map.mp q
      have h3 := h c h2 y hy
      have := lvN_le h n y (by omega) (by omega)
      omega
theorem preds_lt {m1 m2 : List Nat} (Gm : Games m1 m2) {c y : Nat} (h : y ∈ predsF (csOf m1 m2) c) : y < c := by
  unfold predsF low12 at h
  have h1 : y ∈ (optOf (csOf m1 m2) c).flatten := by simpa using (List.mem_filter.mp h).2
  obtain ⟨o, ho, hy⟩ := List.mem_flatten.mp h1
  unfold optOf at ho
  obtain ⟨x, hx, rfl⟩ := List.mem_map.mp ho
  obtain ⟨hx1, hx2⟩ := List.mem_filter.mp hx
  obtain ⟨u, hu, v, hv, rfl⟩ := (cs_mem m1 m2 x).mp hx1
  obtain ⟨p, hp, t1⟩ := has_top u (Gm.a u hu).2 (Gm.a u hu).1
  obtain ⟨q, hq, t2⟩ := has_top3 v (Gm.b v hv).2 (Gm.b v hv).1
  have hx3 : lastN (cellsOf (bitsTo u 5) (bitsTo v 5)) = c := by simpa using hx2
  rw [bits_top p hp u (Gm.a u hu).2 t1, bits_top q (by omega) v (by have := (Gm.b v hv).2; omega) t2, cells_top] at hy hx3
  rw [List.dropLast_concat] at hy
  unfold lastN at hx3
  rw [List.getLast?_concat] at hx3
  have hx4 : 3 * p + q = c := hx3
  rcases List.mem_append.mp hy with r | r
  · obtain ⟨i, hi, r2⟩ := List.mem_flatMap.mp r
    obtain ⟨j, hj, rfl⟩ := List.mem_map.mp r2
    have := lowB_lt hi
    have hj3 : j < 3 := by
      rcases List.mem_append.mp hj with r3 | r3
      · have := lowB_lt r3; omega
      · rw [List.mem_singleton.mp r3]; exact hq
    omega
  · obtain ⟨j, hj, rfl⟩ := List.mem_map.mp r
    have := lowB_lt hj
    omega
theorem preds12 (cs : List (List Nat)) (c : Nat) : ∀ y ∈ predsF cs c, y < 12 := fun y h => by
  unfold predsF low12 at h
  exact List.mem_range.mp (List.mem_filter.mp h).1
def lvF (cs : List (List Nat)) (n : Int) : Nat := if n.toNat < 12 then lvN (predsF cs) n.toNat else 0
theorem field_dok {m1 m2 : List Nat} (Gm : Games m1 m2) (bg : Nat) : DOK (toldF (csOf m1 m2) bg) (lvF (csOf m1 m2)) ∧ ∀ n, lvF (csOf m1 m2) n < 100 := by
  have hp : ∀ c < 12, ∀ y ∈ predsF (csOf m1 m2) c, y < c := fun c _ y hy => preds_lt Gm hy
  have hlv : ∀ c : Nat, c < 12 → lvF (csOf m1 m2) (c : Int) = lvN (predsF (csOf m1 m2)) c := fun c hc => by
    unfold lvF; rw [Int.toNat_natCast, if_pos hc]
  refine ⟨⟨fun a ha p hpa => ?_, fun a ha => ?_⟩, fun n => ?_⟩
  · obtain ⟨j, hj, rfl⟩ := List.mem_map.mp ha
    have hc12 : cellT bg j < 12 := Nat.mod_lt _ (by decide)
    dsimp only at hpa ⊢
    generalize cellT bg j = c at *
    obtain ⟨y, hy, rfl⟩ := List.mem_map.mp hpa
    have hy12 := preds12 _ _ y hy
    refine ⟨(toldF_mem _ _ _).mpr ⟨y, hy12, rfl⟩, ?_⟩
    rw [hlv y hy12, hlv c hc12, lvN_eq (hp c hc12)]
    exact mx_le (List.mem_map.mpr ⟨y, hy, rfl⟩)
  · obtain ⟨j, hj, rfl⟩ := List.mem_map.mp ha
    have hc12 : cellT bg j < 12 := Nat.mod_lt _ (by decide)
    dsimp only
    generalize cellT bg j = c at *
    rw [hlv c hc12, lvN_eq (hp c hc12)]
    rcases mx_in ((predsF (csOf m1 m2) c).map fun y => lvN (predsF (csOf m1 m2)) y + 1) with q | q
    · exact .inl q
    · obtain ⟨y, hy, e⟩ := List.mem_map.mp q
      exact .inr ⟨y, List.mem_map.mpr ⟨y, hy, rfl⟩, by rw [hlv y (preds12 _ _ y hy)]; exact e⟩
  · unfold lvF
    split
    · rename_i h
      have := lvN_le hp (n.toNat + 1) n.toNat (by omega) h
      omega
    · decide

def lawPart : Stmt → List Stmt × Scope
  | .FunctionDef _ _ b _ _ _ sc _ _ _ => (b, sc)
  | _ => ([], default)
def lawBS : List Stmt × Scope := lawPart (PySem.Challenge.pw_om0095_01.main.body.getLast?.getD (.Pass default))
theorem pick_len {xs : List Value} {lo : Int} (h : xs.length = 14) (h2 : lo = 0 ∨ lo = 1) : (pick xs (some lo) none (some 2)).length ≤ 14 := by
  unfold pick slicePick
  simp only [List.size_toArray, h]
  refine Nat.le_trans (List.length_filterMap_le _ _) ?_
  rcases h2 with rfl | rfl <;> decide +kernel
theorem pick14 {ns : List Int} {lo : Int} (h : ns.length = 14) (h2 : lo = 0 ∨ lo = 1) : ∃ ms : List Int, pick (ns.map I) (some lo) none (some 2) = ms.map I ∧ ms.length ≤ 14 := by
  obtain ⟨ms, e⟩ := pick_ints ns (some lo) none (some 2)
  refine ⟨ms, e, ?_⟩
  have := pick_len (xs := ns.map I) (by rw [List.length_map]; exact h) h2
  rw [e, List.length_map] at this
  exact this
theorem coin_15 : ∀ mv < 16, 0 < mv → bitsTo mv 5 ≠ [] ∧ (bitsTo mv 5).length ≤ 4 ∧ ∀ p ∈ bitsTo mv 5, p < 4 := by decide +kernel
theorem coin_7 : ∀ mv < 8, 0 < mv → bitsTo mv 5 ≠ [] ∧ (bitsTo mv 5).length ≤ 3 ∧ ∀ p ∈ bitsTo mv 5, p < 3 := by decide +kernel
theorem coinsL_take {ms : List Nat} {i : Nat} (h : i < ms.length) : ((coinsL ms).take (i + 1)).map zs = ((coinsL ms).take i).map zs ++ [zs (bitsTo (ms.getD i 0) 5)] := by
  have h2 : i < (coinsL ms).length := by unfold coinsL; rw [List.length_map]; exact h
  rw [take_getL (x := []) h2, List.map_append]
  congr 1
  unfold coinsL
  simp [List.getD, h]
theorem sum_nn : ∀ ds : List Int, (∀ x ∈ ds, 0 ≤ x) → 0 ≤ ds.sum
  | [], _ => by simp
  | x :: r, h => by
    have h1 := h x (.head _)
    have h2 := sum_nn r fun y hy => h y (.tail _ hy)
    rw [List.sum_cons]; omega
theorem prod_get (f : Nat → Nat) {c : Nat} (hc : c < 12) : dget (prodKV f 12) (c : Int) = some (I (f c : Nat)) := by
  refine dget_at (fun p hp => ?_) ?_
  · obtain ⟨e, he, rfl⟩ := List.mem_map.mp hp
    exact ⟨e, List.mem_range.mp he, rfl⟩
  · refine List.mem_map.mpr ⟨_, List.mem_map.mpr ⟨c, List.mem_range.mpr hc, rfl⟩, rfl⟩
section
variable {prog : Program} {w : World} {A : Around} {s₀ s : Shared} {L : Addr} {m : List (Str × Value)} {P R : Led} {d : Nat}
theorem law_end {da na sa la fa : Addr} {cd : Value} {ds gs : List Int} {env0 : Env} (GMm : GM (K w) s₀.heap) (C1 : CodeHd s₀.heap 195 191) (C2 : CodeHd s₀.heap 202 198) (k : OK A 20) (hfr : A.frames = some [env0]) (hk0 : env0.scope.kind ≠ .module) (hF0 : env0.frame = some L)
    (S : Sim w s₀ L [(Str.ofString "numbers", .ref na), (Str.ofString "seeds", .ref sa), (Str.ofString "script", .ref la)] ((na, .list (gs.map I)) :: (da, .list (ds.map I)) :: (L + 1, .cell (some (.ref da))) :: (tabLed 191 posT none ++ tabLed 198 posF none)) s)
    (hgl : gs.length = 14) (hdl : ds.length ≤ 14) (hd0 : ∀ x ∈ ds, 0 ≤ x) :
    wpAny (model prog w) A (execs (lawBS.1.drop 3) (envOfC (Str.ofString "law") lawBS.2 L fa cd)) (fun f s' => f = .ret (.bool true) ∧ ∃ m P t1 t2, Sim w s₀ L m (tabLed 191 posT t1 ++ (tabLed 198 posF t2 ++ P)) s') noE s := by
  have G := GMm.G
  show wpAny _ _ (execs (_ :: _) (envOfC _ ⟨_, _, _, _, _⟩ _ _ _)) _ _ _
  obtain ⟨TB, hTB⟩ : ∃ TB : Led, TB = tabLed 191 posT none ++ tabLed 198 posF none := ⟨_, rfl⟩
  rw [← hTB] at S
  walk_at "go"
  refine slice3 S (by walk_at "mem") (by rw [List.length_map, sizeLine_eq]; omega) (IsPart.int _ _) IsPart.none (IsPart.int _ _) (by decide) ?_
  clear S; intro D1 s S
  obtain ⟨n1, h1, hl1⟩ := pick14 hgl (lo := 0) (.inl rfl)
  rw [h1] at S
  walk_at "go"
  refine game_spec (d := 10) (sz := 15) G (k.le (by decide)) S (by walk_at "mem") (by decide) (by decide) (by omega) ?_
  clear S; intro F1 s S
  walk_at "go"
  refine slice3 S (by walk_at "mem") (by rw [List.length_map, sizeLine_eq]; omega) (IsPart.int _ _) IsPart.none (IsPart.int _ _) (by decide) ?_
  clear S; intro D2 s S
  obtain ⟨n2, h2, hl2⟩ := pick14 hgl (lo := 1) (.inr rfl)
  rw [h2] at S
  walk_at "go"
  refine game_spec (d := 10) (sz := 7) G (k.le (by decide)) S (by walk_at "mem") (by decide) (by decide) (by omega) ?_
  clear S; intro F2 s S
  have Gm := games_of n1 n2
  have g1 := gameL_len n1 15
  have g2 := gameL_len n2 7
  generalize gameL n1 15 = m1 at *
  generalize gameL n2 7 = m2 at *
  walk_at "go"
  clear h1 h2 hl1 hl2 hgl
  revert it a; intro it a S
  obtain ⟨R1, hR1⟩ : ∃ R1 : Led, R1 = (F2, MO.list ((zs m2).map I)) :: (F1, MO.list ((zs m1).map I)) :: (da, MO.list (ds.map I)) :: (L + 1, MO.cell (some (.ref da))) :: TB := ⟨_, rfl⟩
  have U1 : (F1, MO.list ((zs m1).map I)) ∈ R1 := by rw [hR1]; walk_at "mem"
  replace S := S.to (Q := (it, .liter F1 0) :: (a, .list (refs [])) :: (nest [] ++ (L, MO.frame [(Str.ofString "first", .ref F1), (Str.ofString "second", .ref F2), (Str.ofString "numbers", .ref na), (Str.ofString "seeds", .ref sa), (Str.ofString "script", .ref la)]) :: R1)) (by rw [hR1]; walk_at "sub")
  refine comp_start rfl (comp_code (src_list k.h (a := F1) (xs := (zs m1).map I) .none) (fun i m2 P' => ∃ nl : NL, P' = (a, .list (refs nl)) :: (nest nl ++ (L, MO.frame [(Str.ofString "first", .ref F1), (Str.ofString "second", .ref F2), (Str.ofString "numbers", .ref na), (Str.ofString "seeds", .ref sa), (Str.ofString "script", .ref la)]) :: R1) ∧ cont nl = ((coinsL m1).take i).map zs) S ⟨[], rfl, rfl⟩ ?hreq turn_list1 ?step ?done) (self_list S (by walk_at "mem"))
  case hreq => rintro i m2 P' ⟨nl, rfl, _⟩; walk_at "mem"
  case step =>
    rintro i mm P' hi ⟨nl, rfl, hnl⟩ J hJ
    clear S
    simp only [List.length_map] at hi
    show All (((zs m1).map I).getD i .none) _
    rw [zs_getD hi]
    have hmv := Gm.a (m1.getD i 0) (by simp [List.getD, hi])
    have hnll : nl.length = i := by have := congrArg List.length hnl; simpa [coinsL, Nat.min_eq_left (Nat.le_of_lt hi)] using this
    try dsimp only at hJ
    rw [coinsL_take hi] at hJ
    generalize m1.getD i 0 = mv at *
    intro t s S
    change Sim w s₀ C _ _ _ at S
    dsimp only [List.nil_append, List.cons_append] at S
    walk_at "go"
    rw [if_pos rfl]
    walk_at "go"
    refine coins_spec (d := 10) G (k.le (by decide)) S hmv.1 (by omega) ?_
    clear S; intro D s S
    walk_at "go"
    refine ⟨rfl, _, _, S.to (Q := (it, .liter F1 (i + 1)) :: (a, .list (refs (nl ++ [(D, zs (bitsTo mv 5))]))) :: (nest (nl ++ [(D, zs (bitsTo mv 5))]) ++ (L, MO.frame [(Str.ofString "first", .ref F1), (Str.ofString "second", .ref F2), (Str.ofString "numbers", .ref na), (Str.ofString "seeds", .ref sa), (Str.ofString "script", .ref la)]) :: R1)) ?_, hJ _ _ ⟨_, rfl, ?_⟩⟩
    · rw [refs_app, nest_app, nest_one]
      simp only [List.append_assoc, List.cons_append, List.nil_append]
      change SubM _ (_ :: (a, MO.list (refs nl ++ [.ref D])) :: _)
      walk_at "sub"
    · simp only [cont, List.map_append, List.map_cons, List.map_nil]
      rw [← hnl]
  case done =>
    clear S
    rintro mm P' s ⟨nl, rfl, hnl⟩ S
    change Sim w s₀ C _ _ _ at S
    refine comp_use S (L := L) (m := [(Str.ofString "first", .ref F1), (Str.ofString "second", .ref F2), (Str.ofString "numbers", .ref na), (Str.ofString "seeds", .ref sa), (Str.ofString "script", .ref la)]) (P' := (a, .list (refs nl)) :: (nest nl ++ R1)) (by walk_at "sub") ?_
    clear S; intro s S
    have el : cont nl = (coinsL m1).map zs := by rw [hnl, List.length_map, List.length_map, show m1.length = (coinsL m1).length by unfold coinsL; rw [List.length_map], List.take_length]
    clear hnl
    have U3 : (F2, MO.list ((zs m2).map I)) ∈ R1 := by rw [hR1]; walk_at "mem"
    have U4 : (L + 1, MO.cell (some (.ref da))) ∈ R1 := by rw [hR1]; walk_at "mem"
    have U5 : (da, MO.list (ds.map I)) ∈ R1 := by rw [hR1]; walk_at "mem"
    revert a; intro La S
    walk_at "go"
    revert it a; intro it a S
    obtain ⟨R2, hR2⟩ : ∃ R2 : Led, R2 = (La, MO.list (refs nl)) :: (nest nl ++ R1) := ⟨_, rfl⟩
    have U2 : (F2, MO.list ((zs m2).map I)) ∈ R2 := by rw [hR2]; walk_at "mem"
    replace S := S.to (Q := (it, .liter F2 0) :: (a, .list (refs [])) :: (nest [] ++ (L, MO.frame [(Str.ofString "lines", .ref La), (Str.ofString "first", .ref F1), (Str.ofString "second", .ref F2), (Str.ofString "numbers", .ref na), (Str.ofString "seeds", .ref sa), (Str.ofString "script", .ref la)]) :: R2)) (by rw [hR2]; walk_at "sub")
    refine comp_start rfl (comp_code (src_list k.h (a := F2) (xs := (zs m2).map I) .none) (fun i m3 P' => ∃ nc : NL, P' = (a, .list (refs nc)) :: (nest nc ++ (L, MO.frame [(Str.ofString "lines", .ref La), (Str.ofString "first", .ref F1), (Str.ofString "second", .ref F2), (Str.ofString "numbers", .ref na), (Str.ofString "seeds", .ref sa), (Str.ofString "script", .ref la)]) :: R2) ∧ cont nc = ((coinsL m2).take i).map zs) S ⟨[], rfl, rfl⟩ ?hreq2 turn_list1 ?step2 ?done2) (self_list S (by walk_at "mem"))
    case hreq2 => rintro i m3 P' ⟨nc, rfl, _⟩; walk_at "mem"
    case step2 =>
      rintro i mm P' hi ⟨nc, rfl, hnc⟩ J hJ
      clear S
      simp only [List.length_map] at hi
      show All (((zs m2).map I).getD i .none) _
      rw [zs_getD hi]
      have hmv := Gm.b (m2.getD i 0) (by simp [List.getD, hi])
      have hncl : nc.length = i := by have := congrArg List.length hnc; simpa [coinsL, Nat.min_eq_left (Nat.le_of_lt hi)] using this
      try dsimp only at hJ
      rw [coinsL_take hi] at hJ
      generalize m2.getD i 0 = mv at *
      intro t s S
      change Sim w s₀ C _ _ _ at S
      dsimp only [List.nil_append, List.cons_append] at S
      walk_at "go"
      rw [if_pos rfl]
      walk_at "go"
      refine coins_spec (d := 10) G (k.le (by decide)) S hmv.1 (by omega) ?_
      clear S; intro D s S
      walk_at "go"
      refine ⟨rfl, _, _, S.to (Q := (it, .liter F2 (i + 1)) :: (a, .list (refs (nc ++ [(D, zs (bitsTo mv 5))]))) :: (nest (nc ++ [(D, zs (bitsTo mv 5))]) ++ (L, MO.frame [(Str.ofString "lines", .ref La), (Str.ofString "first", .ref F1), (Str.ofString "second", .ref F2), (Str.ofString "numbers", .ref na), (Str.ofString "seeds", .ref sa), (Str.ofString "script", .ref la)]) :: R2)) ?_, hJ _ _ ⟨_, rfl, ?_⟩⟩
      · rw [refs_app, nest_app, nest_one]
        simp only [List.append_assoc, List.cons_append, List.nil_append]
        change SubM _ (_ :: (a, MO.list (refs nc ++ [.ref D])) :: _)
        walk_at "sub"
      · simp only [cont, List.map_append, List.map_cons, List.map_nil]
        rw [← hnc]
    case done2 =>
      clear S
      rintro mm P' s ⟨nc, rfl, hnc⟩ S
      change Sim w s₀ C _ _ _ at S
      refine comp_use S (L := L) (m := [(Str.ofString "lines", .ref La), (Str.ofString "first", .ref F1), (Str.ofString "second", .ref F2), (Str.ofString "numbers", .ref na), (Str.ofString "seeds", .ref sa), (Str.ofString "script", .ref la)]) (P' := (a, .list (refs nc)) :: (nest nc ++ R2)) (by walk_at "sub") ?_
      clear S; intro s S
      have ec : cont nc = (coinsL m2).map zs := by rw [hnc, List.length_map, List.length_map, show m2.length = (coinsL m2).length by unfold coinsL; rw [List.length_map], List.take_length]
      clear hnc
      revert a; intro Ca S
      have V1 : (F1, MO.list ((zs m1).map I)) ∈ R2 := by rw [hR2]; walk_at "mem"
      have V3 : (L + 1, MO.cell (some (.ref da))) ∈ R2 := by rw [hR2]; walk_at "mem"
      have V4 : (da, MO.list (ds.map I)) ∈ R2 := by rw [hR2]; walk_at "mem"
      have w1 : ∀ x ∈ aloneL m1 4, x < 16 := fun x hx => by have := alone_le Gm.c x hx; omega
      have w2 : ∀ x ∈ aloneL m2 3, x < 16 := fun x hx => by have := alone_le Gm.d x hx; omega
      walk_at "go"
      refine alone_spec (d := 10) (cnt := 4) G (k.le (by decide)) S (by walk_at "mem") (by omega) (by decide) w1 ?_
      clear S; intro A1 s S
      walk_at "go"
      refine alone_spec (d := 10) (cnt := 3) G (k.le (by decide)) S (by walk_at "mem") (by omega) (by decide) w2 ?_
      clear S; intro A2 s S
      walk_at "go"
      refine products_spec (d := 10) G (k.le (by decide)) S (by walk_at "mem") (by walk_at "mem") (aloneL_len _ _) (aloneL_len _ _) w1 w2 ?_
      clear S; intro du ep s S
      walk_at "go"
      obtain ⟨bg, hbg⟩ : ∃ bg : Nat, ds.sum = (bg : Int) := ⟨ds.sum.toNat, by have := sum_nn ds hd0; omega⟩
      rw [hbg]
      obtain ⟨R9, hR9⟩ : ∃ R9 : Led, R9 = (du, MO.dict (prodKV (prodOf (aloneL m1 4) (aloneL m2 3)) 12) ep) :: (Ca, MO.list (refs nc)) :: (nest nc ++ (La, MO.list (refs nl)) :: (nest nl ++ [])) := ⟨_, rfl⟩
      have Y1 : (du, MO.dict (prodKV (prodOf (aloneL m1 4) (aloneL m2 3)) 12) ep) ∈ R9 := by rw [hR9]; walk_at "mem"
      have Y2 : (Ca, MO.list (refs nc)) ∈ R9 := by rw [hR9]; walk_at "mem"
      have Y3 : (La, MO.list (refs nl)) ∈ R9 := by rw [hR9]; walk_at "mem"
      have Y4 : ∀ r ∈ nc, (r.1, MO.list (r.2.map I)) ∈ R9 := fun r hr => by rw [hR9]; have := nest_mem hr; walk_at "mem"
      have Y5 : ∀ r ∈ nl, (r.1, MO.list (r.2.map I)) ∈ R9 := fun r hr => by rw [hR9]; have := nest_mem hr; walk_at "mem"
      replace S := S.to (Q := tabLed 191 posT none ++ (tabLed 198 posF none ++ R9)) (by rw [hR9, hR2, hR1, hTB]; walk_at "sub")
      have FF : Frames A L [(Str.ofString "due", .ref du), (Str.ofString "columns", .ref Ca), (Str.ofString "lines", .ref La), (Str.ofString "first", .ref F1), (Str.ofString "second", .ref F2), (Str.ofString "numbers", .ref na), (Str.ofString "seeds", .ref sa), (Str.ofString "script", .ref la)] (tabLed 191 posT none ++ (tabLed 198 posF none ++ R9)) [env0] := ⟨hfr, fun e he => by rw [List.mem_singleton.mp he]; exact ⟨hk0, L, _, hF0, .head _⟩⟩
      obtain ⟨x1, x2⟩ := field_dok Gm bg
      have l1 : (coinsL m1).length ≤ 15 := by unfold coinsL; rw [List.length_map]; exact g1
      have l2 : (coinsL m2).length ≤ 7 := by unfold coinsL; rw [List.length_map]; exact g2
      have y1 : ∀ l ∈ coinsL m1, l ≠ [] ∧ l.length ≤ 4 ∧ ∀ p ∈ l, p < 4 := fun l hl => by
        obtain ⟨mv, hmv, rfl⟩ := List.mem_map.mp hl
        exact coin_15 mv (Gm.a mv hmv).2 (Gm.a mv hmv).1
      have y2 : ∀ l ∈ coinsL m2, l ≠ [] ∧ l.length ≤ 3 ∧ ∀ p ∈ l, p < 3 := fun l hl => by
        obtain ⟨mv, hmv, rfl⟩ := List.mem_map.mp hl
        exact coin_7 mv (Gm.b mv hmv).2 (Gm.b mv hmv).1
      refine field_spec (d := 10) (rl := nl) (rc := nc) GMm C1 C2 (k.le (by decide)) FF S Y3 Y5 Y2 Y4 el ec l1 l2 y1 y2 trivial trivial x1 x2 (field_mex Gm) ?_
      clear S FF; intro D kw ew t1 t2 s hdw S
      walk_at "go"
      refine dict_eq_true G k S (by walk_at "mem") (by walk_at "mem") ?_ ?_ ?_
      · rw [prodKV_len]; exact hdw.full fun c hc => ⟨c, hc, rfl⟩
      · intro p hp
        obtain ⟨c, hc, rfl⟩ := hdw.v p hp
        exact ⟨_, rfl, prod_get _ hc⟩
      · walk_at "go"
        exact ⟨rfl, _, _, t1, t2, S.to (by walk_at "sub")⟩
end

section
variable {prog : Program} {w : World} {A : Around} {s₀ s : Shared} {L : Addr} {m : List (Str × Value)} {P R : Led} {d : Nat}
theorem law_body {la fa : Addr} {cd : Value} {vs : List Value} {ns : List Int} {env0 : Env} (GMm : GM (K w) s₀.heap) (C1 : CodeHd s₀.heap 195 191) (C2 : CodeHd s₀.heap 202 198) (k : OK A 20) (hfr : A.frames = some [env0]) (hk0 : env0.scope.kind ≠ .module) (hF0 : env0.frame = some L)
    (S : Sim w s₀ L [(Str.ofString "script", .ref la)] ((L + 1, .cell none) :: (tabLed 191 posT none ++ tabLed 198 posF none)) s) (hLs : s₀.heap.IsList la vs.toArray) (hvs : vs.length ≤ 63) (hve : vs.map er = ns.map I) :
    wpAny (model prog w) A (execs lawBS.1 (envOfC (Str.ofString "law") lawBS.2 L fa cd)) (fun f s' => f = .ret (.bool true) ∧ ∃ m P t1 t2, Sim w s₀ L m (tabLed 191 posT t1 ++ (tabLed 198 posF t2 ++ P)) s') noE s := by
  have G := GMm.G
  show wpAny _ _ (execs (_ :: _) (envOfC _ ⟨_, _, _, _, _⟩ _ _ _)) _ _ _
  walk_at "go"
  refine slice_base S hLs (by rw [sizeLine_eq]; omega) IsPart.none (IsPart.int _ _) ?_
  clear S; intro D s S
  dsimp only [partOf] at S
  rw [hve, show (some (14 : Int) : Option Int) = some ((14 : Nat) : Int) from rfl, pick_upto, ← List.map_take] at S
  have htk : (ns.take 14).length ≤ 14 := by rw [List.length_take]; omega
  generalize ns.take 14 = ys at *
  obtain ⟨TB, hTB⟩ : ∃ TB : Led, TB = tabLed 191 posT none ++ tabLed 198 posF none := ⟨_, rfl⟩
  rw [← hTB] at S
  walk_at "go"
  refine comp_start rfl (comp_code (src_list k.h (a := D) (xs := ys.map I) .none) (fun j m2 P' => ∃ ds : List Int, P' = (a, .list (ds.map I)) :: (D, .list (ys.map I)) :: (L, .frame [(Str.ofString "script", .ref la)]) :: (L + 1, .cell none) :: TB ∧ ds.length ≤ j ∧ ∀ x ∈ ds, 0 ≤ x) (P := (a, .list (List.map I [])) :: (D, .list (ys.map I)) :: (L, .frame [(Str.ofString "script", .ref la)]) :: (L + 1, .cell none) :: TB) (S.to (by walk_at "sub")) ⟨[], rfl, Nat.le_refl _, by simp⟩ ?hreq turn_list1 ?step ?done) (self_list S (by walk_at "mem"))
  case hreq => rintro j m2 P' ⟨ds, rfl, _⟩; walk_at "mem"
  case step =>
    rintro j m2 P' hj ⟨ds, rfl, hdl, hd0⟩ J hJ
    clear S
    simp only [List.length_map] at hj
    have hyi : (ys.map I).getD j .none = I (ys.getD j 0) := by simp [List.getD, hj]
    show All ((ys.map I).getD j .none) _
    rw [hyi]
    intro t s S
    change Sim w s₀ C _ _ _ at S
    dsimp only [List.nil_append, List.cons_append] at S
    walk_at "go"
    rw [if_pos rfl]
    walk_at "go"
    refine o_pow S (by decide) (by decide) ?_
    clear S; intro t s S
    walk_at "go"
    refine ⟨rfl, _, _, S.to (Q := (it, .liter D (j + 1)) :: (a, .list ((ds ++ [(ys.getD j 0).fmod (10 ^ (6 : Int).toNat)]).map I)) :: (D, .list (ys.map I)) :: (L, .frame [(Str.ofString "script", .ref la)]) :: (L + 1, .cell none) :: TB) ?_, hJ _ _ ⟨_, rfl, ?_, ?_⟩⟩
    · rw [List.map_append]; walk_at "sub"
    · rw [List.length_append]; simp; omega
    · intro x hx
      rcases List.mem_append.mp hx with hx | hx
      · exact hd0 x hx
      · rw [List.mem_singleton.mp hx]; exact Int.fmod_nonneg_of_pos _ (by decide)
  case done =>
    clear S
    rintro m2 P' s ⟨ds, rfl, hdl, hd0⟩ S
    change Sim w s₀ C _ _ _ at S
    simp only [List.length_map] at hdl
    refine comp_end S (L := L) (m := [(Str.ofString "script", .ref la)]) (P' := (a, .list (ds.map I)) :: (L + 1, .cell none) :: TB) (by walk_at "sub") ?_
    clear S; intro s S
    revert a; intro da S
    walk_at "go"
    rename_i sa0 _ _ _
    revert e it a; intro e it a S
    replace S : ∃ sa, Sim w s₀ C [] ((e, .en it (0 : Nat)) :: (it, .liter sa 0) :: (a, .list (List.map I [])) :: (sa, .list ([0, 0, 1, 1, 2, 2, 7, 3, 8, 4, 9, 5, 10, 6].map I)) :: (L, MO.frame [(Str.ofString "seeds", .ref sa), (Str.ofString "script", .ref la)]) :: (da, .list (ds.map I)) :: (L + 1, .cell (some (.ref da))) :: TB) s := ⟨_, S.to (by walk_at "sub")⟩
    obtain ⟨sa, S⟩ := S
    generalize hsd : ([0, 0, 1, 1, 2, 2, 7, 3, 8, 4, 9, 5, 10, 6] : List Int) = sd at *
    have hsl : sd.length = 14 := by rw [← hsd]; rfl
    clear hsd
    obtain ⟨R, hR⟩ : ∃ R : Led, R = (L, MO.frame [(Str.ofString "seeds", .ref sa), (Str.ofString "script", .ref la)]) :: (da, .list (ds.map I)) :: (L + 1, .cell (some (.ref da))) :: TB := ⟨_, rfl⟩
    have R1 : (L + 1, MO.cell (some (.ref da))) ∈ R := by rw [hR]; walk_at "mem"
    have R2 : (da, MO.list (ds.map I)) ∈ R := by rw [hR]; walk_at "mem"
    rw [← hR] at S
    refine comp_start rfl (comp_code (src_enum k.h (a := sa) (xs := sd.map I) .none) (fun j m2 P' => ∃ gs : List Int, P' = (a, .list (gs.map I)) :: (sa, .list (sd.map I)) :: R ∧ gs.length = j) S ⟨[], rfl, rfl⟩ ?hreq2 turn_list1 ?step2 ?done2) (self_enum S (by walk_at "mem"))
    case hreq2 => rintro j m2 P' ⟨gs, rfl, _⟩; walk_at "mem"
    case step2 =>
      rintro j m2 P' hj ⟨gs, rfl, hgl⟩ J hJ
      clear S
      simp only [List.length_map] at hj
      have hyi : (sd.map I).getD j .none = I (sd.getD j 0) := by simp [List.getD, hj]
      intro tp s S
      rw [hyi] at S
      change Sim w s₀ C _ _ _ at S
      dsimp only [List.nil_append, List.cons_append] at S
      walk_at "go"
      rw [if_pos rfl]
      walk_at "go"
      obtain ⟨ms, hms⟩ := pick_ints ds (some (j : Int)) (some ((j : Int) + 1)) none
      rw [hms] at S
      walk_at "go"
      refine ⟨rfl, _, _, S.to (Q := (e, .en it (j + 1 : Nat)) :: (it, .liter sa (j + 1)) :: (a, .list ((gs ++ [sd.getD j 0 + ms.sum]).map I)) :: (sa, .list (sd.map I)) :: R) ?_, hJ _ _ ⟨_, rfl, ?_⟩⟩
      · rw [List.map_append]; walk_at "sub"
      · rw [List.length_append]; simp; omega
    case done2 =>
      clear S
      rintro m2 P' s ⟨gs, rfl, hgl⟩ S
      change Sim w s₀ C _ _ _ at S
      simp only [List.length_map, hsl] at hgl
      refine comp_use S (L := L) (m := [(Str.ofString "seeds", .ref sa), (Str.ofString "script", .ref la)]) (P' := (a, .list (gs.map I)) :: (da, .list (ds.map I)) :: (L + 1, .cell (some (.ref da))) :: TB) (by rw [hR]; walk_at "sub") ?_
      clear S; intro s S
      rw [hTB] at S
      exact law_end GMm C1 C2 k hfr hk0 hF0 S hgl (Nat.le_trans hdl htk) hd0
end

theorem nd4 (n : Nat) (h : 198 < n ∧ 191 < n) : [n, n + 1, 191, 198].Nodup := by
  simp only [List.nodup_cons, List.mem_cons, List.mem_nil_iff, or_false, not_or, List.not_mem_nil, not_false_eq_true, List.nodup_nil, and_true]
  omega
local macro_rules | `(tactic| k_qdec) => `(tactic| decide +kernel)
theorem grown_of {w : World} {s₀ s : Shared} {L : Addr} {m : List (Str × Value)} {P : Led} {Pt : Addr} {pos : Pos} {t : Option (Addr × Obj)} (S : Sim w s₀ L m P s) (h : ∀ p ∈ tabLed Pt pos t, p ∈ P) : GrownAt Pt s.heap := by
  cases t with
  | none =>
    obtain ⟨o, h1, h2, _⟩ := S.get (h (Pt, .raw (tabObj #[])) (.head _))
    cases h2; exact ⟨_, h1⟩
  | some x =>
    obtain ⟨c', oc⟩ := x
    obtain ⟨o, h1, h2, _⟩ := S.get (h (Pt, .raw (tabObj (tab1 pos c'))) (.head _))
    cases h2; exact ⟨_, h1⟩
theorem law_goal : PySem.Challenge.rw_om0095_01.Holds := Mine.hd (by
  k_go0
  rename_i w s₀ s₁ mg mb G₀ Y fa o pm cd doc ho hcd hg X V TT B TE TW ns hs hlay0 hL1 hr1 hl2 w5 w4 la vs w1 hL ra w1' r0 hI hr hc1 hc0 hD h₁ tk₁ o0 r00 X0 X' T' K' F' codeHd1 N' l0
  obtain ⟨s2, hs2⟩ : ∃ s2 : Shared, s2 = { s₁ with heap := ghostOf s₁.heap [(202, 198), (195, 191)] } := ⟨_, rfl⟩
  have S : Sim w s2 s₁.heap.objs.size [(Str.ofString "script", .ref la)] ((s₁.heap.objs.size + 1, .cell none) :: (tabLed 191 posT none ++ tabLed 198 posF none)) { s₁ with heap := h₁, toks := tk₁ } := by
    subst hs2
    have hsz : (ghostOf s₁.heap [(202, 198), (195, 191)]).objs.size ≤ s₁.heap.objs.size := F'.above
    refine ⟨⟨rfl, rfl⟩, F'.keep, ?_, ?_⟩
    · refine List.forall_mem_cons.mpr ⟨?_, List.forall_mem_cons.mpr ⟨?_, List.forall_mem_cons.mpr ⟨?_, List.forall_mem_cons.mpr ⟨?_, List.forall_mem_nil _⟩⟩⟩⟩
      · obtain ⟨ob, q1, q2⟩ := frame_rel (w := w) (m := [(Str.ofString "script", .ref la)]) F'.ns (by walk_at "vars")
        refine ⟨ob, q1, q2, ?_, Nat.lt_trans (show 2 < 198 by decide) l0.1, fun _ _ => hsz⟩
        cases e : (ghostOf s₁.heap [(202, 198), (195, 191)]).get? s₁.heap.objs.size with
        | none => rfl
        | some o => exact absurd (Heap.lt_size e) (Nat.not_lt.mpr hsz)
      · exact ⟨o0, (N' _ (.head _)).1, ⟨_, r00, rfl⟩, (N' _ (.head _)).2.2, Nat.lt_succ_of_lt (Nat.lt_trans (show 2 < 198 by decide) l0.1), fun m e => by cases e⟩
      · exact ⟨_, (N' _ (.tail _ (.tail _ (.head _)))).1, rfl, (N' _ (.tail _ (.tail _ (.head _)))).2.2, by decide, fun m e => by cases e⟩
      · exact ⟨_, (N' _ (.tail _ (.head _))).1, rfl, (N' _ (.tail _ (.head _))).2.2, by decide, fun m e => by cases e⟩
    · exact nd4 _ l0
  have G : Gr (K w) s2.heap := by subst hs2; exact ⟨X', _, _, _, _, topRead_of T'⟩
  have GMm : GM (K w) s2.heap := by
    refine ⟨G, ?_⟩
    subst hs2
    obtain ⟨bm, ob, a1, a2, a3, a4, a5, a6⟩ := T'.bmain
    refine ⟨mg, bm, ob, T'.g, a1, a2, fun e => ?_, a3, a4, a5, a6⟩
    obtain ⟨og, es, ep, b1, b2, _⟩ := T'.g
    rw [e] at a3
    have := a3.symm.trans b1
    cases this
    rw [a6] at b2
    cases b2
  have C1 : CodeHd s2.heap 195 191 := by subst hs2; exact codeHd
  have C2 : CodeHd s2.heap 202 198 := by subst hs2; exact codeHd1
  have hLs : s2.heap.IsList la vs.toArray := by subst hs2; exact lifted
  have hge : s2.gens = s₁.gens ∧ s2.os = s₁.os := by subst hs2; exact ⟨rfl, rfl⟩
  clear X0 N' F' T' X' K' r00 o0
  generalize hA0 : callerA.deeper _ = A
  have k : OK A 20 := by subst hA0; exact ⟨rfl, by show 1 + claimMargin + 1 + 20 ≤ 900; decide, by show 4 + 3 + 20 * 20 ≤ 9000; decide⟩
  obtain ⟨env0, hfr, hk0, hF0⟩ : ∃ e, A.frames = some [e] ∧ e.scope.kind ≠ .module ∧ e.frame = some s₁.heap.objs.size := by
    subst hA0
    exact ⟨_, rfl, by show ScopeKind.function ≠ ScopeKind.module; decide, rfl⟩
  generalize hL0 : s₁.heap.objs.size = L at *
  have hvs : vs.length ≤ 63 := by have := hI.length; omega
  have hve : vs.map er = ns.map I := of_ints hI
  change wpAny _ A (execs (Stmt.Assign _ _ _ :: _) _) _ _ _
  generalize hs1 : ({ s₁ with heap := h₁, toks := tk₁ } : Shared) = s at S ⊢
  refine wpAny_mono (Q := fun f s' => f = .ret (.bool true) ∧ ∃ m P t1 t2, Sim w s2 L m (tabLed 191 posT t1 ++ (tabLed 198 posF t2 ++ P)) s') (E := noE) ?main (fun f s' hq => ?fin) fun _ _ x => x.elim
  case fin =>
    obtain ⟨rfl, mE, PE, t1, t2, SE⟩ := hq
    refine ⟨⟨.inl ⟨.bool true, .bool true, [], rfl, ?_, ReadsW.bool true, ?_, fun _ => ⟨.nil, fun a ha => by cases ha⟩⟩, ?_, ?_, ?_⟩, ?_⟩
    · intro cls; rfl
    · refine postW_of (X := (true == true)) (show WShape.has [] (.bool true) .bool = true by decide +kernel) (w_eq_bool (a := .res) (b := .lit (.bool true)) ?_ ?_) rfl
      · simp only [WTm.value]
      · simp only [WTm.value]
    · have := SE.keep; subst hs2; exact this
    · exact SE.eq.1.trans hge.2
    · exact (SE.eq.2.trans hge.1).trans hg
    · exact ⟨grown_of (pos := posF) (t := t2) SE (fun p hp => List.mem_append_right _ (List.mem_append_left _ hp)), grown_of (pos := posT) (t := t1) SE (fun p hp => List.mem_append_left _ hp), trivial⟩
  exact law_body GMm C1 C2 k hfr hk0 hF0 S hLs hvs hve)

end Mine
theorem PySem.Challenge.cw_om0095_01_holds : PySem.Challenge.rw_om0095_01.Holds :=
  Mine.law_goal
