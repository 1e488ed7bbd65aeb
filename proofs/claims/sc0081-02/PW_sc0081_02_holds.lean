import PyProof.Rows.All
import Wide.All
import OpenK.AllK
import Wide.FinOn
import Lean
import PySem.Challenge.RW_sc0081_02
open PySem PySem.W PyProof.Rows
set_option Elab.async false
set_option maxRecDepth 100000
set_option compiler.extract_closed false
set_option genSizeOfSpec false
set_option genInjectivity false
theorem Mine.ffE {P : Prop} (h : false = true) : P := Bool.noConfusion h
theorem Mine.tfE {P : Prop} (h : true = false) : P := Bool.noConfusion h
local macro_rules | `(tactic| kt_len) => `(tactic| first | decide | exact Nat.lt_of_lt_of_le (by assumption) (by decide) | omega)
local macro_rules | `(tactic| kt_eqs) => `(tactic| first | exact Mine.ffE | exact Mine.tfE | exact nofun)
namespace Mine
inductive D where
  | none | bool (b : Bool) | int (i : Int) | float (x : UInt64) | str (s : Str)
  | tup (xs : List D) | lst (xs : List D) | rng (lo hi st : Int) | val (v : Value) | obj (a : Addr)
mutual
inductive VR (Z : Heap) : D → Value → Prop
  | none : VR Z .none .none
  | bool (b : Bool) : VR Z (.bool b) (.bool b)
  | int (i : Int) (t : Tok) : VR Z (.int i) (.int i t)
  | float (x : UInt64) (t : Tok) (h : t ≠ 0) : VR Z (.float x) (.float x t)
  | str (x : Str) (t : Tok) : VR Z (.str x) (.str x t)
  | tup {a : Addr} {vs : Array Value} {xs : List D} (h : Z.IsTuple a vs) (r : VRs Z xs vs.toList) : VR Z (.tup xs) (.ref a)
  | lst {a : Addr} {vs : Array Value} {xs : List D} (h : Z.IsList a vs) (r : VRs Z xs vs.toList) : VR Z (.lst xs) (.ref a)
  | rng {a : Addr} {lo hi st : Int} {t u v : Tok} (h : IsRange Z a lo hi st t u v) : VR Z (.rng lo hi st) (.ref a)
  | val (v : Value) : VR Z (.val v) v
  | obj (a : Addr) : VR Z (.obj a) (.ref a)
inductive VRs (Z : Heap) : List D → List Value → Prop
  | nil : VRs Z [] []
  | cons {d : D} {v : Value} {ds : List D} {vs : List Value} (h : VR Z d v) (t : VRs Z ds vs) : VRs Z (d :: ds) (v :: vs)
end
theorem isTuple_keeps {Z Z' : Heap} (k : Z.StaysIn Z') {a : Addr} {vs : Array Value} (h : Z.IsTuple a vs) : Z'.IsTuple a vs :=
  let ⟨o, e, r⟩ := h; ⟨o, k _ _ e, r⟩
theorem isList_keeps {Z Z' : Heap} (k : Z.StaysIn Z') {a : Addr} {vs : Array Value} (h : Z.IsList a vs) : Z'.IsList a vs :=
  let ⟨o, e, r⟩ := h; ⟨o, k _ _ e, r⟩
theorem isRange_keeps {Z Z' : Heap} (k : Z.StaysIn Z') {a : Addr} {lo hi st : Int} {t u v : Tok} (h : IsRange Z a lo hi st t u v) : IsRange Z' a lo hi st t u v :=
  k _ _ h
mutual
theorem VR.mono {Z Z' : Heap} (k : Z.StaysIn Z') : ∀ {d : D} {v : Value}, VR Z d v → VR Z' d v
  | _, _, .none => .none
  | _, _, .bool b => .bool b
  | _, _, .int i t => .int i t
  | _, _, .float i t h => .float i t h
  | _, _, .str i t => .str i t
  | _, _, .tup h r => .tup (isTuple_keeps k h) (VRs.mono k r)
  | _, _, .lst h r => .lst (isList_keeps k h) (VRs.mono k r)
  | _, _, .rng h => .rng (isRange_keeps k h)
  | _, _, .val v => .val v
  | _, _, .obj a => .obj a
theorem VRs.mono {Z Z' : Heap} (k : Z.StaysIn Z') : ∀ {d : List D} {v : List Value}, VRs Z d v → VRs Z' d v
  | _, _, .nil => .nil
  | _, _, .cons h t => .cons (VR.mono k h) (VRs.mono k t)
end
theorem VRs.length {Z : Heap} : ∀ {d : List D} {v : List Value}, VRs Z d v → d.length = v.length
  | _, _, .nil => rfl
  | _, _, .cons _ t => congrArg (· + 1) (VRs.length t)
theorem VRs.get {Z : Heap} : ∀ {ds : List D} {vs : List Value} (i : Nat) {d : D}, VRs Z ds vs → ds[i]? = some d → ∃ v, vs[i]? = some v ∧ VR Z d v
  | _, _, _, _, .nil, e => by simp at e
  | _, _, 0, _, .cons h _, e => by simp at e; subst e; exact ⟨_, rfl, h⟩
  | _, _, i + 1, _, .cons _ t, e => by simpa using VRs.get i t (by simpa using e)
theorem VRs.append {Z : Heap} : ∀ {ds es : List D} {vs ws : List Value}, VRs Z ds vs → VRs Z es ws → VRs Z (ds ++ es) (vs ++ ws)
  | _, _, _, _, .nil, e => e
  | _, _, _, _, .cons h t, e => .cons h (VRs.append t e)
theorem VRs.take {Z : Heap} : ∀ {ds : List D} {vs : List Value} (n : Nat), VRs Z ds vs → VRs Z (ds.take n) (vs.take n)
  | _, _, 0, _ => by simpa using VRs.nil
  | _, _, n + 1, .nil => by simpa using VRs.nil
  | _, _, n + 1, .cons h t => by simpa using VRs.cons h (VRs.take n t)
theorem VRs.drop {Z : Heap} : ∀ {ds : List D} {vs : List Value} (n : Nat), VRs Z ds vs → VRs Z (ds.drop n) (vs.drop n)
  | _, _, 0, h => by simpa using h
  | _, _, n + 1, .nil => by simpa using VRs.nil
  | _, _, n + 1, .cons h t => by simpa using VRs.drop n t
theorem VRs.set {Z : Heap} {d : D} {v : Value} (hd : VR Z d v) : ∀ {ds : List D} {vs : List Value} (n : Nat), VRs Z ds vs → VRs Z (ds.set n d) (vs.set n v)
  | _, _, _, .nil => by simpa using VRs.nil
  | _, _, 0, .cons h t => by simpa using VRs.cons hd t
  | _, _, n + 1, .cons h t => by simpa using VRs.cons h (VRs.set hd n t)
inductive OR (Z : Heap) : Option D → Option Value → Prop
  | none : OR Z none none
  | some {d : D} {v : Value} (h : VR Z d v) : OR Z (some d) (some v)
theorem OR.mono {Z Z' : Heap} (k : Z.StaysIn Z') {d : Option D} {v : Option Value} : OR Z d v → OR Z' d v
  | .none => .none
  | .some h => .some (h.mono k)
inductive Cell where
  | ns (m : List (Str × Option D))
  | dct (m : List (Str × Option D)) (k : Nat)
  | cell (v : Option D)
  | list (xs : List D)
  | iter (xs : List D)
  | raw (o : Obj)
inductive IterR (Z : Heap) : List D → Obj → Prop
  | list {a : Addr} {vs : Array Value} {i : Nat} {xs : List D} {o : Obj} (h : Z.IsList a vs) (hc : o.cls = .type "list_iterator") (hd : o.data = .fields #[.ref a, .int i 0]) (r : VRs Z xs (vs.toList.drop i)) : IterR Z xs o
  | tuple {a : Addr} {vs : Array Value} {i : Nat} {xs : List D} {o : Obj} (h : Z.IsTuple a vs) (hc : o.cls = .type "tuple_iterator") (hd : o.data = .fields #[.ref a, .int i 0]) (r : VRs Z xs (vs.toList.drop i)) : IterR Z xs o
  | range {x n st : Int} {o : Obj} (ho : o = { cls := .type "range_iterator", dict := none, data := .fields #[rawInt x, rawInt n, rawInt st], slots := #[] }) (xs : List D) (r : xs = (List.range n.toNat).map fun (k : Nat) => D.int (x + k * st)) : IterR Z xs o
  | str {x : Str} {t : Tok} {i : Nat} {o : Obj} (ha : x.cps.all (· < 128) = true) (hc : o.cls = .type "str_ascii_iterator") (hd : o.data = .fields #[.str x t, .int i 0]) (xs : List D) (r : xs = (x.cps.toList.drop i).map fun c => D.str ⟨#[c]⟩) : IterR Z xs o
def CellR (Z : Heap) : Cell → Obj → Prop
  | .ns m, o => ∃ es ep, o.data = .dict es ep ∧ StrKeys es ∧ (m.map (·.1)).Nodup ∧ ∀ p ∈ m, OR Z p.2 (nsFind es p.1)
  | .dct m k, o => ∃ es ep, o.data = .dict es ep ∧ es.size ≤ k ∧ StrKeys es ∧ (m.map (·.1)).Nodup ∧ ∀ p ∈ m, OR Z p.2 (nsFind es p.1)
  | .cell d, o => ∃ v, o.data = .cell v ∧ OR Z d v
  | .list xs, o => ∃ vs n, o = { cls := .type "list", data := .seq vs n } ∧ VRs Z xs vs.toList
  | .iter xs, o => IterR Z xs o
  | .raw o', o => o = o'
theorem IterR.mono {Z Z' : Heap} (k : Z.StaysIn Z') {xs : List D} {o : Obj} : IterR Z xs o → IterR Z' xs o
  | .list h a b r => .list (isList_keeps k h) a b (r.mono k)
  | .tuple h a b r => .tuple (isTuple_keeps k h) a b (r.mono k)
  | .range a xs r => .range a xs r
  | .str z a b xs r => .str z a b xs r
theorem CellR.mono {Z Z' : Heap} (k : Z.StaysIn Z') : ∀ {c : Cell} {o : Obj}, CellR Z c o → CellR Z' c o
  | .ns _, _, h => let ⟨es, ep, a, b, c, r⟩ := h; ⟨es, ep, a, b, c, fun p hp => (r p hp).mono k⟩
  | .dct _ _, _, h => let ⟨es, ep, a, z, b, c, r⟩ := h; ⟨es, ep, a, z, b, c, fun p hp => (r p hp).mono k⟩
  | .cell _, _, h => let ⟨v, a, r⟩ := h; ⟨v, a, r.mono k⟩
  | .list _, _, h => let ⟨vs, n, a, r⟩ := h; ⟨vs, n, a, r.mono k⟩
  | .iter _, _, h => IterR.mono k h
  | .raw _, _, h => h
abbrev Led := List (Addr × Cell)
structure Gl where
  prog : Program
  w : World
  h₀ : Heap
  os : OsState
  gens : Array GenState
  mg : Str → Option Value
  ns : h₀.Ns mainGlobals mg
  mb : Str → Option Value
  bs : h₀.Ns builtinsNs mb
  lim : h₀.NoLimit
  K : Frag
  kin : K.In h₀
  bi : ∀ x : Str, x ≠ "__name__" → mb x = bootBuiltins x
  nb : NoneBooked h₀
  bm : ∃ bm ob, mg "__builtins__" = some (.ref bm) ∧ bm ≠ builtinsNs ∧ h₀.get? bm = some ob ∧ ob.cls = .type "module" ∧ ob.dict = some builtinsNs ∧ ob.data = .plain
structure St (G : Gl) (Z : Heap) (σ : Led) (s : Shared) : Prop where
  zin : Z.StaysIn s.heap
  base : G.h₀.StaysIn Z
  nod : (σ.map (·.1)).Nodup
  hid : ∀ p ∈ σ, Z.get? p.1 = none
  cells : ∀ p ∈ σ, ∃ o, s.heap.get? p.1 = some o ∧ CellR Z p.2 o
  os : s.os = G.os
  gens : s.gens = G.gens
  pos : 0 < s.toks
theorem St.tk {G : Gl} {Z : Heap} {σ : Led} {s : Shared} (S : St G Z σ s) : s.toks ≠ 0 := Nat.pos_iff_ne_zero.mp S.pos
theorem St.grow {G : Gl} {Z : Heap} {σ : Led} {s : Shared} (S : St G Z σ s) {h' : Heap} (k : s.heap.StaysIn h') (t : Tok) (ht : s.toks ≤ t := by first | exact Nat.le_refl _ | omega | assumption) : St G Z σ { s with heap := h', toks := t } where
  zin := fun b o e => k _ _ (S.zin b o e)
  base := S.base
  nod := S.nod
  hid := S.hid
  cells := fun p hp => let ⟨o, e, r⟩ := S.cells p hp; ⟨o, k _ _ e, r⟩
  os := S.os
  gens := S.gens
  pos := Nat.lt_of_lt_of_le S.pos ht
theorem St.toks {G : Gl} {Z : Heap} {σ : Led} {s : Shared} (S : St G Z σ s) (t : Tok) (ht : s.toks ≤ t := by first | exact Nat.le_refl _ | omega | assumption) : St G Z σ { s with toks := t } := S.grow (fun _ _ e => e) t ht
theorem St.frozen {G : Gl} {Z : Heap} {σ : Led} {s : Shared} (S : St G Z σ s) : Z.StaysIn (hideAll s.heap (σ.map (·.1))) := fun b o e =>
  hideAll_get _ (S.zin b o e) fun hm => by
    obtain ⟨p, hp, rfl⟩ := List.mem_map.mp hm
    rw [S.hid p hp] at e; cases e
theorem St.refresh {G : Gl} {Z : Heap} {σ : Led} {s : Shared} (S : St G Z σ s) : St G (hideAll s.heap (σ.map (·.1))) σ s where
  zin := fun b o e => of_hideAll _ e
  base := fun b o e => S.frozen b o (S.base b o e)
  nod := S.nod
  hid := fun p hp => hideAll_none _ (List.mem_map_of_mem hp)
  cells := fun p hp => let ⟨o, e, r⟩ := S.cells p hp; ⟨o, e, r.mono S.frozen⟩
  os := S.os
  gens := S.gens
  pos := S.pos
theorem St.notIn {G : Gl} {Z : Heap} {σ : Led} {s : Shared} (S : St G Z σ s) {a : Addr} (h : s.heap.get? a = none) : a ∉ σ.map (·.1) := fun hm => by
  obtain ⟨p, hp, rfl⟩ := List.mem_map.mp hm
  obtain ⟨o, e, _⟩ := S.cells p hp
  rw [h] at e; cases e
theorem size_none (h : Heap) : h.get? h.objs.size = none := by
  cases e : h.get? h.objs.size with
  | none => rfl
  | some o => exact absurd (Heap.lt_size e) (Nat.lt_irrefl _)
theorem St.more {G : Gl} {Z : Heap} {σ : Led} {s : Shared} (S : St G Z σ s) {h' : Heap} (k : s.heap.StaysIn h') (t : Tok) (ht : s.toks ≤ t := by first | exact Nat.le_refl _ | omega | assumption) :
    ∃ Z', Z.StaysIn Z' ∧ St G Z' σ { s with heap := h', toks := t } ∧ ∀ a o, h'.get? a = some o → s.heap.get? a = none → Z'.get? a = some o := by
  have S' := S.grow k t ht
  exact ⟨_, S'.frozen, S'.refresh, fun a o e n => hideAll_get _ e (S.notIn n)⟩
theorem St.sub {G : Gl} {Z : Heap} {σ σ' : Led} {s : Shared} (S : St G Z σ s) (h : σ'.Sublist σ) : St G Z σ' s where
  zin := S.zin
  base := S.base
  nod := (h.map _).nodup S.nod
  hid := fun p hp => S.hid p (h.subset hp)
  cells := fun p hp => S.cells p (h.subset hp)
  os := S.os
  gens := S.gens
  pos := S.pos
theorem St.perm {G : Gl} {Z : Heap} {σ σ' : Led} {s : Shared} (S : St G Z σ s) (h : σ'.Perm σ) : St G Z σ' s where
  zin := S.zin
  base := S.base
  nod := (h.map _).nodup_iff.mpr S.nod
  hid := fun p hp => S.hid p (h.subset hp)
  cells := fun p hp => S.cells p (h.subset hp)
  os := S.os
  gens := S.gens
  pos := S.pos
theorem St.add {G : Gl} {Z : Heap} {σ : Led} {s : Shared} (S : St G Z σ s) {h' : Heap} (k : s.heap.StaysIn h') (t : Tok) {a : Addr} {c : Cell} {o : Obj} (hn : s.heap.get? a = none)
    (ho : h'.get? a = some o) (hc : CellR Z c o) (ht : s.toks ≤ t := by first | exact Nat.le_refl _ | omega | assumption) : St G Z ((a, c) :: σ) { s with heap := h', toks := t } where
  zin := fun b o e => k _ _ (S.zin b o e)
  base := S.base
  nod := List.nodup_cons.mpr ⟨S.notIn hn, S.nod⟩
  hid := fun p hp => by
    rcases List.mem_cons.mp hp with rfl | hp
    · cases e : Z.get? a with
      | none => rfl
      | some o' => have := S.zin _ _ e; rw [hn] at this; cases this
    · exact S.hid p hp
  cells := fun p hp => by
    rcases List.mem_cons.mp hp with rfl | hp
    · exact ⟨o, ho, hc⟩
    · obtain ⟨o', e, r⟩ := S.cells p hp; exact ⟨o', k _ _ e, r⟩
  os := S.os
  gens := S.gens
  pos := Nat.lt_of_lt_of_le S.pos ht
theorem St.expose {G : Gl} {Z : Heap} {σ : Led} {s : Shared} (S : St G Z σ s) {a : Addr} {c : Cell} {o : Obj} (hz : Z.get? a = none) (hn : a ∉ σ.map (·.1)) (ho : s.heap.get? a = some o) (hc : CellR Z c o) : St G Z ((a, c) :: σ) s where
  zin := S.zin
  base := S.base
  nod := List.nodup_cons.mpr ⟨hn, S.nod⟩
  hid := fun p hp => by
    rcases List.mem_cons.mp hp with rfl | hp
    · exact hz
    · exact S.hid p hp
  cells := fun p hp => by
    rcases List.mem_cons.mp hp with rfl | hp
    · exact ⟨o, ho, hc⟩
    · exact S.cells p hp
  os := S.os
  gens := S.gens
  pos := S.pos
inductive UpdL (a : Addr) (c c' : Cell) : Led → Led → Prop
  | head (l : Led) : UpdL a c c' ((a, c) :: l) ((a, c') :: l)
  | tail (b : Addr) (d : Cell) {l l' : Led} (h : UpdL a c c' l l') : UpdL a c c' ((b, d) :: l) ((b, d) :: l')
theorem UpdL.app {a : Addr} {c c' : Cell} (τ : Led) : ∀ {σ σ' : Led}, UpdL a c c' σ σ' → UpdL a c c' (σ ++ τ) (σ' ++ τ)
  | _, _, .head _ => .head _
  | _, _, .tail b d h => .tail b d (UpdL.app τ h)
theorem UpdL.split {a : Addr} {c c' : Cell} : ∀ {σ σ' : Led}, UpdL a c c' σ σ' → ∃ σ₁ σ₂, σ = σ₁ ++ (a, c) :: σ₂ ∧ σ' = σ₁ ++ (a, c') :: σ₂
  | _, _, .head l => ⟨[], l, rfl, rfl⟩
  | _, _, .tail b d h => let ⟨x, y, e, f⟩ := UpdL.split h; ⟨(b, d) :: x, y, by rw [e]; rfl, by rw [f]; rfl⟩
theorem UpdL.mem {a : Addr} {c c' : Cell} {σ σ' : Led} (h : UpdL a c c' σ σ') : (a, c) ∈ σ := by
  obtain ⟨x, y, rfl, _⟩ := h.split; simp
theorem St.upd {G : Gl} {Z : Heap} {σ σ' : Led} {s : Shared} (S : St G Z σ s) {h' : Heap} {a : Addr} {c c' : Cell} (U : UpdL a c c' σ σ')
    (k : Heap.ExtBut a s.heap h') (t : Tok) {o : Obj} (ho : h'.get? a = some o) (hc : CellR Z c' o) (ht : s.toks ≤ t := by first | exact Nat.le_refl _ | omega | assumption) : St G Z σ' { s with heap := h', toks := t } := by
  obtain ⟨σ₁, σ₂, rfl, rfl⟩ := U.split
  have nod := S.nod
  simp only [List.map_append, List.map_cons] at nod
  have ne : ∀ p, p ∈ σ₁ ∨ p ∈ σ₂ → p.1 ≠ a := fun p hp e => by
    rw [List.nodup_append] at nod
    obtain ⟨_, n2, n3⟩ := nod
    rcases hp with hp | hp
    · exact n3 p.1 (List.mem_map_of_mem hp) a (List.mem_cons_self ..) e
    · exact (List.nodup_cons.mp n2).1 (e ▸ List.mem_map_of_mem hp)
  refine ⟨fun b o e => k b o (fun q => ?_) (S.zin b o e), S.base, by simpa only [List.map_append, List.map_cons] using nod, fun p hp => ?_, fun p hp => ?_, S.os, S.gens, Nat.lt_of_lt_of_le S.pos ht⟩
  · have := S.hid (a, c) (by simp); rw [← q, e] at this; cases this
  · rcases List.mem_append.mp hp with hp | hp
    · exact S.hid p (List.mem_append_left _ hp)
    · rcases List.mem_cons.mp hp with rfl | hp
      · exact S.hid (a, c) (by simp)
      · exact S.hid p (List.mem_append_right _ (.tail _ hp))
  · rcases List.mem_append.mp hp with hp | hp
    · obtain ⟨o', e, r⟩ := S.cells p (List.mem_append_left _ hp); exact ⟨o', k _ _ (ne p (.inl hp)) e, r⟩
    · rcases List.mem_cons.mp hp with rfl | hp
      · exact ⟨o, ho, hc⟩
      · obtain ⟨o', e, r⟩ := S.cells p (List.mem_append_right _ (.tail _ hp)); exact ⟨o', k _ _ (ne p (.inr hp)) e, r⟩
def Room (n : Nat) (A : Around) : Prop := A.handled = none ∧ A.depth + n < recursionLimit ∧ A.units + 10 * n + 100 < cLine
theorem Room.le {n m : Nat} {A : Around} (h : Room n A) (k : m ≤ n) : Room m A := ⟨h.1, by have := h.2.1; omega, by have := h.2.2; omega⟩
theorem Room.deeper {n : Nat} {A : Around} (h : Room (n + 1) A) (env : Env) : Room n (A.deeper env) :=
  ⟨h.1, by have := h.2.1; simp only [Around.deeper]; omega, by have := h.2.2; simp only [Around.deeper]; omega⟩
def W {α β : Type} (G : Gl) (n : Nat) (rel : Heap → β → α → Prop) (t : Sem α) (σ : Led) (Φ : β → Led → Prop) : Prop :=
  ∀ (τ : Led) (A : Around) (s : Shared) (Z : Heap) (E : Value → Shared → Prop) (Q : α → Shared → Prop), Room n A → St G Z (σ ++ τ) s →
    (∀ Z' d σ' v s', Z.StaysIn Z' → St G Z' (σ' ++ τ) s' → rel Z' d v → Φ d σ' → Q v s') → wpAny (model G.prog G.w) A t Q E s
def WI {α β : Type} (G : Gl) (n : Nat) (rel : Heap → β → α → Prop) (t : List Value → Sem α) (ds : List D) (σ : Led) (Φ : β → Led → Prop) : Prop :=
  ∀ (τ : Led) (A : Around) (s : Shared) (Z : Heap) (E : Value → Shared → Prop) (Q : α → Shared → Prop) (vs : List Value), Room n A → St G Z (σ ++ τ) s → VRs Z ds vs →
    (∀ Z' d σ' v s', Z.StaysIn Z' → St G Z' (σ' ++ τ) s' → rel Z' d v → Φ d σ' → Q v s') → wpAny (model G.prog G.w) A (t vs) Q E s
def W1 {α β : Type} (G : Gl) (n : Nat) (rel : Heap → β → α → Prop) (t : Value → Sem α) (a : D) (σ : Led) (Φ : β → Led → Prop) : Prop :=
  ∀ (τ : Led) (A : Around) (s : Shared) (Z : Heap) (E : Value → Shared → Prop) (Q : α → Shared → Prop) (v : Value), Room n A → St G Z (σ ++ τ) s → VR Z a v →
    (∀ Z' d σ' v s', Z.StaysIn Z' → St G Z' (σ' ++ τ) s' → rel Z' d v → Φ d σ' → Q v s') → wpAny (model G.prog G.w) A (t v) Q E s
def W2 {α β : Type} (G : Gl) (n : Nat) (rel : Heap → β → α → Prop) (t : Value → Value → Sem α) (a b : D) (σ : Led) (Φ : β → Led → Prop) : Prop :=
  ∀ (τ : Led) (A : Around) (s : Shared) (Z : Heap) (E : Value → Shared → Prop) (Q : α → Shared → Prop) (v w : Value), Room n A → St G Z (σ ++ τ) s → VR Z a v → VR Z b w →
    (∀ Z' d σ' v s', Z.StaysIn Z' → St G Z' (σ' ++ τ) s' → rel Z' d v → Φ d σ' → Q v s') → wpAny (model G.prog G.w) A (t v w) Q E s
def eqR {α : Type} (_ : Heap) (a b : α) : Prop := a = b
inductive AF where
  | next | brk | cont | ret (d : D)
inductive FR (Z : Heap) : AF → Flow → Prop
  | next : FR Z .next .next
  | brk : FR Z .brk .brk
  | cont : FR Z .cont .cont
  | ret {d : D} {v : Value} (h : VR Z d v) : FR Z (.ret d) (.ret v)
abbrev EV (G : Gl) (n : Nat) (env : Env) (e : Expr) := W G n VR (eval e env)
abbrev TE (G : Gl) (n : Nat) (env : Env) (e : Expr) := W G n (eqR (α := Bool)) (isTrue e env (eval e env))
abbrev X1 (G : Gl) (n : Nat) (env : Env) (st : Stmt) := W G n FR (exec st env)
abbrev XS (G : Gl) (n : Nat) (env : Env) (ss : List Stmt) := W G n FR (execs ss env)
abbrev EVs (G : Gl) (n : Nat) (env : Env) (es : List Expr) := W G n VRs (spliced (es.map fun e => (false, eval e env)))
theorem W.mono {α β : Type} {G : Gl} {n : Nat} {rel : Heap → β → α → Prop} {t : Sem α} {σ : Led} {Φ Ψ : β → Led → Prop} (h : W G n rel t σ Φ) (k : ∀ d σ', Φ d σ' → Ψ d σ') : W G n rel t σ Ψ :=
  fun τ A s Z E Q hR hS hQ => h τ A s Z E Q hR hS fun Z' d σ' v s' a b c p => hQ Z' d σ' v s' a b c (k _ _ p)
theorem W1.mono {α β : Type} {G : Gl} {n : Nat} {rel : Heap → β → α → Prop} {t : Value → Sem α} {a : D} {σ : Led} {Φ Ψ : β → Led → Prop} (h : W1 G n rel t a σ Φ) (k : ∀ d σ', Φ d σ' → Ψ d σ') : W1 G n rel t a σ Ψ :=
  fun τ A s Z E Q v hR hS hv hQ => h τ A s Z E Q v hR hS hv fun Z' d σ' v s' a b c p => hQ Z' d σ' v s' a b c (k _ _ p)
theorem WI.mono {α β : Type} {G : Gl} {n : Nat} {rel : Heap → β → α → Prop} {t : List Value → Sem α} {ds : List D} {σ : Led} {Φ Ψ : β → Led → Prop} (h : WI G n rel t ds σ Φ) (k : ∀ d σ', Φ d σ' → Ψ d σ') : WI G n rel t ds σ Ψ :=
  fun τ A s Z E Q vs hR hS hv hQ => h τ A s Z E Q vs hR hS hv fun Z' d σ' v s' a b c p => hQ Z' d σ' v s' a b c (k _ _ p)
theorem WI.le {α β : Type} {G : Gl} {n m : Nat} {rel : Heap → β → α → Prop} {t : List Value → Sem α} {ds : List D} {σ : Led} {Φ : β → Led → Prop} (h : WI G m rel t ds σ Φ) (k : m ≤ n) : WI G n rel t ds σ Φ :=
  fun τ A s Z E Q vs hR hS hv hQ => h τ A s Z E Q vs (hR.le k) hS hv hQ
theorem WI.frame {α β : Type} {G : Gl} {n : Nat} {rel : Heap → β → α → Prop} {t : List Value → Sem α} {ds : List D} {σ ρ : Led} {Φ : β → Led → Prop} (h : WI G n rel t ds σ fun d σ' => Φ d (σ' ++ ρ)) : WI G n rel t ds (σ ++ ρ) Φ :=
  fun τ A s Z E Q vs hR hS hv hQ => h (ρ ++ τ) A s Z E Q vs hR (by rwa [List.append_assoc] at hS) hv fun Z' d σ' v s' a b c p => hQ Z' d (σ' ++ ρ) v s' a (by rwa [List.append_assoc]) c p
theorem WI.perm {α β : Type} {G : Gl} {n : Nat} {rel : Heap → β → α → Prop} {t : List Value → Sem α} {ds : List D} {σ ρ : Led} {Φ : β → Led → Prop} (p : ρ.Perm σ) (h : WI G n rel t ds ρ Φ) : WI G n rel t ds σ Φ :=
  fun τ A s Z E Q vs hR hS hv hQ => h τ A s Z E Q vs hR (hS.perm (p.append_right τ)) hv hQ
theorem W.sub {α β : Type} {G : Gl} {n : Nat} {rel : Heap → β → α → Prop} {t : Sem α} {σ ρ : Led} {Φ : β → Led → Prop} (p : ρ.Sublist σ) (h : W G n rel t ρ Φ) : W G n rel t σ Φ :=
  fun τ A s Z E Q hR hS hQ => h τ A s Z E Q hR (hS.sub (p.append_right τ)) hQ
theorem tkw {α : Type} {M : Model} {A : Around} {s : Shared} {t : Sem α} {Q : α → Shared → Prop} {E : Value → Shared → Prop} (h : wpAny M A t (fun v s' => s.toks ≤ s'.toks → Q v s') E s) : wpAny M A t Q E s :=
  wpAny_with_toks (Nat.le_refl _) (wpAny_mono h (fun _ _ x => x) fun _ _ x _ => x)
end Mine
namespace Mine
theorem stt {Z Z' Z'' : Heap} (k : Z.StaysIn Z') (l : Z'.StaysIn Z'') : Z.StaysIn Z'' := fun b o e => l b o (k b o e)
theorem str (Z : Heap) : Z.StaysIn Z := fun _ _ e => e
structure EnvOK (env : Env) (L : Addr) (ks : List (Str × NameKind)) (cs : List (Str × Addr)) : Prop where
  loc : env.locals = L
  kind : env.scope.kind = .function
  glo : env.globals = mainGlobals
  bui : env.builtins = builtinsNs
  k : ∀ p ∈ ks, (p.2 = .local → env.kindOf p.1 = some .local) ∧ (p.2 = .cell ∨ p.2 = .free → env.kindOf p.1 = some .cell ∨ env.kindOf p.1 = some .free) ∧ (p.2 = .globalImplicit → env.kindOf p.1 = some .globalImplicit)
  kc : ∀ p ∈ ks, p.2 = .cell → env.kindOf p.1 = some .cell
  nd : ∀ p ∈ ks, (p.1 == ("__debug__" : Str)) = false ∧ (p.1 == ("__classdict__" : Str)) = false
  cs : ∀ p ∈ cs, env.cells.lookup p.1 = some p.2
def Has (G : Gl) (x : Str) (d : D) : Prop := ∃ v, (G.mg x = some v ∨ (G.mg x = none ∧ G.mb x = some v)) ∧ ∀ Z, VR Z d v
section
variable {G : Gl} {n : Nat} {env : Env} {L : Addr} {ks : List (Str × NameKind)} {cs : List (Str × Addr)} {σ : Led} {Φ : D → Led → Prop} {x : Str} {pos : Pos}
theorem St.ns {Z : Heap} {σ : Led} {s : Shared} (S : St G Z σ s) {m : List (Str × Option D)} (h : (L, Cell.ns m) ∈ σ) : ∃ mm, s.heap.Ns L mm ∧ (m.map (·.1)).Nodup ∧ ∀ p ∈ m, OR Z p.2 (mm p.1) := by
  obtain ⟨o, e, es, ep, hd, hk, hn, hm⟩ := S.cells _ h
  exact ⟨nsFind es, ⟨o, es, ep, e, hd, hk, fun _ => rfl⟩, hn, hm⟩
theorem ns_cell {Z : Heap} {h : Heap} {mm : Str → Option Value} (N : h.Ns L mm) {m : List (Str × Option D)} (hn : (m.map (·.1)).Nodup) (hm : ∀ p ∈ m, OR Z p.2 (mm p.1)) : ∃ o, h.get? L = some o ∧ CellR Z (.ns m) o := by
  obtain ⟨o, es, ep, e, hd, hk, hf⟩ := N
  exact ⟨o, e, es, ep, hd, hk, hn, fun p hp => by rw [hf]; exact hm p hp⟩
theorem ev_local {m : List (Str × Option D)} {d : D} (O : EnvOK env L ks cs) (hx : (x, NameKind.local) ∈ ks) (hm : (L, Cell.ns m) ∈ σ) (hd : (x, some d) ∈ m) (h : Φ d σ) : EV G n env (.Name x pos) σ Φ := by
  intro τ A s Z E Q hR hS hQ
  obtain ⟨mm, N, _, hf⟩ := hS.ns (List.mem_append_left τ hm)
  have hv := hf _ hd
  cases hmm : mm x with
  | none => dsimp only at hv; rw [hmm] at hv; cases hv
  | some v =>
    dsimp only at hv; rw [hmm] at hv; cases hv with
    | some hv => exact wpAny_Name (wpAny_loadName_local O.kind ((O.k _ hx).1 rfl) (O.loc ▸ N) hmm (hQ Z d σ v s (str Z) hS hv h)) (O.nd _ hx).1
theorem isCell_of {Z : Heap} {s : Shared} (S : St G Z σ s) {c : Addr} {d : Option D} (h : (c, Cell.cell d) ∈ σ) : ∃ v, s.heap.IsCell c v ∧ OR Z d v := by
  obtain ⟨o, e, v, hd, hv⟩ := S.cells _ h
  exact ⟨v, ⟨o, e, hd⟩, hv⟩
theorem load_cap {A : Around} {s : Shared} {E : Value → Shared → Prop} {Q : Value → Shared → Prop} {k : NameKind} {c : Addr} {v : Value} (O : EnvOK env L ks cs) (hx : (x, k) ∈ ks) (hk : k = .cell ∨ k = .free) (hc : (x, c) ∈ cs)
    (h : s.heap.IsCell c (some v)) (hQ : Q v s) : wpAny (model G.prog G.w) A (eval (.Name x pos) env) Q E s := by
  refine wpAny_Name ?_ (O.nd _ hx).1
  rcases (O.k _ hx).2.1 hk with q | q
  · exact wpAny_loadName_cell O.kind q (O.cs _ hc) h hQ
  · exact wpAny_loadName_free O.kind q (O.cs _ hc) h hQ (O.nd _ hx).2
theorem ev_cap {k : NameKind} {c : Addr} {d : D} (O : EnvOK env L ks cs) (hx : (x, k) ∈ ks) (hk : k = .cell ∨ k = .free) (hc : (x, c) ∈ cs) (hm : (c, Cell.cell (some d)) ∈ σ) (h : Φ d σ) : EV G n env (.Name x pos) σ Φ := by
  intro τ A s Z E Q hR hS hQ
  obtain ⟨v, hv, r⟩ := isCell_of hS (List.mem_append_left τ hm)
  cases r with
  | some r => exact load_cap O hx hk hc hv (hQ Z d σ _ s (str Z) hS r h)
theorem ev_glob {d : D} (O : EnvOK env L ks cs) (hx : (x, NameKind.globalImplicit) ∈ ks) (hg : Has G x d) (h : Φ d σ) : EV G n env (.Name x pos) σ Φ := by
  intro τ A s Z E Q hR hS hQ
  obtain ⟨v, hv, r⟩ := hg
  have k : G.h₀.StaysIn s.heap := stt hS.base hS.zin
  refine PySem.Calls.Name_function_global O.kind ((O.k _ hx).2.2 rfl) ?_ (O.nd _ hx).1
  rcases hv with e | ⟨e1, e2⟩
  · exact PySem.Calls.loadGlobal_global (O.glo ▸ G.ns.keeps k) e (hQ Z d σ v s (str Z) hS (r Z) h)
  · exact PySem.Calls.loadGlobal_builtin (O.glo ▸ G.ns.keeps k) e1 (O.bui ▸ G.bs.keeps k) e2 (hQ Z d σ v s (str Z) hS (r Z) h)
theorem ev_int {i : Int} {k : Nat} (h : Φ (.int i) σ) : EV G n env (.Constant (.int i) k pos) σ Φ :=
  fun _ _ _ Z _ _ _ hS hQ => wpAny_Constant_int (hQ Z _ σ _ _ (str Z) (hS.toks _) (.int _ _) h)
theorem ev_float {x : UInt64} {k : Nat} (h : Φ (.float x) σ) : EV G n env (.Constant (.float x) k pos) σ Φ :=
  fun _ _ _ Z _ _ _ hS hQ => wpAny_Constant_float (hQ Z _ σ _ _ (str Z) (hS.toks _) (.float _ _ hS.tk) h)
theorem ev_str {x : Str} {k : Nat} (h : Φ (.str x) σ) : EV G n env (.Constant (.str x) k pos) σ Φ :=
  fun _ _ _ Z _ _ _ hS hQ => wpAny_Constant_str (hQ Z _ σ _ _ (str Z) (hS.toks _) (.str _ _) h)
theorem ev_none {k : Nat} (h : Φ .none σ) : EV G n env (.Constant .none k pos) σ Φ :=
  fun _ _ _ Z _ _ _ hS hQ => wpAny_Constant_none (hQ Z _ σ _ _ (str Z) hS .none h)
end
section
variable {G : Gl} {n : Nat} {env : Env} {L : Addr} {ks : List (Str × NameKind)} {cs : List (Str × Addr)} {σ : Led} {Φ : D → Led → Prop} {pos : Pos}
abbrev BO (G : Gl) (n : Nat) (op : Operator) (a b : D) := W2 G n VR (binaryOp op) a b
abbrev IO (G : Gl) (n : Nat) (op : Operator) (a b : D) := W2 G n VR (inplaceOp op) a b
abbrev CO (G : Gl) (n : Nat) (op : CmpOp) (a b : D) := W2 G n VR (compareOp op) a b
abbrev TR (G : Gl) (n : Nat) (a : D) := W1 G n (eqR (α := Bool)) truthy a
abbrev UO (G : Gl) (n : Nat) (op : UnaryOp) (a : D) := W1 G n VR (unaryOp op) a
theorem ev_bin {l r : Expr} {op : Operator} (h : EV G n env l σ fun a σ₁ => EV G n env r σ₁ fun b σ₂ => BO G n op a b σ₂ Φ) : EV G n env (.BinOp l op r pos) σ Φ :=
  fun τ A s _ _ _ hR hS hQ => wpAny_BinOp (h τ A s _ _ _ hR hS fun _ _ _ va s1 k1 S1 ra p1 => p1 τ A s1 _ _ _ hR S1 fun _ _ _ vb s2 k2 S2 rb p2 =>
    p2 τ A s2 _ _ _ va vb hR S2 (ra.mono k2) rb fun _ _ _ v s3 k3 S3 r3 p3 => hQ _ _ _ v s3 (stt k1 (stt k2 k3)) S3 r3 p3)
theorem ev_cmp {l r : Expr} {op : CmpOp} (h : EV G n env l σ fun a σ₁ => EV G n env r σ₁ fun b σ₂ => CO G n op a b σ₂ Φ) (hm : behindInMarks op r = false := by with_unfolding_all rfl) : EV G n env (.Compare l [op] [r] pos) σ Φ :=
  fun τ A s _ _ _ hR hS hQ => wpAny_Compare1 (h τ A s _ _ _ hR hS fun _ _ _ va s1 k1 S1 ra p1 => p1 τ A s1 _ _ _ hR S1 fun _ _ _ vb s2 k2 S2 rb p2 =>
    p2 τ A s2 _ _ _ va vb hR S2 (ra.mono k2) rb fun _ _ _ v s3 k3 S3 r3 p3 => hQ _ _ _ v s3 (stt k1 (stt k2 k3)) S3 r3 p3) hm
theorem ev_if {t b o : Expr} (h : TE G n env t σ fun c σ₁ => (c = true → EV G n env b σ₁ Φ) ∧ (c = false → EV G n env o σ₁ Φ)) : EV G n env (.IfExp t b o pos) σ Φ :=
  fun τ A s _ _ _ hR hS hQ => wpAny_IfExp (h τ A s _ _ _ hR hS fun _ c _ v s1 k1 S1 (e : c = v) p1 => by
    subst e
    cases c with
    | true => exact p1.1 rfl τ A s1 _ _ _ hR S1 fun _ _ _ v s3 k3 S3 r3 p3 => hQ _ _ _ v s3 (stt k1 k3) S3 r3 p3
    | false => exact p1.2 rfl τ A s1 _ _ _ hR S1 fun _ _ _ v s3 k3 S3 r3 p3 => hQ _ _ _ v s3 (stt k1 k3) S3 r3 p3)
theorem ev_and {x y : Expr} (h : EV G n env x σ fun a σ₁ => TR G n a σ₁ fun c σ₂ => (c = true → EV G n env y σ₂ Φ) ∧ (c = false → Φ a σ₂)) : EV G n env (.BoolOp .And [x, y] pos) σ Φ :=
  fun τ A s _ _ _ hR hS hQ => wpAny_And2 (h τ A s _ _ _ hR hS fun _ a _ va s1 k1 S1 ra p1 => p1 τ A s1 _ _ _ va hR S1 ra fun _ c _ v s2 k2 S2 (e : c = v) p2 => by
    subst e
    cases c with
    | true => exact p2.1 rfl τ A s2 _ _ _ hR S2 fun _ _ _ v s3 k3 S3 r3 p3 => hQ _ _ _ v s3 (stt k1 (stt k2 k3)) S3 r3 p3
    | false => exact hQ _ _ _ va s2 (stt k1 k2) S2 (ra.mono k2) (p2.2 rfl))
theorem ev_or {x y : Expr} (h : EV G n env x σ fun a σ₁ => TR G n a σ₁ fun c σ₂ => (c = true → Φ a σ₂) ∧ (c = false → EV G n env y σ₂ Φ)) : EV G n env (.BoolOp .Or [x, y] pos) σ Φ :=
  fun τ A s _ _ _ hR hS hQ => wpAny_Or2 (h τ A s _ _ _ hR hS fun _ a _ va s1 k1 S1 ra p1 => p1 τ A s1 _ _ _ va hR S1 ra fun _ c _ v s2 k2 S2 (e : c = v) p2 => by
    subst e
    cases c with
    | true => exact hQ _ _ _ va s2 (stt k1 k2) S2 (ra.mono k2) (p2.1 rfl)
    | false => exact p2.2 rfl τ A s2 _ _ _ hR S2 fun _ _ _ v s3 k3 S3 r3 p3 => hQ _ _ _ v s3 (stt k1 (stt k2 k3)) S3 r3 p3)
end
section
variable {G : Gl} {n : Nat} {env : Env} {L : Addr} {ks : List (Str × NameKind)} {cs : List (Str × Addr)} {σ : Led} {Φ : Bool → Led → Prop} {pos : Pos}
theorem te_cmp {l r : Expr} {op : CmpOp} (h : EV G n env l σ fun a σ₁ => EV G n env r σ₁ fun b σ₂ => CO G n op a b σ₂ fun c σ₃ => TR G n c σ₃ Φ) (hm : behindInMarks op r = false := by with_unfolding_all rfl) : TE G n env (.Compare l [op] [r] pos) σ Φ :=
  fun τ A s _ _ _ hR hS hQ => wpAny_isTrue_Compare1 (h τ A s _ _ _ hR hS fun _ _ _ va s1 k1 S1 ra p1 => p1 τ A s1 _ _ _ hR S1 fun _ _ _ vb s2 k2 S2 rb p2 =>
    p2 τ A s2 _ _ _ va vb hR S2 (ra.mono k2) rb fun _ _ _ v s3 k3 S3 r3 p3 => p3 τ A s3 _ _ _ v hR S3 r3 fun _ _ _ v4 s4 k4 S4 r4 p4 => hQ _ _ _ v4 s4 (stt k1 (stt k2 (stt k3 k4))) S4 r4 p4) hm
theorem te_not {x : Expr} (h : TE G n env x σ fun c σ₁ => Φ (!c) σ₁) : TE G n env (.UnaryOp .Not x pos) σ Φ :=
  fun τ A s _ _ _ hR hS hQ => wpAny_isTrue_Not (h τ A s _ _ _ hR hS fun _ c _ v s1 k1 S1 (e : c = v) p1 => by subst e; exact hQ _ (!c) _ (!c) s1 k1 S1 rfl p1)
theorem te_val {x : Expr} (h : EV G n env x σ fun a σ₁ => TR G n a σ₁ Φ) (he : isTrue x env (eval x env) = (do let v ← eval x env; standAt x.pos; holding [v] (truthy v)) := by rfl) : TE G n env x σ Φ :=
  fun τ A s _ _ _ hR hS hQ => wpAny_isTrue_value (h τ A s _ _ _ hR hS fun _ _ _ va s1 k1 S1 ra p1 => p1 τ A s1 _ _ _ va hR S1 ra fun _ _ _ v s3 k3 S3 r3 p3 => hQ _ _ _ v s3 (stt k1 k3) S3 r3 p3) he
abbrev TAll (G : Gl) (n : Nat) (env : Env) (op : BoolOp) (es : List Expr) := W G n (eqR (α := Bool)) (allTrue op es env)
theorem te_bool {op : BoolOp} {es : List Expr} (h : TAll G n env op es σ Φ) : TE G n env (.BoolOp op es pos) σ Φ :=
  fun τ A s _ _ _ hR hS hQ => wpAny_isTrue_BoolOp (h τ A s _ _ _ hR hS hQ)
theorem ta_nil_and (h : Φ true σ) : TAll G n env .And [] σ Φ := fun _ _ s _ _ _ _ hS hQ => wpAny_allTrue_And_nil (hQ _ _ _ _ s (str _) hS rfl h)
theorem ta_nil_or (h : Φ false σ) : TAll G n env .Or [] σ Φ := fun _ _ s _ _ _ _ hS hQ => wpAny_allTrue_Or_nil (hQ _ _ _ _ s (str _) hS rfl h)
theorem ta_and {x : Expr} {r : List Expr} (h : TE G n env x σ fun c σ₁ => (c = true → TAll G n env .And r σ₁ Φ) ∧ (c = false → Φ false σ₁)) : TAll G n env .And (x :: r) σ Φ :=
  fun τ A s _ _ _ hR hS hQ => wpAny_allTrue_And_cons (h τ A s _ _ _ hR hS fun _ c _ v s1 k1 S1 (e : c = v) p1 => by
    subst e
    cases c with
    | true => exact p1.1 rfl τ A s1 _ _ _ hR S1 fun _ _ _ v s3 k3 S3 r3 p3 => hQ _ _ _ v s3 (stt k1 k3) S3 r3 p3
    | false => exact hQ _ _ _ _ s1 k1 S1 rfl (p1.2 rfl))
theorem ta_or {x : Expr} {r : List Expr} (h : TE G n env x σ fun c σ₁ => (c = true → Φ true σ₁) ∧ (c = false → TAll G n env .Or r σ₁ Φ)) : TAll G n env .Or (x :: r) σ Φ :=
  fun τ A s _ _ _ hR hS hQ => wpAny_allTrue_Or_cons (h τ A s _ _ _ hR hS fun _ c _ v s1 k1 S1 (e : c = v) p1 => by
    subst e
    cases c with
    | true => exact hQ _ _ _ _ s1 k1 S1 rfl (p1.1 rfl)
    | false => exact p1.2 rfl τ A s1 _ _ _ hR S1 fun _ _ _ v s3 k3 S3 r3 p3 => hQ _ _ _ v s3 (stt k1 k3) S3 r3 p3)
end
inductive UpdN (x : Str) (v : Option D) : List (Str × Option D) → List (Str × Option D) → Prop
  | head (o : Option D) (l : List (Str × Option D)) : UpdN x v ((x, o) :: l) ((x, v) :: l)
  | tail (p : Str × Option D) {l l' : List (Str × Option D)} (h : UpdN x v l l') : UpdN x v (p :: l) (p :: l')
theorem UpdN.keys {x : Str} {v : Option D} : ∀ {m m' : List (Str × Option D)}, UpdN x v m m' → m'.map (·.1) = m.map (·.1)
  | _, _, .head _ _ => rfl
  | _, _, .tail p h => by simp only [List.map_cons, UpdN.keys h]
theorem UpdN.mem {x : Str} {v : Option D} : ∀ {m m' : List (Str × Option D)}, UpdN x v m m' → x ∈ m.map (·.1)
  | _, _, .head _ _ => List.mem_cons_self ..
  | _, _, .tail _ h => List.mem_cons_of_mem _ (UpdN.mem h)
theorem UpdN.or {Z : Heap} {x : Str} {v : Option D} {w : Option Value} {mm : Str → Option Value} (hw : OR Z v w) : ∀ {m m' : List (Str × Option D)}, UpdN x v m m' → (m.map (·.1)).Nodup →
    (∀ p ∈ m, OR Z p.2 (mm p.1)) → ∀ p ∈ m', OR Z p.2 (if p.1 = x then w else mm p.1)
  | _, _, .head o l, nd, h, p, hp => by
    simp only [List.map_cons] at nd
    rcases List.mem_cons.mp hp with rfl | hp
    · rw [if_pos rfl]; exact hw
    · rw [if_neg fun (e : p.1 = x) => (List.nodup_cons.mp nd).1 (e ▸ List.mem_map_of_mem hp)]; exact h p (.tail _ hp)
  | _, _, .tail q u, nd, h, p, hp => by
    simp only [List.map_cons] at nd
    rcases List.mem_cons.mp hp with rfl | hp
    · rw [if_neg fun (e : p.1 = x) => (List.nodup_cons.mp nd).1 (e ▸ u.mem)]; exact h _ (.head _)
    · exact u.or hw (List.nodup_cons.mp nd).2 (fun p hp => h p (.tail _ hp)) p hp
abbrev AS (G : Gl) (n : Nat) (env : Env) (t : Expr) (d : D) (σ : Led) (Φ : Led → Prop) := W1 G n (fun _ (_ _ : Unit) => True) (assign t env) d σ fun _ σ' => Φ σ'
section
variable {G : Gl} {n : Nat} {env : Env} {L : Addr} {ks : List (Str × NameKind)} {cs : List (Str × Addr)} {σ : Led} {Φ : Led → Prop} {pos : Pos} {x : Str}
theorem store_local {A : Around} {s : Shared} {Z : Heap} {E : Value → Shared → Prop} {Q : Unit → Shared → Prop} {σ σ' : Led} {v : Value} {d : D} {m m' : List (Str × Option D)} (O : EnvOK env L ks cs) (hx : (x, NameKind.local) ∈ ks)
    (U : UpdL L (.ns m) (.ns m') σ σ') (V : UpdN x (some d) m m') (S : St G Z σ s) (hv : VR Z d v) (hQ : ∀ s', St G Z σ' s' → Q () s') : wpAny (model G.prog G.w) A (storeName env x v) Q E s := by
  obtain ⟨mm, N, nd, hf⟩ := S.ns U.mem
  refine wpAny_storeName_local ((O.k _ hx).1 rfl) (O.loc ▸ N) (fun h' hn hs => hQ _ ?_) (by rw [O.kind]; rfl)
  rw [O.loc] at hn hs
  obtain ⟨o, e, r⟩ := ns_cell (Z := Z) hn (V.keys ▸ nd) (V.or (.some hv) nd hf)
  exact S.upd U hs.extBut _ e r
theorem as_local {m m' : List (Str × Option D)} {d : D} {σ' : Led} (O : EnvOK env L ks cs) (hx : (x, NameKind.local) ∈ ks) (U : UpdL L (.ns m) (.ns m') σ σ') (V : UpdN x (some d) m m') (h : Φ σ') :
    AS G n env (.Name x pos) d σ Φ := by
  intro τ A s Z E Q v hR hS hv hQ
  exact wpAny_assign_Name (store_local O hx (U.app τ) V hS hv fun s' S' => hQ Z () σ' () s' (str Z) S' trivial h)
theorem store_cap {A : Around} {s : Shared} {Z : Heap} {E : Value → Shared → Prop} {Q : Unit → Shared → Prop} {σ σ' : Led} {v : Value} {d : D} {o : Option D} {c : Addr} (O : EnvOK env L ks cs) (hx : (x, NameKind.cell) ∈ ks) (hc : (x, c) ∈ cs)
    (U : UpdL c (.cell o) (.cell (some d)) σ σ') (S : St G Z σ s) (hv : VR Z d v) (hQ : ∀ s', St G Z σ' s' → Q () s') : wpAny (model G.prog G.w) A (storeName env x v) Q E s := by
  obtain ⟨v₀, hv₀, _⟩ := isCell_of S U.mem
  refine wpAny_storeName_cell O.kind (O.kc _ hx rfl) (O.cs _ hc) hv₀ fun h' ⟨o', e, hd⟩ hs => hQ _ ?_
  exact S.upd U hs.extBut _ e ⟨_, hd, .some hv⟩
theorem as_cap {o : Option D} {d : D} {σ' : Led} {c : Addr} (O : EnvOK env L ks cs) (hx : (x, NameKind.cell) ∈ ks) (hc : (x, c) ∈ cs) (U : UpdL c (.cell o) (.cell (some d)) σ σ') (h : Φ σ') :
    AS G n env (.Name x pos) d σ Φ := by
  intro τ A s Z E Q v hR hS hv hQ
  exact wpAny_assign_Name (store_cap O hx hc (U.app τ) hS hv fun s' S' => hQ Z () σ' () s' (str Z) S' trivial h)
end
section
variable {G : Gl} {n : Nat} {env : Env} {L : Addr} {ks : List (Str × NameKind)} {cs : List (Str × Addr)} {σ : Led} {Φ : AF → Led → Prop} {pos : Pos} {rest : List Stmt}
theorem xs_nil (h : Φ .next σ) : XS G n env [] σ Φ := fun _ _ s _ _ _ _ hS hQ => wpAny_execs_nil (hQ _ _ _ _ s (str _) hS .next h)
def Nx (G : Gl) (n : Nat) (env : Env) (rest : List Stmt) (Φ : AF → Led → Prop) : AF → Led → Prop
  | .next, σ => XS G n env rest σ Φ
  | f, σ => Φ f σ
theorem xs_cons {st : Stmt} (h : X1 G n env st σ (Nx G n env rest Φ)) : XS G n env (st :: rest) σ Φ := by
  intro τ A s Z E Q hR hS hQ
  refine wpAny_execs_cons (h τ A s Z _ _ hR hS fun Z' f σ' v s' k S' r p => ?_)
  cases r with
  | next => exact p τ A s' _ _ _ hR S' fun _ _ _ v s3 k3 S3 r3 p3 => hQ _ _ _ v s3 (stt k k3) S3 r3 p3
  | brk => exact hQ _ _ _ _ s' k S' .brk p
  | cont => exact hQ _ _ _ _ s' k S' .cont p
  | ret hd => exact hQ _ _ _ _ s' k S' (.ret hd) p
theorem nx_next {rest : List Stmt} (h : XS G n env rest σ Φ) : Nx G n env rest Φ .next σ := h
theorem nx_ret {rest : List Stmt} {d : D} (h : Φ (.ret d) σ) : Nx G n env rest Φ (.ret d) σ := h
theorem nx_cont {rest : List Stmt} (h : Φ .cont σ) : Nx G n env rest Φ .cont σ := h
theorem x_expr {e : Expr} (O : EnvOK env L ks cs) (h : EV G n env e σ fun _ σ₁ => Φ .next σ₁) (hs : swapsWith e none pos.line env = pure false := by rfl) : X1 G n env (.Expr e pos) σ Φ :=
  fun τ A s _ _ _ hR hS hQ => wpAny_Expr_any (h τ A s _ _ _ hR hS fun _ _ _ _ s1 k1 S1 _ p1 => hQ _ _ _ _ s1 k1 S1 .next p1) (by unfold interactive; rw [O.kind]; rfl) hs
theorem x_ret {e : Expr} (h : EV G n env e σ fun d σ₁ => Φ (.ret d) σ₁) : X1 G n env (.Return (some e) pos) σ Φ :=
  fun τ A s _ _ _ hR hS hQ => wpAny_Return_some (h τ A s _ _ _ hR hS fun _ _ _ _ s1 k1 S1 r1 p1 => hQ _ _ _ _ s1 k1 S1 (.ret r1) p1)
theorem x_cont (h : Φ .cont σ) : X1 G n env (.Continue pos) σ Φ :=
  fun _ _ s _ _ _ _ hS hQ => wpAny_Continue (hQ _ _ _ _ s (str _) hS .cont h)
theorem x_assign {t : Expr} {value : Expr} (h : EV G n env value σ fun d σ₁ => AS G n env t d σ₁ (Φ .next))
    (h1 : swapsWithSole [t] value pos.line env = pure false := by rfl) (h2 : swappedStores [t] value env = pure none := by rfl) (h3 : (assignEach [t] env).map (·.2) = [assign t env] := by rfl) : X1 G n env (.Assign [t] value pos) σ Φ :=
  fun τ A s _ _ _ hR hS hQ => wpAny_Assign_stores (h τ A s _ _ _ hR hS fun _ _ _ v s1 k1 S1 r1 p1 => by
    rw [h3]
    exact p1 τ A s1 _ _ _ v hR S1 r1 fun _ _ _ _ s2 k2 S2 _ p2 => hQ _ _ _ _ s2 (stt k1 k2) S2 .next p2) h1 h2
theorem x_assign2 {t u : Expr} {value : Expr} (h : EV G n env value σ fun d σ₁ => AS G n env t d σ₁ fun σ₂ => AS G n env u d σ₂ (Φ .next))
    (h1 : (assignEach [t, u] env).map (·.2) = [assign t env, assign u env] := by rfl) (h2 : swappedStores [t, u] value env = pure none := by rfl) : X1 G n env (.Assign [t, u] value pos) σ Φ :=
  fun τ A s _ _ _ hR hS hQ => wpAny_Assign_two (h τ A s _ _ _ hR hS fun _ _ _ v s1 k1 S1 r1 p1 =>
    p1 τ A s1 _ _ _ v hR S1 r1 fun _ _ _ _ s2 k2 S2 _ p2 => p2 τ A s2 _ _ _ v hR S2 (r1.mono k2) fun _ _ _ _ s3 k3 S3 _ p3 => hQ _ _ _ _ s3 (stt k1 (stt k2 k3)) S3 .next p3) h1 h2
theorem x_aug {x : Str} {p : Pos} {op : Operator} {value : Expr} (h : EV G n env (.Name x p) σ fun a σ₁ => EV G n env value σ₁ fun b σ₂ => IO G n op a b σ₂ fun d σ₃ => AS G n env (.Name x p) d σ₃ (Φ .next))
    (hd : (x == ("__debug__" : Str)) = false := by decide) : X1 G n env (.AugAssign (.Name x p) op value pos) σ Φ := by
  intro τ A s Z E Q hR hS hQ
  have e : exec (.AugAssign (.Name x p) op value pos) env = (eval (.Name x p) env >>= fun old => do
    let v ← holding [old] (eval value env)
    standAt pos
    let new ← operate [old, v] (inplaceOp op old v)
    standAt p
    bindName env x new
    pure .next) := by rw [exec_AugAssign_Name, eval_Name env x p hd]; rfl
  rw [e]
  refine wpAny_bind (h τ A s _ _ _ hR hS fun _ _ _ va s1 k1 S1 ra p1 => wpAny_bind (wpAny_holding (p1 τ A s1 _ _ _ hR S1 fun _ _ _ vb s2 k2 S2 rb p2 => ?_)))
  refine wpAny_bind (wpAny_standAt (wpAny_bind (wpAny_operate' ?_)))
  refine p2 τ A s2 _ _ _ va vb hR S2 (ra.mono k2) rb fun _ _ _ v s3 k3 S3 r3 p3 => ?_
  have e2 : (do standAt p; bindName env x v; pure .next : Sem Flow) = (assign (.Name x p) env v >>= fun _ => pure .next) := rfl
  show wpAny _ _ (do standAt p; bindName env x v; pure .next : Sem Flow) _ _ _
  rw [e2]
  exact wpAny_bind (p3 τ A s3 _ _ _ v hR S3 r3 fun _ _ _ _ s4 k4 S4 _ p4 => wpAny_pure (hQ _ _ _ _ s4 (stt k1 (stt k2 (stt k3 k4))) S4 .next p4))
theorem x_if {test : Expr} {body orelse : List Stmt} (h : TE G n env test σ fun c σ₁ => (c = true → XS G n env body σ₁ Φ) ∧ (c = false → XS G n env orelse σ₁ Φ)) : X1 G n env (.If test body orelse pos) σ Φ :=
  fun τ A s _ _ _ hR hS hQ => wpAny_If (h τ A s _ _ _ hR hS fun _ c _ v s1 k1 S1 (e : c = v) p1 => by
    subst e
    cases c with
    | true => exact p1.1 rfl τ A s1 _ _ _ hR S1 fun _ _ _ v s3 k3 S3 r3 p3 => hQ _ _ _ v s3 (stt k1 k3) S3 r3 p3
    | false => exact p1.2 rfl τ A s1 _ _ _ hR S1 fun _ _ _ v s3 k3 S3 r3 p3 => hQ _ _ _ v s3 (stt k1 k3) S3 r3 p3)
def WhileK (G : Gl) (n : Nat) (env : Env) (test : Expr) (body : List Stmt) (Φ : AF → Led → Prop) : Nat → Led → Prop
  | 0, _ => False
  | k + 1, σ => TE G n env test σ fun c σ₁ => (c = true → XS G n env body σ₁ fun f σ₂ => match f with
      | .next | .cont => WhileK G n env test body Φ k σ₂
      | .brk => Φ .next σ₂
      | .ret d => Φ (.ret d) σ₂) ∧ (c = false → Φ .next σ₁)
inductive IterOf : D → List D → Prop
  | lst (xs : List D) : IterOf (.lst xs) xs
  | tup (xs : List D) : IterOf (.tup xs) xs
  | str (x : Str) (h : x.cps.all (· < 128) = true) : IterOf (.str x) (x.cps.toList.map fun c => .str ⟨#[c]⟩)
  | rng (lo hi st : Int) (h : Builtin.Range.small lo hi st = true) : IterOf (.rng lo hi st) ((List.range (Builtin.Range.rangeSize lo hi st).toNat).map fun (k : Nat) => D.int (lo + k * st))
end
theorem pyIter_of {G : Gl} {A : Around} {s : Shared} {Z : Heap} {σ : Led} {E : Value → Shared → Prop} {Q : Value → Shared → Prop} {d : D} {xs : List D} {v : Value} (I : IterOf d xs) (S : St G Z σ s) (hv : VR Z d v)
    (hQ : ∀ it s', St G Z ((it, .iter xs) :: σ) s' → Q (.ref it) s') : wpAny (model G.prog G.w) A (pyIter v) Q E s := by
  have fin : ∀ o : Obj, o.isFreed = false → CellR Z (.iter xs) o → Q (.ref s.heap.objs.size) { s with heap := s.heap.push o } := fun o hf hc =>
    hQ _ _ (S.add (h' := s.heap.push o) (fun _ _ e => Heap.get?_push_of_some _ e) s.toks (size_none _) (Heap.get?_push_size _ hf) hc)
  cases I with
  | lst xs => cases hv with
    | lst h r => exact wpAny_pyIter_list (isList_keeps S.zin h) (fin _ rfl (.list h rfl rfl (by simpa using r)))
  | tup xs => cases hv with
    | tup h r => exact wpAny_pyIter_tuple (isTuple_keeps S.zin h) (fin _ rfl (.tuple h rfl rfl (by simpa using r)))
  | str x ha => cases hv with
    | str _ t => exact wpAny_pyIter_ascii ha (fin _ rfl (.str ha rfl rfl _ (by simp)))
  | rng lo hi st hs => cases hv with
    | rng h => exact wpAny_pyIter_range (isRange_keeps S.zin h) hs (fin _ rfl (.range rfl _ rfl))
theorem vrs_cons_inv {Z : Heap} {x : D} {xs : List D} {vs : List Value} {i : Nat} (r : VRs Z (x :: xs) (vs.drop i)) : ∃ v, vs[i]? = some v ∧ VR Z x v ∧ VRs Z xs (vs.drop (i + 1)) := by
  cases e : vs.drop i with
  | nil => rw [e] at r; cases r
  | cons v w =>
    rw [e] at r
    cases r with
    | cons h t =>
      refine ⟨v, ?_, h, ?_⟩
      · have := List.getElem?_drop (xs := vs) (i := i) (j := 0); rw [e] at this; simpa using this.symm
      · have : vs.drop (i + 1) = w := by rw [← List.drop_drop, e]; rfl
        rw [this]; exact t
theorem pyNext_of {G : Gl} {A : Around} {s : Shared} {Z : Heap} {σ : Led} {E : Value → Shared → Prop} {Q : Option Value → Shared → Prop} {it : Addr} {xs : List D} (hh : A.handled = none) (S : St G Z ((it, .iter xs) :: σ) s)
    (hnil : xs = [] → ∀ s', St G Z σ s' → Q none s')
    (hcons : ∀ x r, xs = x :: r → ∀ v s', St G Z ((it, .iter r) :: σ) s' → VR Z x v → Q (some v) s') : wpAny (model G.prog G.w) A (pyNext (.ref it)) Q E s := by
  obtain ⟨o, ho, hr⟩ := S.cells _ (.head _)
  have upd : ∀ (r : List D) (h' : Heap) (t : Tok) (o' : Obj), s.toks ≤ t → Heap.SameBut it s.heap h' → h'.get? it = some o' → IterR Z r o' → St G Z ((it, .iter r) :: σ) { s with heap := h', toks := t } := fun r h' t o' ht hs e hc =>
    S.upd (.head _) hs.extBut t e hc
  have ended : ∀ (h' : Heap), Heap.ExtBut it s.heap h' → St G Z σ { s with heap := h' } := fun h' hs => by
    have nd := S.nod
    refine ⟨fun b o e => hs b o (fun q => ?_) (S.zin b o e), S.base, (List.nodup_cons.mp nd).2, fun p hp => S.hid p (.tail _ hp), fun p hp => ?_, S.os, S.gens, S.pos⟩
    · have := S.hid _ (.head _); rw [← q, e] at this; cases this
    · obtain ⟨o, e, r⟩ := S.cells p (.tail _ hp)
      exact ⟨o, hs _ _ (fun (q : p.1 = it) => (List.nodup_cons.mp nd).1 (List.mem_map.mpr ⟨p, hp, q⟩)) e, r⟩
  cases hr with
  | list h hc hd r =>
    cases xs with
    | nil =>
      refine wpAny_pyNext_list_end hh ⟨o, ho, hc, hd⟩ (isList_keeps S.zin h) ?_ fun h' hs => hnil rfl _ (ended h' hs)
      have := r.length; simp at this
      rw [← Array.getElem?_toList]; exact List.getElem?_eq_none (by simpa using (by kt_len))
    | cons x xs =>
      obtain ⟨v, e, hx, t⟩ := vrs_cons_inv r
      refine wpAny_pyNext_list_item ⟨o, ho, hc, hd⟩ (isList_keeps S.zin h) (by rw [← Array.getElem?_toList]; exact e) fun h' ⟨o', e', c', d'⟩ hs => hcons x xs rfl v _ (upd xs h' _ o' (by first | exact Nat.le_refl _ | omega) hs e' (.list h c' d' t)) hx
  | tuple h hc hd r =>
    cases xs with
    | nil =>
      refine wpAny_pyNext_tuple_end hh ⟨o, ho, hc, hd⟩ (isTuple_keeps S.zin h) ?_ fun h' hs => hnil rfl _ (ended h' hs)
      have := r.length; simp at this
      rw [← Array.getElem?_toList]; exact List.getElem?_eq_none (by simpa using (by kt_len))
    | cons x xs =>
      obtain ⟨v, e, hx, t⟩ := vrs_cons_inv r
      refine wpAny_pyNext_tuple_item ⟨o, ho, hc, hd⟩ (isTuple_keeps S.zin h) (by rw [← Array.getElem?_toList]; exact e) fun h' ⟨o', e', c', d'⟩ hs => hcons x xs rfl v _ (upd xs h' _ o' (by first | exact Nat.le_refl _ | omega) hs e' (.tuple h c' d' t)) hx
  | range hok _ r =>
    rename_i x m st
    subst hok
    by_cases hm : 0 < m
    · have e : xs = D.int x :: ((List.range (m - 1).toNat).map fun (k : Nat) => D.int (x + st + k * st)) := by
        rw [r, show m.toNat = (m - 1).toNat + 1 by kt_len, List.range_succ_eq_map, List.map_cons, List.map_map]
        refine congr (congrArg List.cons (by simp)) (List.map_congr_left fun k _ => ?_)
        simp only [Function.comp, Nat.succ_eq_add_one, Int.natCast_add, Int.natCast_one, Int.add_mul, Int.one_mul]
        exact congrArg D.int (by kt_len)
      refine wpAny_pyNext_range_item ho hm fun h' e' hs => hcons _ _ e _ _ (upd _ h' _ _ (by first | exact Nat.le_refl _ | omega) hs e' (.range rfl _ rfl)) (.int _ _)
    · refine wpAny_pyNext_range_end hh ho (by kt_len) fun h' hs => hnil (by rw [r, show m.toNat = 0 by kt_len]; rfl) _ (ended h' hs)
  | str ha hc hd _ r =>
    rename_i x t i
    cases e : x.cps[i]? with
    | none =>
      refine wpAny_pyNext_ascii_end hh ⟨o, ho, hc, hd⟩ e fun h' hs => hnil ?_ _ (ended h' hs)
      rw [r, List.drop_eq_nil_of_le (by simpa using e)]; rfl
    | some c =>
      have e2 : xs = D.str ⟨#[c]⟩ :: ((x.cps.toList.drop (i + 1)).map fun c => D.str ⟨#[c]⟩) := by
        have h1 : x.cps.toList[i]? = some c := by rw [Array.getElem?_toList]; exact e
        obtain ⟨hi, hc⟩ := List.getElem?_eq_some_iff.mp h1
        rw [r, List.drop_eq_getElem_cons hi, hc]; rfl
      refine wpAny_pyNext_ascii_item ⟨o, ho, hc, hd⟩ e fun h' ⟨o', e', c', d'⟩ hs => hcons _ _ e2 _ _ (upd _ h' _ o' (by first | exact Nat.le_refl _ | omega) hs e' (.str ha c' d' _ rfl)) (.str _ _)
section
variable {G : Gl} {n : Nat} {env : Env} {L : Addr} {ks : List (Str × NameKind)} {cs : List (Str × Addr)} {σ : Led} {Φ : AF → Led → Prop} {pos : Pos} {rest : List Stmt}
def ForK (G : Gl) (n : Nat) (env : Env) (t : Expr) (body : List Stmt) (Φ : AF → Led → Prop) : List D → Led → Prop
  | [], σ => Φ .next σ
  | x :: xs, σ => AS G n env t x σ fun σ₁ => XS G n env body σ₁ fun f σ₂ => match f with
      | .next | .cont => ForK G n env t body Φ xs σ₂
      | .brk => Φ .next σ₂
      | .ret d => Φ (.ret d) σ₂
theorem x_for {t iter : Expr} {body : List Stmt} (h : EV G n env iter σ fun d σ₁ => ∃ xs, IterOf d xs ∧ ForK G n env t body Φ xs σ₁)
    (hs : ∀ x, foldedSetIterable iter env x = pure x := by intro _; rfl) (ht : ∀ it v, letOwnedTupleGo t it v = pure () := by intro _ _; rfl) : X1 G n env (.For t iter body [] pos) σ Φ := by
  intro τ A s Z E Q hR hS hQ
  refine wpAny_For (h τ A s _ _ _ hR hS fun Z1 d σ1 v s1 k1 S1 r1 p1 => ?_) hs
  obtain ⟨xs, hi, hk⟩ := p1
  refine pyIter_of hi S1 r1 fun it s2 S2 => ?_
  refine codeAny_forLoop (fun k s' => ∃ xs Z' σ', k = xs.length ∧ Z1.StaysIn Z' ∧ St G Z' ((it, .iter xs) :: (σ' ++ τ)) s' ∧ ForK G n env t body Φ xs σ') (fun k s' hI => ?_) xs.length ⟨xs, Z1, σ1, rfl, str Z1, S2, hk⟩ (ht _)
  obtain ⟨xs, Z3, σ3, rfl, k3, S3, hk⟩ := hI
  refine pyNext_of hR.1 S3 (fun e s4 S4 => ?_) fun x r e v s4 S4 hx => ?_
  · subst e
    exact wpAny_execs_nil (hQ _ _ _ _ s4 (stt k1 k3) S4 .next hk)
  · subst e
    refine hk ((it, .iter r) :: τ) A s4 Z3 _ _ v hR (S4.perm (List.perm_middle)) hx fun Z5 _ σ5 _ s5 k5 S5 _ p5 => ?_
    refine p5 ((it, .iter r) :: τ) A s5 Z5 _ _ hR S5 fun Z6 f σ6 v s6 k6 S6 r6 p6 => ?_
    have S6' := S6.perm (List.perm_middle (a := (it, Cell.iter r)) (l₁ := σ6) (l₂ := τ)).symm
    cases r6 with
    | next => exact ⟨r.length, Nat.lt_succ_self _, r, Z6, σ6, rfl, stt k3 (stt k5 k6), S6', p6⟩
    | cont => exact ⟨r.length, Nat.lt_succ_self _, r, Z6, σ6, rfl, stt k3 (stt k5 k6), S6', p6⟩
    | brk => exact hQ _ _ _ _ s6 (stt k1 (stt k3 (stt k5 k6))) (S6'.sub (List.sublist_cons_self _ _)) .next p6
    | ret hd => exact hQ _ _ _ _ s6 (stt k1 (stt k3 (stt k5 k6))) (S6'.sub (List.sublist_cons_self _ _)) (.ret hd) p6
end
end Mine
namespace Mine
def D.toV : D → Option Value
  | .val v => some v
  | .obj a => some (.ref a)
  | _ => Option.none
theorem lookup_nd {β : Type} : ∀ {l : List (Str × β)} {x : Str} {b : β}, (x, b) ∈ l → (l.map (·.1)).Nodup → l.lookup x = some b
  | (y, c) :: r, x, b, hm, nd => by
    simp only [List.map_cons] at nd
    rcases List.mem_cons.mp hm with e | hm'
    · cases e; simp
    · have : (x == y) = false := by
        rw [beq_eq_false_iff_ne]; rintro rfl
        exact (List.nodup_cons.mp nd).1 (List.mem_map.mpr ⟨(x, b), hm', rfl⟩)
      rw [List.lookup_cons, this]; exact lookup_nd hm' (List.nodup_cons.mp nd).2
theorem toV_eq {Z : Heap} {d : D} {fv v : Value} (h : VR Z d v) (e : d.toV = some fv) : v = fv := by
  cases h <;> simp_all [D.toV]
def KpAt (G : Gl) (f : Value) (h : Heap) : Prop := ∃ k, (k = Keeper.frame ∨ k = Keeper.machine ∨ k = Keeper.boundFrame) ∧ Looks (model G.prog G.w) h (keeperOf f) k
def Kp (G : Gl) (f : Value) (σ : Led) : Prop := ∀ (τ : Led) (Z : Heap) (s : Shared), St G Z (σ ++ τ) s → KpAt G f s.heap
theorem kp_builtin {G : Gl} {id : String} {σ : Led} : Kp G (.builtin id) σ := fun _ _ _ _ => ⟨.machine, .inr (.inl rfl), Looks.of_pure rfl⟩
theorem kp_type {G : Gl} {id : String} {σ : Led} : Kp G (.type id) σ := fun _ _ _ _ => ⟨.machine, .inr (.inl rfl), Looks.of_pure rfl⟩
theorem kp_K {G : Gl} {f : Value} {σ : Led} (hk : keepIn G.K f = true) : Kp G f σ := fun _ _ _ S => keeps_K hk _ (G.kin.keeps (stt S.base S.zin))
theorem kp_fn {G : Gl} {a : Addr} {σ : Led} {oc : Value} {od : Option Addr} {fd : FuncData} {sl : Array (Option Value)} (h : (a, Cell.raw ⟨oc, od, .func fd, sl⟩) ∈ σ) : Kp G (.ref a) σ := fun τ Z s S => by
  obtain ⟨o, e, r⟩ := S.cells _ (List.mem_append_left τ h)
  cases r
  exact keeps_F _ ⟨_, _, _, _, e⟩
abbrev CL (G : Gl) (n : Nat) (f : Value) (ds : List D) := WI G n VR (fun vs => call f vs []) ds
abbrev CLk (G : Gl) (n : Nat) (f : Value) (k : Nat) (names : List Str) (ds : List D) := WI G n VR (fun vs => call f (vs.take k) (names.zip (vs.drop k))) ds
section
variable {G : Gl} {n : Nat} {env : Env} {L : Addr} {ks : List (Str × NameKind)} {cs : List (Str × Addr)} {σ : Led} {Φ : D → Led → Prop} {Φs : List D → Led → Prop} {pos : Pos}
theorem evs_nil (h : Φs [] σ) : EVs G n env [] σ Φs := fun _ _ s _ _ _ _ hS hQ => PySem.Calls.spliced_nil (hQ _ _ _ _ s (str _) hS .nil h)
theorem evs_cons {e : Expr} {es : List Expr} (h : EV G n env e σ fun d σ₁ => EVs G n env es σ₁ fun ds σ₂ => Φs (d :: ds) σ₂) : EVs G n env (e :: es) σ Φs :=
  fun τ A s _ _ _ hR hS hQ => PySem.Calls.spliced_cons (h τ A s _ _ _ hR hS fun _ _ _ v s1 k1 S1 r1 p1 => p1 τ A s1 _ _ _ hR S1 fun _ _ _ vs s2 k2 S2 r2 p2 => hQ _ _ _ _ s2 (stt k1 k2) S2 (.cons (r1.mono k2) r2) p2)
theorem call_tail {A : Around} {s : Shared} {Z : Heap} {τ : Led} {E : Value → Shared → Prop} {Q : Value → Shared → Prop} {fv : Value} {args : List Expr} (hR : Room n A) (hS : St G Z (σ ++ τ) s)
    (h : EVs G n env args σ fun ds σ₂ => Kp G fv σ₂ ∧ CL G n fv ds σ₂ Φ)
    (hQ : ∀ Z' d σ' v s', Z.StaysIn Z' → St G Z' (σ' ++ τ) s' → VR Z' d v → Φ d σ' → Q v s') (he : backTo pos (starEach args env) = args.map fun e => (false, eval e env)) :
    wpAny (model G.prog G.w) A (callWith pos fv [] (backTo pos (starEach args env)) []) Q E s := by
  rw [he]
  have hp : ∀ l : List Expr, (l.map fun e => (false, eval e env)).any (·.1) = false := fun l => by induction l <;> simp_all
  refine callWith_of (P := KpAt G fv) (by rw [hp]; rfl) (fun _ x => x) ?_
  have q := h τ A s Z E (fun vs s₁ => KpAt G fv s₁.heap ∧ wpAny (model G.prog G.w) A (call fv ([] ++ vs) []) Q E s₁) hR hS fun Z2 ds σ2 vs s2 k2 S2 r2 p2 => ?_
  · cases args with
    | nil =>
      unfold evalArgs
      show wpAny _ _ (spliced [] >>= _) _ _ _
      refine wpAny_bind (wpAny_mono q (fun vs s' h' => wpAny_holding (wpAny_bind (wpAny_pure (wpAny_bind (wpAny_pure (wpAny_pure h')))))) fun _ _ x => x)
    | cons e r => exact PySem.Calls.evalArgs_plain q
  · exact ⟨p2.1 τ _ _ S2, p2.2 τ A s2 Z2 E Q vs hR S2 r2 fun Z3 d σ3 v s3 k3 S3 r3 p3 => hQ Z3 d σ3 v s3 (stt k2 k3) S3 r3 p3⟩
def KpCL (G : Gl) (n : Nat) (fv : Value) (ds : List D) (σ : Led) (Φ : D → Led → Prop) : Prop := Kp G fv σ ∧ CL G n fv ds σ Φ
theorem kpcl_builtin {id : String} {ds : List D} (h : CL G n (.builtin id) ds σ Φ) : KpCL G n (.builtin id) ds σ Φ := ⟨kp_builtin, h⟩
theorem kpcl_type {id : String} {ds : List D} (h : CL G n (.type id) ds σ Φ) : KpCL G n (.type id) ds σ Φ := ⟨kp_type, h⟩
theorem kpcl_K {fv : Value} {ds : List D} (hk : keepIn G.K fv = true) (h : CL G n fv ds σ Φ) : KpCL G n fv ds σ Φ := ⟨kp_K hk, h⟩
def CallK (G : Gl) (n : Nat) (env : Env) (args : List Expr) (Φ : D → Led → Prop) (f : D) (σ : Led) : Prop := ∃ fv, f.toV = some fv ∧ EVs G n env args σ fun ds σ₂ => KpCL G n fv ds σ₂ Φ
theorem callK_val {fv : Value} {args : List Expr} (h : EVs G n env args σ fun ds σ₂ => KpCL G n fv ds σ₂ Φ) : CallK G n env args Φ (.val fv) σ := ⟨_, rfl, h⟩
theorem ev_call {x : Str} {p : Pos} {args : List Expr} (h : EV G n env (.Name x p) σ (CallK G n env args Φ))
    (he : backTo pos (starEach args env) = args.map fun e => (false, eval e env) := by rfl) : EV G n env (.Call (.Name x p) args [] pos) σ Φ :=
  fun τ A s _ _ _ hR hS hQ => wpAny_Call_ofName (h τ A s _ _ _ hR hS fun _ _ _ v s1 k1 S1 r1 ⟨fv, e1, p1⟩ => by
    rw [toV_eq r1 e1]
    exact call_tail hR S1 p1 (fun _ _ _ v s3 k3 S3 r3 p3 => hQ _ _ _ v s3 (stt k1 k3) S3 r3 p3) he)
end
def RetK (Φ : D → Led → Prop) (f : AF) (σ : Led) : Prop := ∃ σ', σ'.Sublist σ ∧ Φ (match f with | .ret d => d | _ => .none) σ'
def nsStart (bs : List (Str × D)) (more : List Str) : List (Str × Option D) := bs.map (fun p => (p.1, some p.2)) ++ more.map fun x => (x, none)
theorem zip_or {Z : Heap} : ∀ {bs : List (Str × D)} {ws : List Value}, VRs Z (bs.map (·.2)) ws → ∀ p ∈ bs, ∃ v, (p.1, v) ∈ (bs.map (·.1)).zip ws ∧ VR Z p.2 v
  | _ :: _, _ :: _, .cons h t, p, hp => by
    rcases List.mem_cons.mp hp with rfl | hp
    · exact ⟨_, List.mem_cons_self .., h⟩
    · obtain ⟨v, a, b⟩ := zip_or t p hp; exact ⟨v, List.mem_cons_of_mem _ a, b⟩
theorem nsStart_or {Z : Heap} {bs : List (Str × D)} {more : List Str} {ws : List Value} (hm : ((bs.map (·.1)) ++ more).Nodup) (hws : VRs Z (bs.map (·.2)) ws) :
    ∀ p ∈ nsStart bs more, OR Z p.2 (((bs.map (·.1)).zip ws).reverse.lookup p.1) := by
  have hlen : (bs.map (·.1)).length = ws.length := by rw [← hws.length]; simp
  have nd : (((bs.map (·.1)).zip ws).reverse.map (·.1)).Nodup := by
    rw [List.map_reverse, (List.reverse_perm _).nodup_iff, List.map_fst_zip (by kt_len)]
    exact (List.nodup_append.mp hm).1
  intro p hp
  rcases List.mem_append.mp hp with hp | hp
  · obtain ⟨q, hq, rfl⟩ := List.mem_map.mp hp
    obtain ⟨v, hv, r⟩ := zip_or hws q hq
    dsimp only
    rw [lookup_nd (List.mem_reverse.mpr hv) nd]
    exact .some r
  · obtain ⟨x, hx, rfl⟩ := List.mem_map.mp hp
    dsimp only
    rw [List.lookup_eq_none_iff.mpr fun q hq => ?_]
    · exact .none
    · rw [List.mem_reverse] at hq
      have h1 := (List.of_mem_zip (show (q.1, q.2) ∈ _ from hq)).1
      simp only [bne_iff_ne, ne_eq]
      rintro rfl
      exact (List.nodup_append.mp hm).2.2 _ h1 _ hx rfl
structure DefOf (G : Gl) (f : Addr) (fd : FuncData) (body : List Stmt) : Prop where
  at_ : ∃ o, G.h₀.get? f = some o ∧ o.data = .func fd
  body : fd.body = .stmts body
  code : G.h₀.CodeRec fd.code fd.qualname
  co : fd.scope.isCoroutine = false
  gen : fd.scope.isGenerator = false
  kind : fd.scope.kind = .function
  glo : fd.globals = mainGlobals
  bui : fd.builtins = builtinsNs
theorem envOK_call {fd : FuncData} {L f : Addr} {cs : List (Str × Addr)} (hk : fd.scope.kind = .function) (hg : fd.globals = mainGlobals) (hb : fd.builtins = builtinsNs) (hcs : ∀ p ∈ cs, fd.closure.lookup p.1 = some p.2)
    (hn : (fd.scope.names.map (·.1)).Nodup) (hd : fd.scope.names.all (fun p => !(p.1 == ("__debug__" : Str)) && !(p.1 == ("__classdict__" : Str))) = true) : EnvOK (callEnv fd L f) L fd.scope.names cs where
  loc := rfl
  kind := hk
  glo := hg
  bui := hb
  k := fun p hp => by
    have : (callEnv fd L f).kindOf p.1 = some p.2 := lookup_nd hp hn
    rw [this]
    exact ⟨fun e => by rw [e], fun e => e.imp (fun e => by rw [e]) fun e => by rw [e], fun e => by rw [e]⟩
  kc := fun p hp e => by
    have : (callEnv fd L f).kindOf p.1 = some p.2 := lookup_nd hp hn
    rw [this, e]
  nd := fun p hp => by
    have := List.all_eq_true.mp hd p hp
    simpa using this
  cs := hcs
def CLc (G : Gl) (n : Nat) (f : Value) (ds : List D) (σ : Led) (Φ : D → Led → Prop) : Prop :=
  ∀ (τ : Led) (A : Around) (s : Shared) (Z : Heap) (R : Result → Shared → Prop) (vs : List Value), Room n A → St G Z (σ ++ τ) s → VRs Z ds vs →
    (∀ Z' d σ' v s', Z.StaysIn Z' → St G Z' (σ' ++ τ) s' → VR Z' d v → Φ d σ' → R (.ok (.ret v)) s') → codeAny (model G.prog G.w) A (.call f ⟨vs, []⟩) R s
theorem CLc.cl {G : Gl} {n : Nat} {f : Value} {ds : List D} {σ : Led} {Φ : D → Led → Prop} (h : CLc G n f ds σ Φ) : CL G n f ds σ Φ :=
  fun τ A s Z _ _ vs hR hS hv hQ => wpAny_call (h τ A s Z _ vs hR hS hv hQ)
theorem CLc.mono {G : Gl} {n : Nat} {f : Value} {ds : List D} {σ : Led} {Φ Ψ : D → Led → Prop} (h : CLc G n f ds σ Φ) (k : ∀ d σ', Φ d σ' → Ψ d σ') : CLc G n f ds σ Ψ :=
  fun τ A s Z R vs hR hS hv hQ => h τ A s Z R vs hR hS hv fun Z' d σ' v s' a b c p => hQ Z' d σ' v s' a b c (k _ _ p)
theorem CLc.le {G : Gl} {n m : Nat} {f : Value} {ds : List D} {σ : Led} {Φ : D → Led → Prop} (h : CLc G m f ds σ Φ) (k : m ≤ n) : CLc G n f ds σ Φ :=
  fun τ A s Z R vs hR hS hv hQ => h τ A s Z R vs (hR.le k) hS hv hQ
theorem clc_def {G : Gl} {n : Nat} {f : Addr} {fd : FuncData} {body : List Stmt} {ds : List D} {σ : Led} {Φ : D → Led → Prop} {cs : List (Str × Addr)} (bs : List (Str × D)) (more : List Str) (Df : DefOf G f fd body)
    (hcell : fd.scope.names.all (fun p => p.2 != .cell) = true) (hcs : ∀ p ∈ cs, fd.closure.lookup p.1 = some p.2)
    (hn : (fd.scope.names.map (·.1)).Nodup) (hd : fd.scope.names.all (fun p => !(p.1 == ("__debug__" : Str)) && !(p.1 == ("__classdict__" : Str))) = true)
    (hm : ((bs.map (·.1)) ++ more).Nodup) (hl : (bs.all fun p => fd.scope.names.lookup p.1 == some .local) = true)
    (hb : ∀ Z vs, VRs Z ds vs → ∃ ws : List Value, VRs Z (bs.map (·.2)) ws ∧ ∀ M, Looks M G.h₀ (bindArgs fd ⟨vs, []⟩) ((bs.map (·.1)).zip ws))
    (h : ∀ env L, EnvOK env L fd.scope.names cs → XS G n env body ((L, .ns (nsStart bs more)) :: σ) (RetK Φ)) : CLc G (n + 1) (.ref f) ds σ Φ := by
  intro τ A s Z R vs hR hS hv hQ
  obtain ⟨o, ho, hdat⟩ := Df.at_
  obtain ⟨ws, hws, hlook⟩ := hb Z vs hv
  have k0 : G.h₀.StaysIn s.heap := stt hS.base hS.zin
  have hlen : (bs.map (·.1)).length = ws.length := by rw [← hws.length]; simp
  refine (codeAny_call_def (by have := hR.2.1; omega) (k0 _ _ ho) hdat (G.lim.keeps k0) (Df.code.keeps k0) Df.body (fun M _ E Q q => ((hlook M).keeps k0).here q)
    (fun x hx => by have := List.all_eq_true.mp hcell x hx; simpa using this) (fun x hx => ?_) (fun h₁ hns hk₁ => ?_) Df.co Df.gen Df.kind)
  · have hx1 := (List.of_mem_zip (show (x.1, x.2) ∈ _ from hx)).1
    obtain ⟨p, hp, hpe⟩ := List.mem_map.mp hx1
    have := List.all_eq_true.mp hl p hp
    rw [← hpe]; simpa using this
  · have nd1 : (bs.map (·.1)).Nodup := (List.nodup_append.mp hm).1
    have key := nsStart_or (Z := Z) hm hws
    obtain ⟨o1, e1, c1⟩ := ns_cell (Z := Z) hns (m := nsStart bs more) (by simpa [nsStart, Function.comp_def] using hm) key
    have S1 := hS.add hk₁ (s.toks + ((bs.map (·.1)).zip ws).length) (size_none _) e1 c1
    refine wpAny_mono (h _ _ (envOK_call Df.kind Df.glo Df.bui hcs hn hd) τ (A.deeper _) _ Z (fun _ _ => False) (fun fl s' => R (.ok (.ret (match fl with | .ret v => v | _ => .none))) s') (hR.deeper _) S1 fun Z' fl σ' v s' k' S' r' p' => ?_) (fun _ _ x => x) fun _ _ x => x.elim
    obtain ⟨σ'', hsub, hp⟩ := p'
    have S'' := S'.sub (hsub.append_right τ)
    cases r' with
    | next => exact hQ Z' _ _ _ s' k' S'' .none hp
    | brk => exact hQ Z' _ _ _ s' k' S'' .none hp
    | cont => exact hQ Z' _ _ _ s' k' S'' .none hp
    | ret hd => exact hQ Z' _ _ _ s' k' S'' hd hp
theorem cl_def {G : Gl} {n : Nat} {f : Addr} {fd : FuncData} {body : List Stmt} {ds : List D} {σ : Led} {Φ : D → Led → Prop} {cs : List (Str × Addr)} (bs : List (Str × D)) (more : List Str) (Df : DefOf G f fd body)
    (hcell : fd.scope.names.all (fun p => p.2 != .cell) = true) (hcs : ∀ p ∈ cs, fd.closure.lookup p.1 = some p.2)
    (hn : (fd.scope.names.map (·.1)).Nodup) (hd : fd.scope.names.all (fun p => !(p.1 == ("__debug__" : Str)) && !(p.1 == ("__classdict__" : Str))) = true)
    (hm : ((bs.map (·.1)) ++ more).Nodup) (hl : (bs.all fun p => fd.scope.names.lookup p.1 == some .local) = true)
    (hb : ∀ Z vs, VRs Z ds vs → ∃ ws : List Value, VRs Z (bs.map (·.2)) ws ∧ ∀ M, Looks M G.h₀ (bindArgs fd ⟨vs, []⟩) ((bs.map (·.1)).zip ws))
    (h : ∀ env L, EnvOK env L fd.scope.names cs → XS G n env body ((L, .ns (nsStart bs more)) :: σ) (RetK Φ)) : CL G (n + 1) (.ref f) ds σ Φ := (clc_def bs more Df hcell hcs hn hd hm hl hb h).cl
end Mine
namespace Mine
section
variable {G : Gl} {n : Nat} {σ : Led} {Φ : D → Led → Prop} {Ψ : Bool → Led → Prop}
theorem vr2 {Z : Heap} {a b : D} {vs : List Value} (h : VRs Z [a, b] vs) : ∃ v w, vs = [v, w] ∧ VR Z a v ∧ VR Z b w := by
  cases h with | cons ha t => cases t with | cons hb t => cases t; exact ⟨_, _, rfl, ha, hb⟩
theorem vr1 {Z : Heap} {a : D} {vs : List Value} (h : VRs Z [a] vs) : ∃ v, vs = [v] ∧ VR Z a v := by
  cases h with | cons ha t => cases t; exact ⟨_, rfl, ha⟩
theorem vr3 {Z : Heap} {a b c : D} {vs : List Value} (h : VRs Z [a, b, c] vs) : ∃ u v w, vs = [u, v, w] ∧ VR Z a u ∧ VR Z b v ∧ VR Z c w := by
  cases h with | cons ha t => cases t with | cons hb t => cases t with | cons hc t => cases t; exact ⟨_, _, _, rfl, ha, hb, hc⟩
theorem bo_add {a b : Int}  (h : Φ (.int (a + b)) σ) : BO G n .Add (.int a) (.int b) σ Φ := by
  intro τ A s Z E Q v w hR hS ha hb hQ
  cases ha; cases hb
  with_reducible refine add_int ?_
  exact (hQ Z _ σ _ _ (str Z) (hS.toks _) (.int _ _) h)
theorem bo_sub {a b : Int}  (h : Φ (.int (a - b)) σ) : BO G n .Sub (.int a) (.int b) σ Φ := by
  intro τ A s Z E Q v w hR hS ha hb hQ
  cases ha; cases hb
  with_reducible refine sub_int ?_
  exact (hQ Z _ σ _ _ (str Z) (hS.toks _) (.int _ _) h)
theorem bo_mul {a b : Int} (hm : IntMulOk a b) (h : Φ (.int (a * b)) σ) : BO G n .Mult (.int a) (.int b) σ Φ := by
  intro τ A s Z E Q v w hR hS ha hb hQ
  cases ha; cases hb
  with_reducible refine mul_int ?_ hm
  exact (hQ Z _ σ _ _ (str Z) (hS.toks _) (.int _ _) h)
theorem bo_fdiv {a b : Int} (hb0 : b ≠ 0) (hl : Builtin.divisionGoesByPylong a b = false) (h : Φ (.int (a.fdiv b)) σ) : BO G n .FloorDiv (.int a) (.int b) σ Φ := by
  intro τ A s Z E Q v w hR hS ha hb hQ
  cases ha; cases hb
  with_reducible refine floordiv_int hb0 ?_ (.inl hl)
  exact (hQ Z _ σ _ _ (str Z) (hS.toks _) (.int _ _) h)
theorem bo_mod {a b : Int} (hb0 : b ≠ 0) (h : Φ (.int (a.fmod b)) σ) : BO G n .Mod (.int a) (.int b) σ Φ := by
  intro τ A s Z E Q v w hR hS ha hb hQ
  cases ha; cases hb
  with_reducible refine mod_int' hb0 ?_
  exact (hQ Z _ σ _ _ (str Z) (hS.toks _) (.int _ _) h)
theorem bo_div {a b : Int} (h1 : ¬(b == 0) = true) (h2 : ¬Float64.isInf (Float64.ofFrac (decide (a < 0) != decide (b < 0)) a.natAbs b.natAbs) = true) (h : Φ (.float (Float64.ofFrac (decide (a < 0) != decide (b < 0)) a.natAbs b.natAbs)) σ) : BO G n .Div (.int a) (.int b) σ Φ := by
  intro τ A s Z E Q v w hR hS ha hb hQ
  cases ha; cases hb
  with_reducible refine AutoIntOps.truediv_2 h1 h2 ?_
  exact (hQ Z _ σ _ _ (str Z) (hS.toks _) (.float _ _ (by first | exact hS.tk | exact hS.tk1 _)) h)
theorem io_add {a b : Int}  (h : Φ (.int (a + b)) σ) : IO G n .Add (.int a) (.int b) σ Φ := by
  intro τ A s Z E Q v w hR hS ha hb hQ
  cases ha; cases hb
  with_reducible refine wpAny_iadd_int ?_
  exact (hQ Z _ σ _ _ (str Z) (hS.toks _) (.int _ _) h)
theorem io_sub {a b : Int}  (h : Φ (.int (a - b)) σ) : IO G n .Sub (.int a) (.int b) σ Φ := by
  intro τ A s Z E Q v w hR hS ha hb hQ
  cases ha; cases hb
  with_reducible refine AutoIntOps.isub_0 ?_
  exact (hQ Z _ σ _ _ (str Z) (hS.toks _) (.int _ _) h)
theorem bo_adds {a b : Str} (hs : a.length + b.length ≤ sizeLine) (h : Φ (.str (a ++ b)) σ) : BO G n .Add (.str a) (.str b) σ Φ := by
  intro τ A s Z E Q v w hR hS ha hb hQ
  cases ha; cases hb
  with_reducible refine tkw (add_str ?_ hs)
  exact (fun t k => fun (hle : s.toks ≤ k) => hQ Z _ σ _ _ (str Z) (hS.toks _) (.str _ _) h)
theorem io_adds {a b : Str} (hs : a.length + b.length ≤ sizeLine) (h : Φ (.str (a ++ b)) σ) : IO G n .Add (.str a) (.str b) σ Φ := by
  intro τ A s Z E Q v w hR hS ha hb hQ
  cases ha; cases hb
  with_reducible refine tkw (SB.iadd ?_ hs)
  exact (fun t k => fun (hle : s.toks ≤ k) => hQ Z _ σ _ _ (str Z) (hS.toks _) (.str _ _) h)
theorem bo_addf {a b : UInt64}  (h : Φ (.float (Float64.add a b)) σ) : BO G n .Add (.float a) (.float b) σ Φ := by
  intro τ A s Z E Q v w hR hS ha hb hQ
  cases ha; cases hb
  with_reducible refine add_float ?_
  exact (hQ Z _ σ _ _ (str Z) (hS.toks _) (.float _ _ (by first | exact hS.tk | exact hS.tk1 _)) h)
theorem bo_subf {a b : UInt64}  (h : Φ (.float (Float64.sub a b)) σ) : BO G n .Sub (.float a) (.float b) σ Φ := by
  intro τ A s Z E Q v w hR hS ha hb hQ
  cases ha; cases hb
  with_reducible refine sub_float ?_
  exact (hQ Z _ σ _ _ (str Z) (hS.toks _) (.float _ _ (by first | exact hS.tk | exact hS.tk1 _)) h)
theorem bo_mulf {a b : UInt64}  (h : Φ (.float (Float64.mul a b)) σ) : BO G n .Mult (.float a) (.float b) σ Φ := by
  intro τ A s Z E Q v w hR hS ha hb hQ
  cases ha; cases hb
  with_reducible refine mul_float ?_
  exact (hQ Z _ σ _ _ (str Z) (hS.toks _) (.float _ _ (by first | exact hS.tk | exact hS.tk1 _)) h)
theorem bo_divf {a b : UInt64} (hz : ¬Float64.isZero b = true) (h : Φ (.float (Float64.div a b)) σ) : BO G n .Div (.float a) (.float b) σ Φ := by
  intro τ A s Z E Q v w hR hS ha hb hQ
  cases ha; cases hb
  with_reducible refine AutoFloatOps.truediv_1 hz ?_
  exact (hQ Z _ σ _ _ (str Z) (hS.toks _) (.float _ _ (by first | exact hS.tk | exact hS.tk1 _)) h)
theorem bo_modf {a b : UInt64} (hz : ¬Float64.isZero b = true) (h : Φ (.float (Float64.divmod a b).snd) σ) : BO G n .Mod (.float a) (.float b) σ Φ := by
  intro τ A s Z E Q v w hR hS ha hb hQ
  cases ha; cases hb
  with_reducible refine AutoFloatOps.mod_1 hz ?_
  exact (hQ Z _ σ _ _ (str Z) (hS.toks _) (.float _ _ (by first | exact hS.tk | exact hS.tk1 _)) h)
theorem bo_subfi {a : UInt64} {b : Int} (hf : b.natAbs < 2 ^ 1023) (h : Φ (.float (Float64.sub a (Float64.ofInt b))) σ) : BO G n .Sub (.float a) (.int b) σ Φ := by
  intro τ A s Z E Q v w hR hS ha hb hQ
  cases ha; cases hb
  with_reducible refine sub_fi_fits hf ?_
  exact (hQ Z _ σ _ _ (str Z) (hS.toks _) (.float _ _ (by first | exact hS.tk | exact hS.tk1 _)) h)
theorem bo_addif {a : Int} {b : UInt64} (hf : a.natAbs < 2 ^ 1023) (h : Φ (.float (Float64.add (Float64.ofInt a) b)) σ) : BO G n .Add (.int a) (.float b) σ Φ := by
  intro τ A s Z E Q v w hR hS ha hb hQ
  cases ha; cases hb
  with_reducible refine add_if_fits hf ?_
  exact (hQ Z _ σ _ _ (str Z) (hS.toks _) (.float _ _ (by first | exact hS.tk | exact hS.tk1 _)) h)
theorem bo_mulif {a : Int} {b : UInt64} (hf : a.natAbs < 2 ^ 1023) (h : Φ (.float (Float64.mul (Float64.ofInt a) b)) σ) : BO G n .Mult (.int a) (.float b) σ Φ := by
  intro τ A s Z E Q v w hR hS ha hb hQ
  cases ha; cases hb
  with_reducible refine mul_if_fits hf ?_
  exact (hQ Z _ σ _ _ (str Z) (hS.toks _) (.float _ _ (by first | exact hS.tk | exact hS.tk1 _)) h)
theorem co_eq {a b : Int}  (h : Φ (.bool (a == b)) σ) : CO G n .Eq (.int a) (.int b) σ Φ := by
  intro τ A s Z E Q v w hR hS ha hb hQ
  cases ha; cases hb
  with_reducible refine eq_int ?_
  exact (hQ Z _ σ _ _ (str Z) hS (.bool _) h)
theorem co_ne {a b : Int}  (h : Φ (.bool (a != b)) σ) : CO G n .NotEq (.int a) (.int b) σ Φ := by
  intro τ A s Z E Q v w hR hS ha hb hQ
  cases ha; cases hb
  with_reducible refine PyProof.Rows.ne_int ?_
  exact (hQ Z _ σ _ _ (str Z) hS (.bool _) h)
theorem co_lt {a b : Int}  (h : Φ (.bool (decide (a < b))) σ) : CO G n .Lt (.int a) (.int b) σ Φ := by
  intro τ A s Z E Q v w hR hS ha hb hQ
  cases ha; cases hb
  with_reducible refine lt_int ?_
  exact (hQ Z _ σ _ _ (str Z) hS (.bool _) h)
theorem co_le {a b : Int}  (h : Φ (.bool (decide (a ≤ b))) σ) : CO G n .LtE (.int a) (.int b) σ Φ := by
  intro τ A s Z E Q v w hR hS ha hb hQ
  cases ha; cases hb
  with_reducible refine PyProof.Rows.le_int ?_
  exact (hQ Z _ σ _ _ (str Z) hS (.bool _) h)
theorem co_gt {a b : Int}  (h : Φ (.bool (decide (a > b))) σ) : CO G n .Gt (.int a) (.int b) σ Φ := by
  intro τ A s Z E Q v w hR hS ha hb hQ
  cases ha; cases hb
  with_reducible refine PyProof.Rows.gt_int ?_
  exact (hQ Z _ σ _ _ (str Z) hS (.bool _) h)
theorem co_eqs {a b : Str}  (h : Φ (.bool (a == b)) σ) : CO G n .Eq (.str a) (.str b) σ Φ := by
  intro τ A s Z E Q v w hR hS ha hb hQ
  cases ha; cases hb
  with_reducible refine eq_str ?_
  exact (hQ Z _ σ _ _ (str Z) hS (.bool _) h)
theorem co_ins {a b : Str}  (h : Φ (.bool (Txt.contains a b)) σ) : CO G n .In (.str b) (.str a) σ Φ := by
  intro τ A s Z E Q v w hR hS ha hb hQ
  cases ha; cases hb
  with_reducible refine SB.contains ?_
  exact (hQ Z _ σ _ _ (str Z) hS (.bool _) h)
theorem co_eqf {a b : UInt64}  (h : Φ (.bool (Float64.cmp a b == some Ordering.eq)) σ) : CO G n .Eq (.float a) (.float b) σ Φ := by
  intro τ A s Z E Q v w hR hS ha hb hQ
  cases ha; cases hb
  with_reducible refine AutoFloatOps.eq_0 ?_
  exact (hQ Z _ σ _ _ (str Z) hS (.bool _) h)
theorem co_ltf {a b : UInt64}  (h : Φ (.bool (Float64.cmp a b == some Ordering.lt)) σ) : CO G n .Lt (.float a) (.float b) σ Φ := by
  intro τ A s Z E Q v w hR hS ha hb hQ
  cases ha; cases hb
  with_reducible refine AutoFloatOps.lt_0 ?_
  exact (hQ Z _ σ _ _ (str Z) hS (.bool _) h)
theorem co_ltif {a : Int} {b : UInt64}  (h : Φ (.bool (Float64.cmpInt b a == some Ordering.gt)) σ) : CO G n .Lt (.int a) (.float b) σ Φ := by
  intro τ A s Z E Q v w hR hS ha hb hQ
  cases ha; cases hb
  with_reducible refine lt_if ?_
  exact (hQ Z _ σ _ _ (str Z) hS (.bool _) h)
theorem co_isnone (h : Φ (.bool true) σ) : CO G n .Is .none .none σ Φ := by
  intro τ A s Z E Q v w hR hS ha hb hQ
  cases ha; cases hb
  exact wpAny_is_self rfl (hQ Z _ σ _ _ (str Z) hS (.bool _) h)
theorem co_isnone_val {f : Addr} (h : Φ (.bool false) σ) : CO G n .Is (.val (.ref f)) .none σ Φ := by
  intro τ A s Z E Q v w hR hS ha hb hQ
  cases ha; cases hb
  exact wpAny_is_other rfl (fun e => nomatch e) (hQ Z _ σ _ _ (str Z) hS (.bool _) h)
theorem tr_bool {b : Bool} (h : Ψ b σ) : TR G n (.bool b) σ Ψ := by
  intro τ A s Z E Q v hR hS ha hQ
  cases ha
  exact wpAny_truthy_bool (hQ Z _ σ _ _ (str Z) hS rfl h)
theorem tr_int {i : Int} (h : Ψ (i != 0) σ) : TR G n (.int i) σ Ψ := by
  intro τ A s Z E Q v hR hS ha hQ
  cases ha
  exact PySem.P.truthy_int (hQ Z _ σ _ _ (str Z) hS rfl h)
theorem tr_str {x : Str} (hx : ¬ (x.length : Int) ≥ 2 ^ 63) (h : Ψ ((x.length : Int) != 0) σ) : TR G n (.str x) σ Ψ := by
  intro τ A s Z E Q v hR hS ha hQ
  cases ha
  exact PySem.P.truthy_str hx (hQ Z _ σ _ _ (str Z) (hS.toks _) rfl h)
inductive SeqIs (σ : Led) : D → List D → Prop
  | lst (xs : List D) : SeqIs σ (.lst xs) xs
  | obj {a : Addr} {xs : List D} (h : (a, Cell.list xs) ∈ σ) : SeqIs σ (.obj a) xs
theorem SeqIs.here {σ τ : Led} {d : D} {xs : List D} {Z : Heap} {s : Shared} {v : Value} (I : SeqIs σ d xs) (S : St G Z (σ ++ τ) s) (hv : VR Z d v) : ∃ a vs, v = .ref a ∧ s.heap.IsList a vs ∧ VRs Z xs vs.toList := by
  cases I with
  | lst xs => cases hv with | lst h r => exact ⟨_, _, rfl, isList_keeps S.zin h, r⟩
  | obj h => cases hv with
    | obj a =>
      obtain ⟨o, e, vs, n, rfl, r⟩ := S.cells _ (List.mem_append_left τ h)
      exact ⟨_, vs, rfl, ⟨_, e, rfl, n, rfl⟩, r⟩
end
end Mine
namespace Mine
def allBut (h : Heap) (L : Addr) : List (Addr × Obj) := (List.range h.objs.size).filterMap fun a => if a = L then none else (h.get? a).map fun o => (a, o)
theorem mem_allBut {h : Heap} {L a : Addr} {o : Obj} : (a, o) ∈ allBut h L ↔ a ≠ L ∧ h.get? a = some o := by
  unfold allBut
  rw [List.mem_filterMap]
  constructor
  · rintro ⟨b, _, e⟩
    by_cases q : b = L
    · rw [if_pos q] at e; cases e
    · rw [if_neg q] at e
      obtain ⟨o', e1, e2⟩ := Option.map_eq_some_iff.mp e
      cases e2
      exact ⟨q, e1⟩
  · rintro ⟨q, e⟩
    exact ⟨a, List.mem_range.mpr (Heap.lt_size e), by rw [if_neg q, e]; rfl⟩
theorem empty_none (a : Addr) : ({} : Heap).get? a = none := by
  cases e : ({} : Heap).get? a with
  | none => rfl
  | some o => exact absurd (Heap.lt_size e) (Nat.not_lt_zero _)
theorem news_all (h : Heap) (L : Addr) : News {} L h (allBut h L) := fun p hp => by
  obtain ⟨a, b⟩ := mem_allBut.mp (show (p.1, p.2) ∈ _ from hp)
  exact ⟨b, a, empty_none _⟩
theorem fr_all {h : Heap} {L : Addr} {mm : Str → Option Value} (N : h.Ns L mm) : Fr {} L h mm := ⟨N, fun b o e => (by rw [empty_none] at e; cases e), Nat.zero_le _⟩
theorem St.via {G : Gl} {Z : Heap} {σ : Led} {s : Shared} (S : St G Z σ s) {L : Addr} {m : List (Str × Option D)} (hm : (L, Cell.ns m) ∈ σ) :
    ∃ mm, Fr {} L s.heap mm ∧ News {} L s.heap (allBut s.heap L) ∧ ∀ h' t, Fr {} L h' mm → News {} L h' (allBut s.heap L) → s.toks ≤ t →
      ∃ Z', Z.StaysIn Z' ∧ St G Z' σ { s with heap := h', toks := t } ∧ ∀ a o, h'.get? a = some o → s.heap.get? a = none → Z'.get? a = some o := by
  obtain ⟨mm, N, nd, hf⟩ := S.ns hm
  refine ⟨mm, fr_all N, news_all _ _, fun h' t F' N' ht => ?_⟩
  obtain ⟨oL, eL, cL⟩ := ns_cell (Z := Z) F'.ns nd hf
  have k : ∀ a o, a ≠ L → s.heap.get? a = some o → h'.get? a = some o := fun a o q e => (N' _ (mem_allBut.mpr ⟨q, e⟩)).1
  have S' : St G Z σ { s with heap := h', toks := t } := by
    refine ⟨fun b o e => k b o (fun q => ?_) (S.zin b o e), S.base, S.nod, S.hid, fun p hp => ?_, S.os, S.gens, Nat.lt_of_lt_of_le S.pos ht⟩
    · have := S.hid _ hm; rw [← show b = _ from q, e] at this; cases this
    · by_cases q : p.1 = L
      · have e2 : p = (L, Cell.ns m) := by
          obtain ⟨o, eo, _⟩ := S.cells p hp
          have nd := S.nod
          obtain ⟨p1, p2⟩ := p
          dsimp only at q; subst q
          have : ∀ {l : Led} {c c' : Cell}, (l.map (·.1)).Nodup → (p1, c) ∈ l → (p1, c') ∈ l → c = c' := by
            intro l c c' nd h1 h2
            induction l with
            | nil => cases h1
            | cons x l ih =>
              simp only [List.map_cons] at nd
              obtain ⟨n1, n2⟩ := List.nodup_cons.mp nd
              rcases List.mem_cons.mp h1 with e1 | h1 <;> rcases List.mem_cons.mp h2 with e2 | h2
              · rw [← e1] at e2; exact (Prod.mk.inj e2).2.symm
              · exact absurd (List.mem_map.mpr ⟨_, h2, by rw [← e1]⟩) n1
              · exact absurd (List.mem_map.mpr ⟨_, h1, by rw [← e2]⟩) n1
              · exact ih n2 h1 h2
          rw [this nd hp hm]
        subst e2
        exact ⟨oL, eL, cL⟩
      · obtain ⟨o, e, r⟩ := S.cells p hp
        exact ⟨o, k _ _ q e, r⟩
  exact ⟨_, S'.frozen, S'.refresh, fun a o e n => hideAll_get _ e (S.notIn n)⟩
section
variable {G : Gl} {n : Nat} {env : Env} {L : Addr} {ks : List (Str × NameKind)} {cs : List (Str × Addr)} {σ : Led} {Φ : D → Led → Prop} {pos : Pos}
abbrev GI (G : Gl) (n : Nat) (d i : D) (σ : Led) (Φ : D → Led → Prop) := ∀ value slice : Expr, (∀ o k, subscripted slice false o k = operate [o, k] (getItem o k)) → W2 G n VR (subscriptTail value slice) d i σ Φ
theorem ev_sub {value slice : Expr} (h : EV G n env value σ fun d σ₁ => EV G n env slice σ₁ fun i σ₂ => GI G n d i σ₂ Φ) (hs : ∀ o k, subscripted slice false o k = operate [o, k] (getItem o k) := by intro _ _; rfl) :
    EV G n env (.Subscript value slice pos) σ Φ :=
  fun τ A s _ _ _ hR hS hQ => Subscript_ (h τ A s _ _ _ hR hS fun _ _ _ va s1 k1 S1 ra p1 => p1 τ A s1 _ _ _ hR S1 fun _ _ _ vb s2 k2 S2 rb p2 =>
    p2 value slice hs τ A s2 _ _ _ va vb hR S2 (ra.mono k2) rb fun _ _ _ v s3 k3 S3 r3 p3 => hQ _ _ _ v s3 (stt k1 (stt k2 k3)) S3 r3 p3)
theorem tail_str {prog : Program} {w : World} {A : Around} {E : Value → Shared → Prop} {s : Shared} {value slice : Expr} {x : Str} {t u : Tok} {i : Int} {Q : Value → Shared → Prop}
    (h1 : fitsSsize i = true) (h2 : (Txt.charAt x i).isSome = true) (h : Q (.str (Txt.item x i) s.toks) { s with toks := s.toks + 1 }) (hs : subscripted slice false (.str x t) (.int i u) = operate [.str x t, .int i u] (getItem (.str x t) (.int i u))) :
    wpAny (model prog w) A (subscriptTail value slice (.str x t) (.int i u)) Q E s := by
  obtain ⟨T, id, a, b, c⟩ := SB.item (prog := prog) (w := w) (A := A) (E := E) (t := t) (u := u) h1 h2 h
  exact tail_any b a c hs
theorem gi_str {x : Str} {i : Int} (h1 : fitsSsize i = true) (h2 : (Txt.charAt x i).isSome = true) (h : Φ (.str (Txt.item x i)) σ) : GI G n (.str x) (.int i) σ Φ := by
  intro value slice hs τ A s Z E Q v w hR hS ha hb hQ
  cases ha; cases hb
  with_reducible refine tail_str h1 h2 ?_ (hs _ _)
  exact hQ Z _ σ _ _ (str Z) (hS.toks _) (.str _ _) h
theorem gi_list {d x : D} {xs : List D} {i : Int} (hd : SeqIs σ d xs) (h0 : 0 ≤ i) (hx : xs[i.toNat]? = some x) (h1 : i < 2 ^ 63) (h : Φ x σ) : GI G n d (.int i) σ Φ := by
  intro value slice hs τ A s Z E Q v w hR hS ha hb hQ
  cases hb
  obtain ⟨a, vs, rfl, hl, r⟩ := hd.here hS ha
  obtain ⟨v, e, rv⟩ := r.get _ hx
  refine tail_any hl.typeIs slot_list_getitem.lookup (wpAny_getItem_list hl h0 h1 (by rw [← Array.getElem?_toList]; exact e) (hQ Z _ σ _ _ (str Z) hS rv h)) (hs _ _)
theorem gi_tup {x : D} {xs : List D} {i : Nat} (hx : xs[i]? = some x) (h1 : i < 2 ^ 62) (h : Φ x σ) : GI G n (.tup xs) (.int i) σ Φ := by
  intro value slice hs τ A s Z E Q v w hR hS ha hb hQ
  cases hb
  cases ha with
  | tup ht r =>
    obtain ⟨v, e, rv⟩ := r.get _ hx
    have ht' := isTuple_keeps hS.zin ht
    have hi := (List.getElem?_eq_some_iff.mp e).1
    refine tail_any (IsTup.typeIs ht') PySem.F.slot_tuple_getitem.lookup (PyProof.Rows.getItem_tuple (j := i) ht' (by kt_len) (by kt_len) ?_ (by rw [← Array.getElem?_toList]; exact e) (hQ Z _ σ _ _ (str Z) hS rv h)) (hs _ _)
    unfold seqIndex?
    simp only [Array.length_toList] at hi
    simp only [show ¬ ((i : Int) < 0) by kt_len, if_false]
    rw [if_pos (by simp; omega)]
    simp
abbrev EP (G : Gl) (n : Nat) (env : Env) (e : Option Expr) := W G n VR (evalPart e env)
theorem ep_none (h : Φ .none σ) : EP G n env none σ Φ := fun _ _ _ Z _ _ _ hS hQ => wpAny_evalPart_none (hQ Z _ σ _ _ (str Z) hS .none h)
theorem ep_some {e : Expr} (h : EV G n env e σ Φ) : EP G n env (some e) σ Φ := fun τ A s _ _ _ hR hS hQ => wpAny_evalPart_some (h τ A s _ _ _ hR hS hQ)
def SL (G : Gl) (n : Nat) (d l u : D) (σ : Led) (Φ : D → Led → Prop) : Prop := ∀ (value slice : Expr) (τ : Led) (A : Around) (s : Shared) (Z : Heap) (E : Value → Shared → Prop) (Q : Value → Shared → Prop) (v vl vu : Value),
  (∀ o k, subscripted slice false o k = operate [k, o] (getItem o k)) → Room n A → St G Z (σ ++ τ) s → VR Z d v → VR Z l vl → VR Z u vu →
  (∀ Z' d σ' v s', Z.StaysIn Z' → St G Z' (σ' ++ τ) s' → VR Z' d v → Φ d σ' → Q v s') → wpAny (model G.prog G.w) A (subscriptTail value slice v (.ref s.heap.objs.size)) Q E { s with heap := s.heap.push { cls := .type "slice", data := .fields #[vl, vu, .none] } }
theorem ev_slice {value : Expr} {lower upper : Option Expr} {p : Pos} (h : EV G n env value σ fun d σ₁ => EP G n env lower σ₁ fun l σ₂ => EP G n env upper σ₂ fun u σ₃ => SL G n d l u σ₃ Φ) :
    EV G n env (.Subscript value (.Slice lower upper none p) pos) σ Φ :=
  fun τ A s _ _ _ hR hS hQ => Subscript_ (h τ A s _ _ _ hR hS fun _ _ _ va s1 k1 S1 ra p1 => wpAny_Slice (p1 τ A s1 _ _ _ hR S1 fun _ _ _ vl s2 k2 S2 rl p2 => p2 τ A s2 _ _ _ hR S2 fun _ _ _ vu s3 k3 S3 ru p3 =>
    wpAny_evalPart_none (p3 value _ τ A s3 _ _ _ va vl vu (fun _ _ => rfl) hR S3 (ra.mono (stt k2 k3)) (rl.mono k3) ru fun _ _ _ v s4 k4 S4 r4 p4 => hQ _ _ _ v s4 (stt k1 (stt k2 (stt k3 k4))) S4 r4 p4)))
def keepsP (h₀ : Heap) : Heap → Prop := fun h => h₀.StaysIn h
theorem kept_keepsP {h₀ : Heap} : KeptH (keepsP h₀) := fun _ ob a => fun _ _ e => Heap.get?_push_of_some ob (a _ _ e)
inductive PartOf : D → Option Int → Prop
  | none : PartOf .none none
  | int (i : Int) : PartOf (.int i) (some i)
theorem sl_str {x : Str} {l u : D} {lo hi : Option Int} (pl : PartOf l lo) (pu : PartOf u hi) (hx : x.length ≤ sizeLine) (h : Φ (.str (Txt.slice x lo hi)) σ) : SL G n (.str x) l u σ Φ := by
  intro value slice τ A s Z E Q v vl vu hs hR hS ha hl hu hQ
  cases ha
  rename_i t
  refine tkw ?_
  have fin : ∀ (h' : Heap) (t' : Tok) (k : Nat), keepsP s.heap h' → (fun v s' => s.toks ≤ s'.toks → Q v s') (.str (Txt.slice x lo hi) t') { s with heap := h', toks := k } := fun h' t' k kk hle =>
    hQ Z _ σ _ _ (str Z) (hS.grow kk _) (.str _ _) h
  have it : ItemOn (model G.prog G.w) A E (.str x t) (.ref s.heap.objs.size) (fun v s' => s.toks ≤ s'.toks → Q v s') { s with heap := s.heap.push { cls := .type "slice", data := .fields #[vl, vu, .none] } } := by
    cases pl <;> cases pu <;> cases hl <;> cases hu
    · exact SBH.sliceItem_nn (P := keepsP s.heap) kept_keepsP (str _) fin hx
    · exact SBH.sliceItem_ns (P := keepsP s.heap) kept_keepsP (str _) fin hx
    · exact SBH.sliceItem_sn (P := keepsP s.heap) kept_keepsP (str _) fin hx
    · exact SBH.sliceItem_ss (P := keepsP s.heap) kept_keepsP (str _) fin hx
  obtain ⟨T, id, a, b, c⟩ := it
  exact tail_any b a c (hs _ _)
def cutA (lo : Option Int) (n : Nat) : Nat := match lo with | none => 0 | some i => (max 0 (min (if i < 0 then i + n else i) n)).toNat
def cutB (hi : Option Int) (n : Nat) : Nat := match hi with | none => n | some i => (max 0 (min (if i < 0 then i + n else i) n)).toNat
def cutL {α : Type} (xs : List α) (lo hi : Option Int) : List α := (xs.drop (cutA lo xs.length)).take (cutB hi xs.length - cutA lo xs.length)
theorem bounds_cut (lo hi : Option Int) (n : Nat) : sliceBounds lo hi none n = ((cutA lo n : Int), (cutB hi n : Int), 1) := by
  unfold sliceBounds cutA cutB
  cases lo <;> cases hi <;> simp <;> omega
theorem pick_cut (items : Array Value) (lo hi : Option Int) : (slicePick items lo hi none).toList = cutL items.toList lo hi := by
  rw [kmk_pick_nat items (bounds_cut lo hi items.size)]; rfl
theorem VRs.cut {Z : Heap} {ds : List D} {vs : List Value} (lo hi : Option Int) (h : VRs Z ds vs) : VRs Z (cutL ds lo hi) (cutL vs lo hi) := by
  unfold cutL; rw [h.length]; exact (h.drop _).take _
theorem isPart_of {Z : Heap} {l : D} {lo : Option Int} {v : Value} (p : PartOf l lo) (h : VR Z l v) : IsPart v lo := by
  cases p <;> cases h
  · exact .none
  · exact .int _ _
theorem sl_list {d : D} {xs : List D} {l u : D} {lo hi : Option Int} (hd : SeqIs σ d xs) (pl : PartOf l lo) (pu : PartOf u hi) (hx : xs.length ≤ sizeLine) (h : Φ (.lst (cutL xs lo hi)) σ) : SL G n d l u σ Φ := by
  intro value slice τ A s Z E Q v vl vu hs hR hS ha hl hu hQ
  obtain ⟨a, vs, rfl, hlst, r⟩ := hd.here hS ha
  have k1 : s.heap.StaysIn (s.heap.push { cls := .type "slice", data := .fields #[vl, vu, .none] }) := fun _ _ e => Heap.get?_push_of_some _ e
  have hl1 := isList_keeps k1 hlst
  refine tail_any hl1.typeIs slot_list_getitem.lookup (wpAny_getItem_list_slice hl1 ⟨_, Heap.get?_push_size _ rfl, rfl, rfl⟩ (isPart_of pl hl) (isPart_of pu hu) .none (by intro e; cases e) ?_ (by have := r.length; simp only [Array.length_toList] at this; rw [← this]; exact hx)) (hs _ _)
  have k2 : s.heap.StaysIn ((s.heap.push { cls := .type "slice", data := .fields #[vl, vu, .none] }).push { cls := .type "list", data := .seq (slicePick vs lo hi none) }) := stt k1 fun _ _ e => Heap.get?_push_of_some _ e
  obtain ⟨Z', kz, S', fz⟩ := hS.more k2 s.toks
  refine hQ Z' _ σ _ _ kz S' (.lst (vs := slicePick vs lo hi none) ⟨_, fz _ _ (Heap.get?_push_size _ rfl) ?_, rfl, _, rfl⟩ ?_) h
  · cases e : s.heap.get? (s.heap.push { cls := .type "slice", data := .fields #[vl, vu, .none] }).objs.size with
    | none => rfl
    | some o => exact absurd (Heap.lt_size e) (by rw [Heap.size_push]; exact Nat.not_lt.mpr (Nat.le_succ _))
  · rw [pick_cut]; exact (r.mono kz).cut lo hi
theorem cl_len_str {x : Str} (hx : x.length ≤ sizeLine) (h : Φ (.int x.length) σ) : CL G n (.builtin "len") [.str x] σ Φ := by
  intro τ A s Z E Q vs hR hS hv hQ
  obtain ⟨v, rfl, ha⟩ := vr1 hv
  cases ha
  with_reducible refine PySem.P.len_str (by rw [sizeLine_eq] at hx; omega) ?_
  exact hQ Z _ σ _ _ (str Z) (hS.toks _) (.int _ _) h
theorem cl_abs {i : Int} (h : Φ (.int (if i < 0 then -i else i)) σ) : CL G n (.builtin "abs") [.int i] σ Φ := by
  intro τ A s Z E Q vs hR hS hv hQ
  obtain ⟨v, rfl, ha⟩ := vr1 hv
  cases ha
  with_reducible refine tkw (call_abs_int fun u tk => fun (hle : s.toks ≤ tk) => ?_)
  exact hQ Z _ σ _ _ (str Z) (hS.toks _) (.int _ _) h
theorem cl_chr {i : Int} (h0 : 0 ≤ i) (h1 : i ≤ 1114111) (h : Φ (.str ⟨#[i.toNat]⟩) σ) : CL G n (.builtin "chr") [.int i] σ Φ := by
  intro τ A s Z E Q vs hR hS hv hQ
  obtain ⟨v, rfl, ha⟩ := vr1 hv
  cases ha
  with_reducible refine chr_of_range h0 h1 ?_
  exact hQ Z _ σ _ _ (str Z) (hS.toks _) (.str _ _) h
theorem push_new {h : Heap} {o : Obj} (hf : o.isFreed = false) {G : Gl} {Z : Heap} {σ : Led} {s : Shared} (S : St G Z σ s) (e : s.heap = h) (t : Tok) (ht : s.toks ≤ t := by first | exact Nat.le_refl _ | omega | assumption) : ∃ Z', Z.StaysIn Z' ∧ St G Z' σ { s with heap := h.push o, toks := t } ∧ Z'.get? h.objs.size = some o := by
  subst e
  obtain ⟨Z', k, S', f⟩ := S.more (h' := s.heap.push o) (fun _ _ e => Heap.get?_push_of_some _ e) t
  exact ⟨Z', k, S', f _ _ (Heap.get?_push_size _ hf) (size_none _)⟩
theorem cl_range1 {i : Int} (h : Φ (.rng 0 i 1) σ) : CL G n (.type "range") [.int i] σ Φ := by
  intro τ A s Z E Q vs hR hS hv hQ
  obtain ⟨v, rfl, ha⟩ := vr1 hv
  cases ha
  rename_i t
  with_reducible refine call_range_1 ?_
  obtain ⟨Z', k, S', e⟩ := push_new (o := { cls := .type "range", data := .fields #[.int 0 s.toks, .int i t, .int 1 (s.toks + 1)] }) rfl hS rfl (s.toks + 1 + 1)
  exact hQ Z' _ σ _ _ k S' (.rng e) h
theorem cl_range2 {i j : Int} (h : Φ (.rng i j 1) σ) : CL G n (.type "range") [.int i, .int j] σ Φ := by
  intro τ A s Z E Q vs hR hS hv hQ
  obtain ⟨v, w, rfl, ha, hb⟩ := vr2 hv
  cases ha; cases hb
  rename_i t u
  with_reducible refine call_range_2 ?_
  obtain ⟨Z', k, S', e⟩ := push_new (o := { cls := .type "range", data := .fields #[.int i t, .int j u, .int 1 s.toks] }) rfl hS rfl (s.toks + 1)
  exact hQ Z' _ σ _ _ k S' (.rng e) h
theorem cl_range3 {i j c : Int} (hc : c ≠ 0) (hp : Builtin.divisionGoesByPylong (j - i) c = false) (h : Φ (.rng i j c) σ) : CL G n (.type "range") [.int i, .int j, .int c] σ Φ := by
  intro τ A s Z E Q vs hR hS hv hQ
  obtain ⟨u, v, w, rfl, ha, hb, hd⟩ := vr3 hv
  cases ha; cases hb; cases hd
  rename_i t u r
  with_reducible refine call_range_3 hc ?_ (.inl hp)
  obtain ⟨Z', k, S', e⟩ := push_new (o := { cls := .type "range", data := .fields #[.int i t, .int j u, .int c r] }) rfl hS rfl s.toks
  exact hQ Z' _ σ _ _ k S' (.rng e) h
theorem vrs_of_items {Z : Heap} : ∀ {ds : List D} {vs : List Value}, ds.length = vs.length → (∀ (i : Nat) d v, ds[i]? = some d → vs[i]? = some v → VR Z d v) → VRs Z ds vs
  | [], [], _, _ => .nil
  | d :: ds, v :: vs, e, h => .cons (h 0 d v rfl rfl) (vrs_of_items (by simpa using e) fun i d v a b => h (i + 1) d v (by simpa using a) (by simpa using b))
  | [], _ :: _, e, _ => by simp at e
  | _ :: _, [], e, _ => by simp at e
theorem cl_list_range {lo hi st : Int} {k : Nat} (hs : Builtin.Range.small lo hi st = true) (hn : Builtin.Range.rangeSize lo hi st = k) (hk : k ≤ 2 ^ 24)
    (h : ∀ a, Φ (.obj a) ((a, .list ((List.range k).map fun (i : Nat) => D.int (lo + i * st))) :: σ)) : CL G n (.type "list") [.rng lo hi st] σ Φ := by
  intro τ A s Z E Q vs hR hS hv hQ
  obtain ⟨v, rfl, ha⟩ := vr1 hv
  cases ha with
  | rng hr =>
    refine tkw (call_list_range hR.1 (isRange_keeps hS.zin hr) hs hn hk fun h' tk acc c' kk e it (hle : s.toks ≤ tk) => ?_)
    refine hQ Z _ _ _ _ (str Z) (hS.add kk tk (size_none _) e ?_) (.obj _) (h _)
    refine ⟨acc, c', rfl, vrs_of_items ?_ fun i d v hd hv => ?_⟩
    · simpa using it.1.symm
    · obtain ⟨t, rfl⟩ := it.2 i v (by simpa using hv)
      have hi := (List.getElem?_eq_some_iff.mp hd).1
      simp only [List.length_map, List.length_range] at hi
      simp only [List.getElem?_map, List.getElem?_range hi, Option.map_some, Option.some.injEq] at hd
      subst hd; exact .int _ _
end
end Mine
namespace Mine
section
variable {G : Gl} {n : Nat} {env : Env} {L : Addr} {ks : List (Str × NameKind)} {cs : List (Str × Addr)} {σ : Led} {Φ : D → Led → Prop} {pos : Pos}
theorem Room.hh {n : Nat} {A : Around} (h : Room n A) : A.handled = none := h.1
theorem cl_min2 {a b : Int} {m : List (Str × Option D)} (hm : (L, Cell.ns m) ∈ σ) (h : Φ (.int (if b < a then b else a)) σ) : CL G n (.builtin "min") [.int a, .int b] σ Φ := by
  intro τ A s Z E Q vs hR hS hv hQ
  obtain ⟨v, w, rfl, ha, hb⟩ := vr2 hv
  cases ha; cases hb
  obtain ⟨mm, F, N, back⟩ := hS.via (List.mem_append_left τ hm)
  with_reducible refine tkw (min_two_N hR.hh F N fun h' tk F' N' => fun (hle : s.toks ≤ tk) => ?_)
  obtain ⟨Z', k, S', _⟩ := back h' tk F' N' hle
  exact hQ Z' _ σ _ _ k S' (.int _ _) h
theorem ev_lower {o : Expr} {apos : Pos} (h : EV G n env o σ fun d σ₁ => ∃ x, d = .str x ∧ Builtin.Str.tooLong (Txt.lower x).length = false ∧ Φ (.str (Txt.lower x)) σ₁)
    (hbase : attributeBase o "lower" env (eval o env) = eval o env := by rfl) (hl : (apos.endLine == pos.line) = true := by rfl) : EV G n env (.Call (.Attribute o "lower" apos) [] [] pos) σ Φ :=
  fun τ A s _ _ _ hR hS hQ => wpAny_Call_method_lateS hbase rfl hl (h τ A s _ _ _ hR hS fun Z1 d σ1 v s1 k1 S1 r1 ⟨x, e, hx, p1⟩ => by
    subst e
    cases r1
    exact SB.lower hx (hQ Z1 _ σ1 _ _ k1 (S1.toks _) (.str _ _) p1))
theorem ev_tuple {elts : List Expr} {k : Nat} (h : EVs G n env elts σ fun ds σ₁ => ds.length ≤ 1000 ∧ Φ (.tup ds) σ₁)
    (he : backTo pos (starEach elts env) = elts.map fun e => (false, eval e env) := by rfl) : EV G n env (.Tuple elts k pos) σ Φ := by
  intro τ A s Z E Q hR hS hQ
  refine Tuple_ ?_
  rw [he]
  refine h τ A s Z E _ hR hS fun Z1 ds σ1 vs s1 k1 S1 r1 p1 => ?_
  refine wpAny_newTuple ?_ (by rw [← r1.length, sizeLine_eq]; have := p1.1; omega)
  obtain ⟨Z2, k2, S2, e2⟩ := push_new (o := { cls := .type "tuple", data := .seq vs.toArray }) rfl S1 rfl s1.toks
  exact hQ Z2 _ σ1 _ _ (stt k1 k2) S2 (.tup ⟨_, e2, rfl, _, rfl⟩ (by simpa using r1.mono k2)) p1.2
theorem ev_list {elts : List Expr} (h : EVs G n env elts σ fun ds σ₁ => ds.length ≤ 1000 ∧ Φ (.lst ds) σ₁)
    (he : backTo pos (starEach elts env) = elts.map fun e => (false, eval e env) := by rfl) : EV G n env (.List elts pos) σ Φ := by
  intro τ A s Z E Q hR hS hQ
  refine List_ ?_
  rw [he]
  refine h τ A s Z E _ hR hS fun Z1 ds σ1 vs s1 k1 S1 r1 p1 => ?_
  refine wpAny_newList ?_ (by rw [← r1.length, sizeLine_eq]; have := p1.1; omega)
  obtain ⟨Z2, k2, S2, e2⟩ := push_new (o := { cls := .type "list", data := .seq vs.toArray }) rfl S1 rfl s1.toks
  exact hQ Z2 _ σ1 _ _ (stt k1 k2) S2 (.lst ⟨_, e2, rfl, _, rfl⟩ (by simpa using r1.mono k2)) p1.2
theorem ev_own {elts : List Expr} (h : EVs G n env elts σ fun ds σ₁ => ds.length ≤ 1000 ∧ ∀ a, Φ (.obj a) ((a, .list ds) :: σ₁))
    (he : backTo pos (starEach elts env) = elts.map fun e => (false, eval e env) := by rfl) : EV G n env (.List elts pos) σ Φ := by
  intro τ A s Z E Q hR hS hQ
  refine List_ ?_
  rw [he]
  refine h τ A s Z E _ hR hS fun Z1 ds σ1 vs s1 k1 S1 r1 p1 => ?_
  refine wpAny_newList ?_ (by rw [← r1.length, sizeLine_eq]; have := p1.1; omega)
  refine hQ Z1 _ _ _ _ k1 (S1.add (h' := s1.heap.push { cls := .type "list", data := .seq vs.toArray }) (fun _ _ e => Heap.get?_push_of_some _ e) s1.toks (size_none _) (Heap.get?_push_size _ rfl) (show CellR Z1 (.list ds) _ from ⟨_, _, rfl, by simpa using r1⟩)) (.obj _) (p1.2 _)
theorem bo_lists {a b : D} {xs ys : List D} {m : List (Str × Option D)} (ha : SeqIs σ a xs) (hb : SeqIs σ b ys) (hm : (L, Cell.ns m) ∈ σ) (hl : xs.length + ys.length ≤ 1000) (h : Φ (.lst (xs ++ ys)) σ) : BO G n .Add a b σ Φ := by
  intro τ A s Z E Q v w hR hS hv hw hQ
  obtain ⟨p, vs, rfl, h1, r1⟩ := ha.here hS hv
  obtain ⟨q, ws, rfl, h2, r2⟩ := hb.here hS hw
  obtain ⟨mm, F, N, back⟩ := hS.via (List.mem_append_left τ hm)
  have e1 := r1.length
  have e2 := r2.length
  simp only [Array.length_toList] at e1 e2
  refine add_arrays F N h1 h2 (fun h' F' N' => ?_) (by rw [sizeLine_eq]; omega)
  obtain ⟨Z', k, S', f⟩ := back h' s.toks F' (fun p hp => N' p (.tail _ hp)) (Nat.le_refl _)
  exact hQ Z' _ σ _ _ k S' (.lst ⟨_, f _ _ (N' _ (.head _)).1 (size_none _), rfl, _, rfl⟩ (by simpa using (r1.append r2).mono k)) h
end
section
variable {G : Gl} {n : Nat} {env : Env} {L : Addr} {ks : List (Str × NameKind)} {cs : List (Str × Addr)} {σ : Led} {Φ : AF → Led → Prop} {pos : Pos}
theorem swapped2 {a b x y : Str} {pa pb tp px py : Pos} {k k2 : Nat} {tp2 : Pos} (hk : env.scope.kind = .function) (ha : env.kindOf a = some .local) (hb : env.kindOf b = some .local) (hl : pb.line = pa.line) (hab : a ≠ b)
    (hx : (x == ("__debug__" : Str)) = false) :
    swappedStores [.Tuple [.Name a pa, .Name b pb] k tp] (.Tuple [.Name x px, .Name y py] k2 tp2) env = pure (some [a, b]) := by
  unfold swappedStores
  have hbk : (env.blockKind != ScopeKind.function) = false := by unfold Env.blockKind; rw [hk]; rfl
  have h1 : [Expr.Name x px, Expr.Name y py].all (foldedForSure 8) = false := rfl
  have h2 : [Expr.Name x px, Expr.Name y py].all (constantsAlone 8) = false := by
    show ((x == ("__debug__" : Str)) && _) = false
    rw [hx]; rfl
  simp only [h1, h2]
  simp [hbk, ha, hb, Expr.pos, hl]
  have hba : (b == a) = false := by rw [beq_eq_false_iff_ne]; exact Ne.symm hab
  have e : [a, b].eraseDups = [a, b] := by simp [List.eraseDups_cons, hba]
  rw [e]; intro hh; exact absurd rfl hh
theorem x_swap {a b x y : Str} {pa pb tp px py : Pos} {k k2 : Nat} {tp2 : Pos} (O : EnvOK env L ks cs) (ha : (a, NameKind.local) ∈ ks) (hb : (b, NameKind.local) ∈ ks) (hab : a ≠ b) (hx : (x == ("__debug__" : Str)) = false)
    (h : EV G n env (.Tuple [.Name x px, .Name y py] k2 tp2) σ fun d σ₁ => ∃ u v m m₁ m₂ σ₂ σ₃, d = .tup [u, v] ∧ UpdL L (.ns m) (.ns m₁) σ₁ σ₂ ∧ UpdN b (some v) m m₁ ∧ UpdL L (.ns m₁) (.ns m₂) σ₂ σ₃ ∧ UpdN a (some u) m₁ m₂ ∧ Φ .next σ₃) (hl : pb.line = pa.line := by rfl) :
    X1 G n env (.Assign [.Tuple [.Name a pa, .Name b pb] k tp] (.Tuple [.Name x px, .Name y py] k2 tp2) pos) σ Φ := by
  intro τ A s Z E Q hR hS hQ
  rw [arm_exec_Assign]
  refine wpAny_bind (wpAny_standAt (wpAny_bind (wpAny_of_eq (a := false) rfl ?_)))
  show wpAny _ _ (eval _ env >>= _) _ _ _
  refine wpAny_bind (h τ A s Z E _ hR hS fun Z1 d σ1 v s1 k1 S1 r1 ⟨u, w, m, m₁, m₂, σ₂, σ₃, e, U1, V1, U2, V2, p1⟩ => ?_)
  subst e
  rw [swapped2 O.kind ((O.k _ ha).1 rfl) ((O.k _ hb).1 rfl) hl hab hx]
  refine wpAny_bind (wpAny_pure ?_)
  cases r1 with
  | @tup t vs _ ht r =>
    have hlen := r.length
    obtain ⟨v1, v2, e, hv1, hv2⟩ := vr2 r
    have esz : vs.size = 2 := by simpa using hlen.symm
    show wpAny _ _ (do rule "assign.swapped-stores"; let items ← unpackItems (.ref t) 2 none; assignInOrder ([b, a].map fun n => bindName env n) items.reverse; pure Flow.next : Sem Flow) _ _ _
    refine wpAny_bind (wpAny_rule (wpAny_bind ?_))
    rw [← esz]
    refine wpAny_unpackItems_tuple hR.1 (isTuple_keeps S1.zin ht) fun h' hs' => ?_
    have keep : s1.heap.StaysIn h' := fun q o eq => hs' q o (Nat.ne_of_lt (Heap.lt_size eq)) eq
    rw [e]
    refine wpAny_bind (wpAny_assignInOrder_more (wpAny_bindName (store_local O hb (U1.app τ) V1 (S1.grow keep s1.toks) hv2 fun s3 S3 =>
      wpAny_assignInOrder_more (wpAny_bindName (store_local O ha (U2.app τ) V2 S3 hv1 fun s4 S4 => wpAny_assignInOrder_none (wpAny_pure ?_))))))
    exact hQ _ _ _ _ _ k1 S4 .next p1
end
theorem has_K {G : Gl} {x : Str} {v : Value} {d : D} (e : nsIn G.K mainGlobals x = some (some v)) (hv : ∀ Z, VR Z d v) : Has G x d := ⟨v, .inl (mg_of G.kin G.ns e), hv⟩
theorem has_B {G : Gl} {x : Str} {v : Value} {d : D} (e : nsIn G.K mainGlobals x = some none) (hb : bootBuiltins x = some v) (hn : x ≠ "__name__") (hv : ∀ Z, VR Z d v) : Has G x d := ⟨v, .inr ⟨mg_none_of G.kin G.ns e, (G.bi x hn).trans hb⟩, hv⟩
theorem defOf_K {G : Gl} {f : Addr} {name qual : Str} {params : Arguments} {body : List Stmt} {scope : Scope} {dV kV doc pm cdv ct oc : Value} {an od : Option Addr} {osl : Array (Option Value)}
    (h : G.K.lookup f = some ⟨oc, od, .func (fnX name qual params body scope [] dV kV doc pm an cdv ct), osl⟩) (hc : codeIn G.K cdv qual = true)
    (h1 : (!scope.isCoroutine && !scope.isGenerator && scope.kind == .function) = true) : DefOf G f (fnX name qual params body scope [] dV kV doc pm an cdv ct) body where
  at_ := ⟨_, G.kin _ _ h, rfl⟩
  body := rfl
  code := codeRec_of G.kin hc
  co := by simp only [Bool.and_eq_true, Bool.not_eq_true'] at h1; exact h1.1.1
  gen := by simp only [Bool.and_eq_true, Bool.not_eq_true'] at h1; exact h1.1.2
  kind := by simp only [Bool.and_eq_true] at h1; exact eq_of_beq h1.2
  glo := rfl
  bui := rfl
theorem pure_use {G : Gl} {n m : Nat} {f : Value} {ds : List D} {σ : Led} {Φ : D → Led → Prop} {r : D} (h : CL G m f ds [] fun d σ' => d = r ∧ σ' = []) (hn : m ≤ n) (hp : Φ r σ) : CL G n f ds σ Φ :=
  WI.frame (σ := []) (ρ := σ) ((h.le hn).mono fun d σ' e => by rw [e.1, e.2]; exact hp)
end Mine
namespace Mine
theorem ret_pure {d r : D} {σ : Led} (h : d = r) : RetK (fun d σ' => d = r ∧ σ' = []) (.ret d) σ := ⟨[], List.nil_sublist _, h, rfl⟩
section
variable {G : Gl} {n : Nat} {env : Env} {L : Addr} {ks : List (Str × NameKind)} {cs : List (Str × Addr)} {σ : Led} {Φ : AF → Led → Prop} {pos : Pos}
theorem fork_inv {t : Expr} {body : List Stmt} (P : List D → Led → Prop) (fin : ∀ σ, P [] σ → Φ .next σ)
    (turn : ∀ x xs σ, P (x :: xs) σ → AS G n env t x σ fun σ₁ => XS G n env body σ₁ fun f σ₂ => match f with
      | .next | .cont => P xs σ₂
      | .brk => Φ .next σ₂
      | .ret d => Φ (.ret d) σ₂) : ∀ (xs : List D) (σ : Led), P xs σ → ForK G n env t body Φ xs σ
  | [], σ, h => fin σ h
  | x :: xs, σ, h => (turn x xs σ h).mono fun _ σ₁ q => q.mono fun f σ₂ r => by
      cases f with
      | next => exact fork_inv P fin turn xs σ₂ r
      | cont => exact fork_inv P fin turn xs σ₂ r
      | brk => exact r
      | ret d => exact r
theorem fork_upto {t : Expr} {body : List Stmt} {k : Nat} {f : Nat → D} (P : Nat → Led → Prop) (fin : ∀ σ, P k σ → Φ .next σ)
    (turn : ∀ i σ, i < k → P i σ → AS G n env t (f i) σ fun σ₁ => XS G n env body σ₁ fun fl σ₂ => match fl with
      | .next | .cont => P (i + 1) σ₂
      | .brk => Φ .next σ₂
      | .ret d => Φ (.ret d) σ₂) {σ : Led} (h : P 0 σ) : ForK G n env t body Φ ((List.range k).map f) σ := by
  refine fork_inv (fun xs σ' => ∃ i, i ≤ k ∧ xs = ((List.range k).map f).drop i ∧ P i σ') ?fin ?turn _ _ ⟨0, Nat.zero_le _, rfl, h⟩
  case fin =>
    rintro σ' ⟨i, hi, e, p⟩
    have := congrArg List.length e
    simp at this
    have : i = k := by kt_len
    subst this; exact fin _ p
  case turn =>
    rintro x xs σ' ⟨i, hi, e, p⟩
    have hlt : i < k := by have := congrArg List.length e; simp at this; omega
    rw [List.drop_eq_getElem_cons (by simpa using hlt)] at e
    simp only [List.getElem_map, List.getElem_range] at e
    obtain ⟨rfl, rfl⟩ := List.cons.inj e
    exact (turn i σ' hlt p).mono fun _ σ₁ q => q.mono fun fl σ₂ r => by
      cases fl with
      | next => exact ⟨i + 1, hlt, rfl, r⟩
      | cont => exact ⟨i + 1, hlt, rfl, r⟩
      | brk => exact r
      | ret d => exact r
theorem x_setitem {o i value : Expr} {p : Pos} (h : EV G n env value σ fun d σ₁ => EV G n env o σ₁ fun od σ₂ => EV G n env i σ₂ fun id σ₃ =>
      ∃ a xs k σ₄, od = .obj a ∧ id = .int k ∧ 0 ≤ k ∧ k < 2 ^ 63 ∧ k < xs.length ∧ UpdL a (.list xs) (.list (xs.set k.toNat d)) σ₃ σ₄ ∧ Φ .next σ₄)
    (hs : swapsWith value (some (.Subscript o i p)) pos.line env = pure false := by rfl) : X1 G n env (.Assign [.Subscript o i p] value pos) σ Φ := by
  intro τ A s Z E Q hR hS hQ
  refine wpAny_Assign_Subscript (h τ A s _ _ _ hR hS fun _ _ _ vd s1 k1 S1 rd p1 => p1 τ A s1 _ _ _ hR S1 fun _ _ _ vo s2 k2 S2 ro p2 => p2 τ A s2 _ _ _ hR S2 fun Z3 _ _ vi s3 k3 S3 ri ⟨a, xs, k, σ₄, e1, e2, h0, h1, h2, U, p3⟩ => ?_) hs
  subst e1; subst e2
  cases ro; cases ri
  obtain ⟨ob, eo, vs, e, rfl, r⟩ := S3.cells _ (List.mem_append_left τ U.mem)
  have hlen := r.length
  simp only [Array.length_toList] at hlen
  refine ki_setAt eo h0 h1 (by kt_len) ?_
  refine hQ Z3 _ σ₄ _ _ (stt k1 (stt k2 k3)) (S3.upd (U.app τ) (Heap.SameBut.update ..).extBut _ (PySem.IsL.update eo _) ⟨_, _, rfl, ?_⟩) .next p3
  have := VRs.set (rd.mono (stt k2 k3)) k.toNat r
  simpa using this
end
def sl (l : List Nat) : Str := ⟨l.toArray⟩
theorem sl_len (l : List Nat) : (sl l).length = l.length := by simp [sl, Str.length]
theorem sl_toList (l : List Nat) : (sl l).cps.toList = l := by simp [sl]
theorem sl_inj {l m : List Nat} : sl l = sl m ↔ l = m := by
  constructor
  · intro h; rw [← sl_toList l, h, sl_toList]
  · intro h; rw [h]
theorem sl_beq (l m : List Nat) : (sl l == sl m) = decide (l = m) := by
  by_cases h : l = m
  · subst h; simp
  · rw [decide_eq_false h, beq_eq_false_iff_ne]; exact fun e => h (sl_inj.mp e)
theorem slice_from (l : List Nat) {p : Nat} (h : p ≤ l.length) : Txt.slice (sl l) (some (p : Int)) none = sl (l.drop p) := by
  rw [slice_from_eq (b := (l.length : Int)) (by kt_len) (by rw [sl_len]; omega) (by rw [sl_len]), sl_toList]
  rw [List.take_of_length_le (by simp)]; rfl
theorem slice_to (l : List Nat) {p : Nat} (h : p ≤ l.length) : Txt.slice (sl l) none (some (p : Int)) = sl (l.take p) := by
  have := eq_of_beq (slice_closes_toL (x := sl l) (j := (p : Int)) (by kt_len) (by rw [sl_len]; omega))
  rw [this, sl_toList]
  simp [sl]
theorem slice_nn (l : List Nat) : Txt.slice (sl l) none none = sl l := by
  have e : Builtin.Str.strSliceIndices none none 1 (sl l).length = Builtin.Str.strSliceIndices none (some ((sl l).length : Int)) 1 (sl l).length := by
    unfold Builtin.Str.strSliceIndices
    simp
    congr 1
    split <;> omega
  have e2 : Txt.slice (sl l) none none = Txt.slice (sl l) none (some ((sl l).length : Int)) := by
    unfold Txt.slice
    rw [e]
  rw [e2, sl_len, slice_to l (Nat.le_refl _), List.take_length]
theorem slice_neg (l : List Nat) {p : Nat} (h : p ≤ l.length) (h0 : 0 < p) : Txt.slice (sl l) none (some (-(p : Int))) = sl (l.take (l.length - p)) := by
  rw [slice_to_neg (by kt_len), sl_len, show max 0 ((l.length : Int) + -(p : Int)) = ((l.length - p : Nat) : Int) by kt_len]
  exact slice_to l (by kt_len)
theorem item_sl (l : List Nat) {i : Nat} (h : i < l.length) : (Txt.charAt (sl l) i).isSome = true ∧ Txt.item (sl l) i = sl [l.getD i 0] := by
  have e : Txt.charAt (sl l) i = some (l.getD i 0) := by
    unfold Txt.charAt seqIndex?
    simp only [show ¬ ((i : Int) < 0) by kt_len, if_false]
    rw [if_pos (by rw [sl_len]; simp; omega)]
    simp [sl, h]
  refine ⟨by rw [e]; rfl, ?_⟩
  unfold Txt.item; rw [e]; rfl
theorem item_sl_neg (l : List Nat) {p : Nat} (h : p ≤ l.length) (h0 : 0 < p) : (Txt.charAt (sl l) (-(p : Int))).isSome = true ∧ Txt.item (sl l) (-(p : Int)) = sl [l.getD (l.length - p) 0] := by
  have e : Txt.charAt (sl l) (-(p : Int)) = some (l.getD (l.length - p) 0) := by
    unfold Txt.charAt seqIndex?
    simp only [show (-(p : Int) < 0) by kt_len, if_true]
    rw [if_pos (by rw [sl_len]; simp; omega)]
    rw [sl_len, show (-(p : Int) + (l.length : Int)).toNat = l.length - p by kt_len]
    simp [sl, show l.length - p < l.length by kt_len]
  refine ⟨by rw [e]; rfl, ?_⟩
  unfold Txt.item; rw [e]; rfl
end Mine
namespace Mine
section
variable {G : Gl} {n : Nat} {env : Env} {L : Addr} {ks : List (Str × NameKind)} {cs : List (Str × Addr)} {σ : Led} {Φ : AF → Led → Prop} {pos : Pos}
theorem x_while_inv {test : Expr} {body : List Stmt} (P : Nat → Led → Prop)
    (turn : ∀ k σ, P k σ → TE G n env test σ fun c σ₁ => (c = true → XS G n env body σ₁ fun f σ₂ => match f with
      | .next | .cont => ∃ k', k' < k ∧ P k' σ₂
      | .brk => Φ .next σ₂
      | .ret d => Φ (.ret d) σ₂) ∧ (c = false → Φ .next σ₁)) (k : Nat) (h : P k σ) : X1 G n env (.While test body [] pos) σ Φ := by
  intro τ A s Z E Q hR hS hQ
  refine wpAny_While (codeAny_whileLoop (fun k s' => ∃ Z' σ', Z.StaysIn Z' ∧ St G Z' (σ' ++ τ) s' ∧ P k σ') (fun k s' hI => ?_) k ⟨Z, σ, str Z, hS, h⟩)
  obtain ⟨Z', σ', k1, S1, hw⟩ := hI
  refine turn k σ' hw τ A s' Z' _ _ hR S1 fun Z2 c σ2 v s2 k2 S2 (e : c = v) p2 => ?_
  subst e
  cases c with
  | false => exact wpAny_execs_nil (hQ _ _ _ _ s2 (stt k1 k2) S2 .next (p2.2 rfl))
  | true =>
    refine p2.1 rfl τ A s2 Z2 _ _ hR S2 fun Z3 f σ3 v s3 k3 S3 r3 p3 => ?_
    cases r3 with
    | next => obtain ⟨k', hk, p3⟩ := p3; exact ⟨k', hk, Z3, σ3, stt k1 (stt k2 k3), S3, p3⟩
    | cont => obtain ⟨k', hk, p3⟩ := p3; exact ⟨k', hk, Z3, σ3, stt k1 (stt k2 k3), S3, p3⟩
    | brk => exact hQ _ _ _ _ s3 (stt k1 (stt k2 k3)) S3 .next p3
    | ret hd => exact hQ _ _ _ _ s3 (stt k1 (stt k2 k3)) S3 (.ret hd) p3
theorem x_while_to {test : Expr} {body : List Stmt} (P : Nat → Led → Prop) (R : Led → Prop)
    (turn : ∀ k σ, P k σ → TE G n env test σ fun c σ₁ => (c = true → XS G n env body σ₁ fun f σ₂ => match f with
      | .next | .cont => ∃ k', k' < k ∧ P k' σ₂
      | .brk => R σ₂
      | .ret _ => False) ∧ (c = false → R σ₁)) (k : Nat) (h : P k σ) (after : ∀ σ', R σ' → Φ .next σ') : X1 G n env (.While test body [] pos) σ Φ :=
  x_while_inv P (fun k σ hp => (turn k σ hp).mono fun c σ₁ q => ⟨fun e => (q.1 e).mono fun f σ₂ r => by
    cases f with
    | next => exact r
    | cont => exact r
    | brk => exact after _ r
    | ret d => exact r.elim, fun e => after _ (q.2 e)⟩) k h
end
section
variable {G : Gl} {n : Nat} {σ : Led} {Φ : D → Led → Prop} {Ψ : Bool → Led → Prop}
theorem sl_fits {l : List Nat} (h : l.length ≤ 1000) : (sl l).length ≤ sizeLine := by rw [sl_len, sizeLine_eq]; omega
theorem sl_drop {l : List Nat} {p : Nat} (hp : p ≤ l.length) (hl : l.length ≤ 1000) (h : Φ (.str (sl (l.drop p))) σ) : SL G n (.str (sl l)) (.int p) .none σ Φ :=
  sl_str (.int _) .none (sl_fits hl) (by rw [slice_from l hp]; exact h)
theorem sl_take {l : List Nat} {p : Nat} (hp : p ≤ l.length) (hl : l.length ≤ 1000) (h : Φ (.str (sl (l.take p))) σ) : SL G n (.str (sl l)) .none (.int p) σ Φ :=
  sl_str .none (.int _) (sl_fits hl) (by rw [slice_to l hp]; exact h)
theorem sl_neg {l : List Nat} {p : Nat} (hp : p ≤ l.length) (h0 : 0 < p) (hl : l.length ≤ 1000) (h : Φ (.str (sl (l.take (l.length - p)))) σ) : SL G n (.str (sl l)) .none (.int (-(p : Int))) σ Φ :=
  sl_str .none (.int _) (sl_fits hl) (by rw [slice_neg l hp h0]; exact h)
theorem sl_all {l : List Nat} (hl : l.length ≤ 1000) (h : Φ (.str (sl l)) σ) : SL G n (.str (sl l)) .none .none σ Φ :=
  sl_str .none .none (sl_fits hl) (by rw [slice_nn l]; exact h)
theorem gi_at {l : List Nat} {p : Nat} (hp : p < l.length) (hl : l.length ≤ 1000) (h : Φ (.str (sl [l.getD p 0])) σ) : GI G n (.str (sl l)) (.int p) σ Φ :=
  gi_str (by unfold fitsSsize; simp; omega) (item_sl l hp).1 (by rw [(item_sl l hp).2]; exact h)
theorem gi_back {l : List Nat} {p : Nat} (hp : p ≤ l.length) (h0 : 0 < p) (hl : l.length ≤ 1000) (h : Φ (.str (sl [l.getD (l.length - p) 0])) σ) : GI G n (.str (sl l)) (.int (-(p : Int))) σ Φ :=
  gi_str (by unfold fitsSsize; simp; omega) (item_sl_neg l hp h0).1 (by rw [(item_sl_neg l hp h0).2]; exact h)
theorem tr_sl {l : List Nat} (hl : l.length ≤ 1000) (h : Ψ (!l.isEmpty) σ) : TR G n (.str (sl l)) σ Ψ := by
  refine tr_str (by rw [sl_len]; omega) ?_
  have : (((sl l).length : Int) != 0) = !l.isEmpty := by
    rw [sl_len]; cases l <;> simp; omega
  rw [this]; exact h
theorem cl_len_sl {l : List Nat} (hl : l.length ≤ 1000) (h : Φ (.int l.length) σ) : CL G n (.builtin "len") [.str (sl l)] σ Φ :=
  cl_len_str (sl_fits hl) (by rw [sl_len]; exact h)
end
theorem small_of {lo hi st : Int} (h1 : 0 ≤ lo) (h2 : lo ≤ 3000) (h3 : 0 ≤ hi) (h4 : hi ≤ 3000) (h5 : 1 ≤ st) (h6 : st ≤ 2) : Builtin.Range.small lo hi st = true := by
  have h7 : 0 ≤ Builtin.Range.rangeSize lo hi st ∧ Builtin.Range.rangeSize lo hi st ≤ 3001 := by
    unfold Builtin.Range.rangeSize
    rcases (show st = 1 ∨ st = 2 by kt_len) with rfl | rfl <;> (repeat' split) <;> omega
  unfold Builtin.Range.small Builtin.Range.rangeFitsLong
  simp only [show st > 0 by kt_len, if_true, Bool.and_eq_true, Bool.or_eq_true, decide_eq_true_eq]
  omega
theorem iter_upto {k : Nat} (h : k ≤ 1000) : IterOf (.rng 0 k 1) ((List.range k).map fun i => D.int (i : Nat)) := by
  have := IterOf.rng 0 k 1 (small_of (by kt_len) (by kt_len) (by kt_len) (by kt_len) (by kt_len) (by kt_len))
  rw [PyProof.Rows.rangeSize_nat] at this
  simpa using this
theorem mulOk {a b : Int} (h0 : -1000000 ≤ a) (h : a ≤ 1000000) : IntMulOk a b := by
  refine IntMulOk.of_left ?_
  unfold Builtin.Int.intBits
  split
  · omega
  · rename_i hz
    have : a.natAbs < 2 ^ 63 := by kt_len
    have := (Nat.log2_lt (n := a.natAbs) (k := 63) (by simp at hz; omega)).mpr this
    omega
theorem ev_post {G : Gl} {n : Nat} {env : Env} {L : Addr} {ks : List (Str × NameKind)} {cs : List (Str × Addr)} {σ : Led} {Φ : D → Led → Prop} {pos : Pos} {x y : Str} {p1 p2 p3 p4 p5 : Pos} {k : Nat} {m : List (Str × Option D)} {l : List Nat} {q : Nat}
    (O : EnvOK env L ks cs) (hx : (x, NameKind.local) ∈ ks) (hy : (y, NameKind.local) ∈ ks) (hm : (L, Cell.ns m) ∈ σ) (h1 : (x, some (.str (sl l))) ∈ m) (h2 : (y, some (.int (-(q : Int)))) ∈ m) (hq : q ≤ l.length) (hl : l.length ≤ 1000)
    (h : Φ (.str (sl (l.take (l.length - q)))) σ) : EV G n env (.Subscript (.Name x p1) (.Slice none (some (.BoolOp .Or [.Name y p2, .Constant .none k p3] p4)) none p5) pos) σ Φ := by
  refine ev_slice (ev_local O hx hm h1 (ep_none (ep_some (ev_or (ev_local O hy hm h2 (tr_int ⟨fun hz => ?_, fun hz => ?_⟩))))))
  · have : 0 < q := by simp at hz; omega
    exact sl_neg hq this hl h
  · have : q = 0 := by simp at hz; omega
    subst this
    refine ev_none (sl_all hl ?_)
    simpa using h
theorem xs_cut {G : Gl} {n : Nat} {env : Env} {σ : Led} {Φ : AF → Led → Prop} {st : Stmt} {rest : List Stmt} (P : Led → Prop) (h : X1 G n env st σ fun f σ' => f = .next ∧ P σ') (hr : ∀ σ', P σ' → XS G n env rest σ' Φ) : XS G n env (st :: rest) σ Φ :=
  xs_cons (h.mono fun _ σ' e => by rw [e.1]; exact hr σ' e.2)
end Mine
namespace Mine
section
variable {G : Gl} {n : Nat} {env : Env} {L : Addr} {ks : List (Str × NameKind)} {cs : List (Str × Addr)} {σ : Led} {Φ : D → Led → Prop} {pos : Pos}
theorem call_tail1 {A : Around} {s : Shared} {Z : Heap} {τ : Led} {E : Value → Shared → Prop} {Q : Value → Shared → Prop} {fv ov : Value} {d : D} {args : List Expr} (hR : Room n A) (hS : St G Z (σ ++ τ) s) (ho : VR Z d ov)
    (h : EVs G n env args σ fun ds σ₂ => Kp G fv σ₂ ∧ CL G n fv (d :: ds) σ₂ Φ)
    (hQ : ∀ Z' d σ' v s', Z.StaysIn Z' → St G Z' (σ' ++ τ) s' → VR Z' d v → Φ d σ' → Q v s') (he : backTo pos (starEach args env) = args.map fun e => (false, eval e env)) :
    wpAny (model G.prog G.w) A (callWith pos fv [ov] (backTo pos (starEach args env)) []) Q E s := by
  rw [he]
  have hp : ∀ l : List Expr, (l.map fun e => (false, eval e env)).any (·.1) = false := fun l => by induction l <;> simp_all
  refine callWith_of (P := KpAt G fv) (by rw [hp]; rfl) (fun _ x => x) ?_
  have q := h τ A s Z E (fun vs s₁ => KpAt G fv s₁.heap ∧ wpAny (model G.prog G.w) A (call fv ([ov] ++ vs) []) Q E s₁) hR hS fun Z2 ds σ2 vs s2 k2 S2 r2 p2 => ?_
  · cases args with
    | nil =>
      unfold evalArgs
      show wpAny _ _ (spliced [] >>= _) _ _ _
      refine wpAny_bind (wpAny_mono q (fun vs s' h' => wpAny_holding (wpAny_bind (wpAny_pure (wpAny_bind (wpAny_pure (wpAny_pure h')))))) fun _ _ x => x)
    | cons e r => exact PySem.Calls.evalArgs_plain q
  · exact ⟨p2.1 τ _ _ S2, p2.2 τ A s2 Z2 E Q (ov :: vs) hR S2 (.cons (ho.mono k2) r2) fun Z3 d σ3 v s3 k3 S3 r3 p3 => hQ Z3 d σ3 v s3 (stt k2 k3) S3 r3 p3⟩
structure Meth (T : String) (name : Str) (id : String) : Prop where
  pa : PlainAttrs T
  slot : Slot T name id
  ty : typeOf (.builtin id) = pure (.type "method_descriptor")
theorem m_pop : Meth "list" "pop" "list.pop" := ⟨PySem.F.plainAttrs_list, PySem.F.slot_list_pop, PySem.F.type_list_pop⟩
theorem m_insert : Meth "list" "insert" "list.insert" := ⟨PySem.F.plainAttrs_list, PySem.F.slot_list_insert, PySem.F.type_list_insert⟩
theorem m_append : Meth "list" "append" "list.append" := ⟨PySem.F.plainAttrs_list, PySem.F.slot_list_append, PySem.F.type_list_append⟩
theorem ev_lmeth {o : Expr} {name : Str} {id : String} {apos : Pos} {args : List Expr} (M : Meth "list" name id)
    (h : EV G n env o σ fun d σ₁ => ∃ a xs, d = .obj a ∧ (a, Cell.list xs) ∈ σ₁ ∧ EVs G n env args σ₁ fun ds σ₂ => CL G n (.builtin id) (.obj a :: ds) σ₂ Φ)
    (hbase : attributeBase o name env (eval o env) = eval o env := by rfl) (hl : (apos.endLine == pos.line) = true := by rfl)
    (hfew : ((backTo pos (starEach args env)).all (fun x => !x.1) && (backToKw pos (keywordEach [] env)).all (fun x => x.1.isSome)
      && decide (args.length + ([] : List Keyword).length + (if ([] : List Keyword).isEmpty then 0 else 1) < 30)) = true := by rfl)
    (he : backTo pos (starEach args env) = args.map fun e => (false, eval e env) := by rfl) : EV G n env (.Call (.Attribute o name apos) args [] pos) σ Φ :=
  fun τ A s _ _ _ hR hS hQ => wpAny_Call_method_lateS hbase hfew hl (h τ A s _ _ _ hR hS fun Z1 d σ1 v s1 k1 S1 r1 ⟨a, xs, e, hm, p1⟩ => by
    subst e
    cases r1
    obtain ⟨ob, eo, vs, m, rfl, _⟩ := S1.cells _ (List.mem_append_left τ hm)
    exact ⟨"list", id, M.pa, M.slot, M.ty, ⟨_, eo, rfl⟩, fun b e => by cases e; exact ⟨_, eo, rfl⟩,
      call_tail1 hR S1 (.obj a) (p1.mono fun _ _ q => ⟨kp_builtin, q⟩) (fun Z2 d2 σ2 v2 s2 k2 => hQ Z2 d2 σ2 v2 s2 (stt k1 k2)) he⟩)
theorem cl_append {a : Addr} {d : D} {xs : List D} {σ' : Led} (U : UpdL a (.list xs) (.list (xs ++ [d])) σ σ') (hl : xs.length ≤ 1000) (h : Φ .none σ') : CL G n (.builtin "list.append") [.obj a, d] σ Φ := by
  intro τ A s Z E Q vs hR hS hv hQ
  obtain ⟨v, w, rfl, ha, hd⟩ := vr2 hv
  cases ha
  obtain ⟨ob, eo, vs, m, rfl, r⟩ := hS.cells _ (List.mem_append_left τ U.mem)
  have hlen := r.length
  simp only [Array.length_toList] at hlen
  refine PySem.wpAny_list_append_plain ⟨m, eo⟩ (fun h' ⟨m', e'⟩ hs => ?_) (by rw [sizeLine_eq]; omega)
  exact hQ Z _ σ' _ _ (str Z) (hS.upd (U.app τ) hs.extBut _ e' ⟨_, _, rfl, by simpa using r.append (.cons hd .nil)⟩) .none h
theorem vrs_eraseIdx {Z : Heap} : ∀ {ds : List D} {vs : List Value}, VRs Z ds vs → ∀ k, VRs Z (ds.eraseIdx k) (vs.eraseIdx k)
  | _, _, .nil, _ => .nil
  | _, _, .cons _ r, 0 => r
  | _, _, .cons h r, k + 1 => .cons h (vrs_eraseIdx r k)
theorem vrs_get {Z : Heap} : ∀ {ds : List D} {vs : List Value}, VRs Z ds vs → ∀ {k : Nat} {d : D}, ds[k]? = some d → ∃ v, vs[k]? = some v ∧ VR Z d v
  | _, _, .nil, _, _, e => nomatch e
  | _, _, .cons h r, 0, _, e => by cases e; exact ⟨_, rfl, h⟩
  | _, _, .cons h r, k + 1, _, e => vrs_get r (k := k) e
theorem vrs_take {Z : Heap} : ∀ {ds : List D} {vs : List Value}, VRs Z ds vs → ∀ k, VRs Z (ds.take k) (vs.take k)
  | _, _, .nil, 0 => .nil
  | _, _, .nil, _ + 1 => .nil
  | _, _, .cons _ _, 0 => .nil
  | _, _, .cons h r, k + 1 => .cons h (vrs_take r k)
theorem vrs_drop {Z : Heap} : ∀ {ds : List D} {vs : List Value}, VRs Z ds vs → ∀ k, VRs Z (ds.drop k) (vs.drop k)
  | _, _, .nil, 0 => .nil
  | _, _, .nil, _ + 1 => .nil
  | _, _, .cons h r, 0 => .cons h r
  | _, _, .cons _ r, k + 1 => vrs_drop r k
theorem pop_atX {prog : Program} {w : World} {A : Around} {E : Value → Shared → Prop} {s : Shared} {a : Addr} {vs : Array Value} {m : Nat} {i : Int} {u : Tok} {k : Nat} {y : Value} {Q : Value → Shared → Prop} (eo : s.heap.get? a = some { cls := .type "list", data := .seq vs m })
    (hf : Builtin.List.listFitsIndex i = true) (hk : seqIndex? i vs.size = some k) (hy : vs[k]? = some y) (hz : vs.size ≤ sizeLine) (h : Q y { s with heap := s.heap.update a (Obj.mapSeq fun xs => xs.eraseIdxIfInBounds k) }) :
    wpAny (model prog w) A (call (.builtin "list.pop") [.ref a, .int i u]) Q E s :=
  call_meets PySem.F.slot_list_pop ⟨_, eo, rfl⟩ PySem.F.entry_list_pop (PySem.F.args_list_pop_2 _ _) (PySem.MeetsSeq.list_pop_at a vs m i u k y hf hk hy hz) ⟨eo, h⟩
theorem insert_atX {prog : Program} {w : World} {A : Around} {E : Value → Shared → Prop} {s : Shared} {a : Addr} {vs : Array Value} {m : Nat} {i : Int} {u : Tok} {y : Value} {Q : Value → Shared → Prop} (eo : s.heap.get? a = some { cls := .type "list", data := .seq vs m })
    (hf : Builtin.List.listFitsIndex i = true) (hz : vs.size ≤ sizeLine)
    (h : Q .none { s with heap := s.heap.update a (Obj.mapSeq fun xs => have k := if i < 0 then (i + (xs.size : Int)).toNat else min i.toNat xs.size; (xs.extract 0 k).push y ++ xs.extract k) }) :
    wpAny (model prog w) A (call (.builtin "list.insert") [.ref a, .int i u, y]) Q E s :=
  call_meets PySem.F.slot_list_insert ⟨_, eo, rfl⟩ PySem.F.entry_list_insert (PySem.F.args_list_insert_3 _ _ _) (PySem.AutoSeq1.list_insert_list_int_val_1 a vs m i u y (by simp [hf]) hz) ⟨eo, h⟩
theorem cl_pop_at {a : Addr} {d : D} {xs : List D} {i : Nat} {σ' : Led} (U : UpdL a (.list xs) (.list (xs.eraseIdx i)) σ σ') (hx : xs[i]? = some d) (hl : xs.length ≤ 1000) (h : Φ d σ') : CL G n (.builtin "list.pop") [.obj a, .int i] σ Φ := by
  intro τ A s Z E Q vs hR hS hv hQ
  obtain ⟨v, w, rfl, ha, hd⟩ := vr2 hv
  cases ha; cases hd
  obtain ⟨ob, eo, vs, m, rfl, r⟩ := hS.cells _ (List.mem_append_left τ U.mem)
  have hlen := r.length
  simp only [Array.length_toList] at hlen
  obtain ⟨y, hy, hr⟩ := vrs_get r hx
  have hi : i < xs.length := (List.getElem?_eq_some_iff.mp hx).1
  have hk : seqIndex? (i : Int) vs.size = some i := by
    unfold seqIndex?
    simp
    omega
  have hf : Builtin.List.listFitsIndex (i : Int) = true := PySem.fitsIndex_of (by kt_len) (by kt_len)
  have hz : vs.size ≤ sizeLine := by rw [sizeLine_eq]; omega
  have hy' : vs[i]? = some y := by simpa using hy
  refine pop_atX eo hf hk hy' hz ?_
  refine hQ Z _ σ' _ _ (str Z) (hS.upd (U.app τ) (Heap.SameBut.update ..).extBut _ (PySem.IsL.update eo _) ⟨_, _, rfl, ?_⟩) hr h
  have := vrs_eraseIdx r i
  have hi' : i < vs.size := by kt_len
  unfold Array.eraseIdxIfInBounds
  rw [dif_pos hi', Array.toList_eraseIdx]
  exact this
theorem cl_insert {a : Addr} {d : D} {xs : List D} {i : Nat} {σ' : Led} (U : UpdL a (.list xs) (.list (xs.take i ++ d :: xs.drop i)) σ σ') (hi : i ≤ xs.length) (hl : xs.length ≤ 1000) (h : Φ .none σ') : CL G n (.builtin "list.insert") [.obj a, .int i, d] σ Φ := by
  intro τ A s Z E Q vs hR hS hv hQ
  obtain ⟨v, w, x, rfl, ha, hd, hx⟩ := vr3 hv
  cases ha; cases hd
  obtain ⟨ob, eo, vs, m, rfl, r⟩ := hS.cells _ (List.mem_append_left τ U.mem)
  have hlen := r.length
  simp only [Array.length_toList] at hlen
  have hf : Builtin.List.listFitsIndex (i : Int) = true := PySem.fitsIndex_of (by kt_len) (by kt_len)
  have hz : vs.size ≤ sizeLine := by rw [sizeLine_eq]; omega
  refine insert_atX eo hf hz ?_
  refine hQ Z _ σ' _ _ (str Z) (hS.upd (U.app τ) (Heap.SameBut.update ..).extBut _ (PySem.IsL.update eo _) ⟨_, _, rfl, ?_⟩) .none h
  have e : (if (i : Int) < 0 then ((i : Int) + (vs.size : Int)).toNat else min (i : Int).toNat vs.size) = i := by
    rw [if_neg (by kt_len)]; simp; omega
  dsimp only
  rw [e]
  simp only [Array.toList_append, Array.toList_push, Array.toList_extract, List.append_assoc, List.singleton_append]
  have t2 : List.take (vs.size - i) (List.drop i vs.toList) = List.drop i vs.toList := List.take_of_length_le (by simp)
  simp
  rw [t2]
  exact (vrs_take r i).append (.cons hx (vrs_drop r i))
theorem cl_len_list {d : D} {xs : List D} (hd : SeqIs σ d xs) (hl : xs.length ≤ 1000) (h : Φ (.int xs.length) σ) : CL G n (.builtin "len") [d] σ Φ := by
  intro τ A s Z E Q vs hR hS hv hQ
  obtain ⟨v, rfl, ha⟩ := vr1 hv
  obtain ⟨p, vs, rfl, h1, r1⟩ := hd.here hS ha
  have hlen := r1.length
  simp only [Array.length_toList] at hlen
  refine len_list h1 (by kt_len) ?_
  exact hQ Z _ σ _ _ (str Z) (hS.toks _) (by rw [hlen]; exact .int _ _) h
end
end Mine
namespace Mine
section
open PySem.Flt PySem.Calls
variable {prog : Program} {w : World} {A : Around} {E : Value → Shared → Prop} {s : Shared}
theorem max3_num {a b c : Value} {Q : Value → Shared → Prop} (hh : A.handled = none) (ha : NumV a) (hb : NumV b) (hc : NumV c)
    (h : ∀ h' tk, (∀ x o, s.heap.get? x = some o → h'.get? x = some o) → Q (if ltV ((if ltV (a) b then b else a)) c then c else (if ltV (a) b then b else a)) { s with heap := h', toks := tk }) :
    wpAny (model prog w) A (call (.builtin "max") [a, b, c]) Q E s := by
  have hT : (s.heap.push { cls := .type "tuple", data := .seq #[a, b, c] }).IsTuple s.heap.objs.size #[a, b, c] := ⟨_, Heap.get?_push_size _ rfl, rfl, 0, rfl⟩
  refine call_max_three (wpAny_pyIter_tuple hT ?_)
  have hsz : (s.heap.push { cls := .type "tuple", data := .seq #[a, b, c] }).objs.size = s.heap.objs.size + 1 := Heap.size_push ..
  refine ⟨_, [_, s.heap.objs.size], [_], _, _, _, _, rfl, Walks.tuple (A := A.in1) hh _ s.heap.objs.size (by rw [hsz]; exact Nat.ne_of_lt (Nat.lt_succ_self _)) #[a, b, c],
    ⟨⟨_, Heap.get?_push_size _ rfl, rfl, rfl⟩, hT.push _⟩, fun x hx => ?_, by simp, cmpOf_gt #[a, b, c] (by simp [ha, hb, hc]), fun v h' tk hP hk => ?_⟩
  · show x < ((s.heap.push _).push _).objs.size
    rw [Heap.size_push, hsz]
    rcases List.mem_cons.mp hx with rfl | hx
    · rw [hsz]; exact Nat.lt_succ_self _
    · rcases List.mem_cons.mp hx with rfl | hx
      · exact Nat.lt_succ_of_lt (Nat.lt_succ_self _)
      · cases hx
  · have hold : ∀ x o, s.heap.get? x = some o → h'.get? x = some o := fun x o q => by
      refine hk x o (fun hm => ?_) (Heap.get?_push_of_some _ (Heap.get?_push_of_some _ q))
      rcases List.mem_cons.mp hm with e1 | hm
      · have := Heap.lt_size q; rw [e1, hsz] at this; exact Nat.lt_irrefl _ (Nat.lt_of_succ_lt this)
      · cases hm
    have := h h' tk hold
    have hv : v = (if ltV ((if ltV (a) b then b else a)) c then c else (if ltV (a) b then b else a)) := by
      simp only [List.size_toArray, List.length_cons, List.length_nil, Nat.zero_add, Nat.add_sub_cancel, argBest] at hP
      repeat' split
      all_goals simp_all
    rw [hv]; exact this
theorem min3_num {a b c : Value} {Q : Value → Shared → Prop} (hh : A.handled = none) (ha : NumV a) (hb : NumV b) (hc : NumV c)
    (h : ∀ h' tk, (∀ x o, s.heap.get? x = some o → h'.get? x = some o) → Q (if ltV c ((if ltV b (a) then b else a)) then c else (if ltV b (a) then b else a)) { s with heap := h', toks := tk }) :
    wpAny (model prog w) A (call (.builtin "min") [a, b, c]) Q E s := by
  have hT : (s.heap.push { cls := .type "tuple", data := .seq #[a, b, c] }).IsTuple s.heap.objs.size #[a, b, c] := ⟨_, Heap.get?_push_size _ rfl, rfl, 0, rfl⟩
  refine call_min_three (wpAny_pyIter_tuple hT ?_)
  have hsz : (s.heap.push { cls := .type "tuple", data := .seq #[a, b, c] }).objs.size = s.heap.objs.size + 1 := Heap.size_push ..
  refine ⟨_, [_, s.heap.objs.size], [_], _, _, _, _, rfl, Walks.tuple (A := A.in1) hh _ s.heap.objs.size (by rw [hsz]; exact Nat.ne_of_lt (Nat.lt_succ_self _)) #[a, b, c],
    ⟨⟨_, Heap.get?_push_size _ rfl, rfl, rfl⟩, hT.push _⟩, fun x hx => ?_, by simp, cmpOf_lt #[a, b, c] (by simp [ha, hb, hc]), fun v h' tk hP hk => ?_⟩
  · show x < ((s.heap.push _).push _).objs.size
    rw [Heap.size_push, hsz]
    rcases List.mem_cons.mp hx with rfl | hx
    · rw [hsz]; exact Nat.lt_succ_self _
    · rcases List.mem_cons.mp hx with rfl | hx
      · exact Nat.lt_succ_of_lt (Nat.lt_succ_self _)
      · cases hx
  · have hold : ∀ x o, s.heap.get? x = some o → h'.get? x = some o := fun x o q => by
      refine hk x o (fun hm => ?_) (Heap.get?_push_of_some _ (Heap.get?_push_of_some _ q))
      rcases List.mem_cons.mp hm with e1 | hm
      · have := Heap.lt_size q; rw [e1, hsz] at this; exact Nat.lt_irrefl _ (Nat.lt_of_succ_lt this)
      · cases hm
    have := h h' tk hold
    have hv : v = (if ltV c ((if ltV b (a) then b else a)) then c else (if ltV b (a) then b else a)) := by
      simp only [List.size_toArray, List.length_cons, List.length_nil, Nat.zero_add, Nat.add_sub_cancel, argBest] at hP
      repeat' split
      all_goals simp_all
    rw [hv]; exact this
end
def fmx (a b : UInt64) : UInt64 := if (Float64.cmp a b == some .lt) = true then b else a
def fmn (a b : UInt64) : UInt64 := if (Float64.cmp b a == some .lt) = true then b else a
def imn (a b : Int) : Int := if b < a then b else a
section
open PySem.Flt
variable {G : Gl} {n : Nat} {σ : Led} {Φ : D → Led → Prop}
theorem fmx_of {Z : Heap} {a b : UInt64} {v w : Value} (hv : VR Z (.float a) v) (hw : VR Z (.float b) w) : VR Z (.float (fmx a b)) (if ltV v w then w else v) := by
  cases hv; cases hw
  rename_i t ht u hu
  have q' : ltV (.float a t) (.float b u) = (Float64.cmp a b == some .lt) := rfl
  rw [fmx, q']
  by_cases q : (Float64.cmp a b == some .lt) = true
  · rw [if_pos q, if_pos q]; exact .float _ _ (by assumption)
  · rw [if_neg q, if_neg q]; exact .float _ _ (by assumption)
theorem fmn_of {Z : Heap} {a b : UInt64} {v w : Value} (hv : VR Z (.float a) v) (hw : VR Z (.float b) w) : VR Z (.float (fmn a b)) (if ltV w v then w else v) := by
  cases hv; cases hw
  rename_i t ht u hu
  have q' : ltV (.float b u) (.float a t) = (Float64.cmp b a == some .lt) := rfl
  rw [fmn, q']
  by_cases q : (Float64.cmp b a == some .lt) = true
  · rw [if_pos q, if_pos q]; exact .float _ _ (by assumption)
  · rw [if_neg q, if_neg q]; exact .float _ _ (by assumption)
theorem numV_f {Z : Heap} {a : UInt64} {v : Value} (hv : VR Z (.float a) v) : NumV v := by cases hv; exact .float _ _
theorem vr4 {Z : Heap} {a b c d : D} {vs : List Value} (h : VRs Z [a, b, c, d] vs) : ∃ u v w x, vs = [u, v, w, x] ∧ VR Z a u ∧ VR Z b v ∧ VR Z c w ∧ VR Z d x := by
  obtain ⟨u, vs, rfl, ha, h⟩ : ∃ u r, vs = u :: r ∧ VR Z a u ∧ VRs Z [b, c, d] r := by cases h; exact ⟨_, _, rfl, ‹_›, ‹_›⟩
  obtain ⟨v, w, x, rfl, hb, hc, hd⟩ := vr3 h
  exact ⟨u, v, w, x, rfl, ha, hb, hc, hd⟩
theorem cl_max3f {a b c : UInt64} (h : Φ (.float (fmx (fmx a b) c)) σ) : CL G n (.builtin "max") [.float a, .float b, .float c] σ Φ := by
  intro τ A s Z E Q vs hR hS hv hQ
  obtain ⟨u, v, w, rfl, ha, hb, hc⟩ := vr3 hv
  exact tkw (max3_num hR.hh (numV_f ha) (numV_f hb) (numV_f hc) fun h' tk k => fun (hle : s.toks ≤ tk) => hQ Z _ σ _ _ (str Z) (hS.grow k tk) (fmx_of (fmx_of ha hb) hc) h)
theorem cl_min3f {a b c : UInt64} (h : Φ (.float (fmn (fmn a b) c)) σ) : CL G n (.builtin "min") [.float a, .float b, .float c] σ Φ := by
  intro τ A s Z E Q vs hR hS hv hQ
  obtain ⟨u, v, w, rfl, ha, hb, hc⟩ := vr3 hv
  exact tkw (min3_num hR.hh (numV_f ha) (numV_f hb) (numV_f hc) fun h' tk k => fun (hle : s.toks ≤ tk) => hQ Z _ σ _ _ (str Z) (hS.grow k tk) (fmn_of (fmn_of ha hb) hc) h)
def iof (x : UInt64) : Option Int := match Float64.decode x with
  | .fin sg m e => some (Float64.truncOf sg m e)
  | _ => none
theorem cl_int_f {x : UInt64} {i : Int} (hx : iof x = some i) (h : Φ (.int i) σ) : CL G n (.type "int") [.float x] σ Φ := by
  intro τ A s Z E Q vs hR hS hv hQ
  obtain ⟨v, rfl, ha⟩ := vr1 hv
  cases ha
  unfold iof at hx
  split at hx
  · rename_i sg m e hd
    cases hx
    exact call_int_float hd (hQ Z _ σ _ _ (str Z) (hS.toks _) (.int _ _) h)
  · cases hx
end
end Mine
namespace Mine
open PySem.SeqAt
inductive Plain : Nat → D → Prop
  | none (k : Nat) : Plain k .none
  | bool (k : Nat) (b : Bool) : Plain k (.bool b)
  | int (k : Nat) (i : Int) : Plain k (.int i)
  | str (k : Nat) (x : Str) : Plain k (.str x)
  | float (k : Nat) (x : UInt64) (h : (Float64.cmp x x == some .eq) = true) : Plain k (.float x)
  | tup (k : Nat) (ds : List D) (h : ∀ d ∈ ds, Plain k d) : Plain (k + 1) (.tup ds)
  | lst (k : Nat) (ds : List D) (h : ∀ d ∈ ds, Plain k d) : Plain (k + 1) (.lst ds)
theorem nb_keeps {h h' : Heap} (x : NoneBooked h) (k : h.StaysIn h') : NoneBooked h' := by
  obtain ⟨mc, ⟨o, es, ep, e, r⟩, q⟩ := x
  exact ⟨mc, ⟨o, es, ep, k _ _ e, r⟩, q⟩
theorem isSame_float {M : Model} {A : Around} {E : Value → Shared → Prop} {s : Shared} {y z : UInt64} {u v : Tok} {Q : Bool → Shared → Prop}
    (h0 : (u == 0 || v == 0) = false) (hb : NoneBooked s.heap) (hq : ∀ b, Q b s) : wpAny M A (isSame (.float y u) (.float z v)) Q E s := by
  show wpAny M A (isSame.created (y == z && !Float64.isNaN y) u v) Q E s
  unfold isSame.created
  refine wpAny_ite ?_
  split
  · rename_i h; rw [h0] at h; exact absurd h Bool.false_ne_true
  refine wpAny_ite ?_
  split
  · exact wpAny_pure (hq _)
  refine wpAny_ite ?_
  split
  · exact wpAny_pure (hq _)
  refine wpAny_bind (wpAny_sharingNotTold_none hb ?_)
  first | rw [if_neg Bool.false_ne_true] | simp only [Bool.false_eq_true, if_false]
  refine wpAny_bind (wpAny_sharingNotTold_none hb ?_)
  first | rw [if_neg Bool.false_ne_true] | simp only [Bool.false_eq_true, if_false]
  exact wpAny_bind (wpAny_rule (wpAny_bind (wpAny_askSetting (wpAny_pure (hq _)))))
theorem eqAt_float {A : Around} {s : Shared} {x y : UInt64} {t u : Tok} (h : (Float64.cmp x y == some .eq) = true) (ht : t ≠ 0) (hu : u ≠ 0) (hb : NoneBooked s.heap) : EqAt A s (.float x t) (.float y u) true := fun prog w E Q hq => by
  unfold eqBool
  refine wpAny_holding ?_
  refine wpAny_ite_split (fun _ => wpAny_bind (wpAny_rule (wpAny_pure hq))) fun _ => ?_
  refine wpAny_bind (isSame_float (by simp [ht, hu]) hb fun b => ?_)
  refine wpAny_ite_split (fun _ => wpAny_pure hq) fun _ => ?_
  refine wpAny_bind (AutoFloatOps.eq_0 ?_)
  rw [h]
  exact wpAny_truthy_bool hq
theorem vrs_at {Z : Heap} {ds : List D} {vs ws : Array Value} (r : VRs Z ds vs.toList) (q : VRs Z ds ws.toList) {j : Nat} (h1 : j < vs.size) (h2 : j < ws.size) : ∃ d ∈ ds, VR Z d vs[j] ∧ VR Z d ws[j] := by
  have e1 := r.length
  simp only [Array.length_toList] at e1
  have hj : j < ds.length := by kt_len
  refine ⟨ds[j], List.getElem_mem hj, ?_, ?_⟩
  · obtain ⟨v, hv, hr⟩ := r.get j (List.getElem?_eq_getElem hj)
    have : vs[j] = v := by simpa [h1] using hv
    rw [this]; exact hr
  · obtain ⟨v, hv, hr⟩ := q.get j (List.getElem?_eq_getElem hj)
    have : ws[j] = v := by simpa [h2] using hv
    rw [this]; exact hr
theorem vrs_sizes {Z : Heap} {ds : List D} {vs ws : Array Value} (r : VRs Z ds vs.toList) (q : VRs Z ds ws.toList) : vs.size = ws.size := by
  have e1 := r.length
  have e2 := q.length
  simp only [Array.length_toList] at e1 e2
  omega
theorem all_true (n : Nat) : (List.range n).all (fun _ => true) = true := by simp
theorem eqAt_plain {Z : Heap} {s : Shared} (z : Z.StaysIn s.heap) (nb : NoneBooked s.heap) : ∀ {k : Nat} {d : D}, Plain k d → ∀ {A : Around} {v w : Value}, A.units + k < cLine → VR Z d v → VR Z d w → EqAt A s v w true := by
  intro k d h
  induction h with
  | none => intro A v w hu hv hw; cases hv; cases hw; exact EqAt.same _
  | bool => intro A v w hu hv hw; cases hv; cases hw; exact EqAt.same _
  | int k i => intro A v w hu hv hw; cases hv; cases hw; rename_i t u; have := EqAt.int_int (A := A) (s := s) i t i u; simpa using this
  | str k x => intro A v w hu hv hw; cases hv; cases hw; rename_i t u; have := EqAt.str_str (A := A) (s := s) x t x u; simpa using this
  | float k x h => intro A v w hu hv hw; cases hv; cases hw; exact eqAt_float h (by assumption) (by assumption) nb
  | tup k ds h ih =>
    intro A v w hu hv hw
    cases hv with
    | @tup a vs _ h1 r1 => cases hw with
      | @tup b ws _ h2 r2 =>
        by_cases hab : a = b
        · subst hab; exact EqAt.same _
        · have := RcAt.tuples (A := A) (e := fun _ => true) (isTuple_keeps z h1) (isTuple_keeps z h2) (by kt_len) fun j j1 j2 => by
            obtain ⟨d, hd, p, q⟩ := vrs_at r1 r2 j1 j2
            exact ih d hd (by simp only [Around.in1]; omega) p q
          rw [all_true, vrs_sizes r1 r2] at this
          exact EqAt.of_refs hab (by simpa using this)
  | lst k ds h ih =>
    intro A v w hu hv hw
    cases hv with
    | @lst a vs _ h1 r1 => cases hw with
      | @lst b ws _ h2 r2 =>
        by_cases hab : a = b
        · subst hab; exact EqAt.same _
        · have := RcAt.lists (A := A) (e := fun _ => true) (isList_keeps z h1) (isList_keeps z h2) (vrs_sizes r1 r2) (by kt_len) fun j j1 j2 => by
            obtain ⟨d, hd, p, q⟩ := vrs_at r1 r2 j1 j2
            exact ih d hd (by simp only [Around.in1]; omega) p q
          rw [all_true] at this
          exact EqAt.of_refs hab this
section
variable {G : Gl} {n : Nat} {σ : Led} {Φ : D → Led → Prop}
theorem co_eq_lists {a b : D} {xs : List D} (ha : SeqIs σ a xs) (hb : SeqIs σ b xs) (hp : ∀ d ∈ xs, Plain 50 d) (h : Φ (.bool true) σ) : CO G n .Eq a b σ Φ := by
  intro τ A s Z E Q v w hR hS hv hw hQ
  obtain ⟨p, vs, rfl, h1, r1⟩ := ha.here hS hv
  obtain ⟨q, ws, rfl, h2, r2⟩ := hb.here hS hw
  refine eq_listAt (e := fun _ => true) h1 h2 (vrs_sizes r1 r2) (by have := hR.2.2; omega) (fun j j1 j2 => ?_) ?_
  · obtain ⟨d, hd, p, q⟩ := vrs_at r1 r2 j1 j2
    exact eqAt_plain hS.zin (nb_keeps G.nb (stt hS.base hS.zin)) (hp d hd) (by have := hR.2.2; simp only [Around.in1]; omega) p q
  · rw [all_true]; exact hQ Z _ σ _ _ (str Z) hS (.bool _) h
theorem co_ne_lists {a b : D} {xs : List D} (ha : SeqIs σ a xs) (hb : SeqIs σ b xs) (hp : ∀ d ∈ xs, Plain 50 d) (h : Φ (.bool false) σ) : CO G n .NotEq a b σ Φ := by
  intro τ A s Z E Q v w hR hS hv hw hQ
  obtain ⟨p, vs, rfl, h1, r1⟩ := ha.here hS hv
  obtain ⟨q, ws, rfl, h2, r2⟩ := hb.here hS hw
  refine RcNeAt.lists (e := fun _ => true) h1 h2 (vrs_sizes r1 r2) (by have := hR.2.2; omega) (fun j j1 j2 => ?_) G.prog G.w E Q ?_
  · obtain ⟨d, hd, p, q⟩ := vrs_at r1 r2 j1 j2
    exact eqAt_plain hS.zin (nb_keeps G.nb (stt hS.base hS.zin)) (hp d hd) (by have := hR.2.2; simp only [Around.in1]; omega) p q
  · rw [all_true]; exact hQ Z _ σ _ _ (str Z) hS (.bool _) h
end
end Mine
namespace Mine
section
variable {G : Gl} {n : Nat} {env : Env} {L : Addr} {ks : List (Str × NameKind)} {cs : List (Str × Addr)} {σ : Led} {Φ : Led → Prop} {pos : Pos}
def ASs (G : Gl) (n : Nat) (env : Env) : List Expr → List D → Led → (Led → Prop) → Prop
  | [], [], σ, Φ => Φ σ
  | t :: ts, d :: ds, σ, Φ => AS G n env t d σ fun σ₁ => ASs G n env ts ds σ₁ Φ
  | _, _, _, _ => False
theorem ass_nil (h : Φ σ) : ASs G n env [] [] σ Φ := h
theorem ass_cons {t : Expr} {ts : List Expr} {d : D} {ds : List D} (h : AS G n env t d σ fun σ₁ => ASs G n env ts ds σ₁ Φ) : ASs G n env (t :: ts) (d :: ds) σ Φ := h
theorem ass_run {τ : Led} {A : Around} {E : Value → Shared → Prop} (hR : Room n A) : ∀ (ts : List Expr) (ds : List D) (vs : List Value) (σ : Led) (s : Shared) (Z : Heap) (Q : Unit → Shared → Prop), ASs G n env ts ds σ Φ → VRs Z ds vs → St G Z (σ ++ τ) s →
    (∀ Z' σ' s', Z.StaysIn Z' → St G Z' (σ' ++ τ) s' → Φ σ' → Q () s') → wpAny (model G.prog G.w) A (assignInOrder (ts.map fun t => assign t env) vs) Q E s := by
  intro ts
  induction ts with
  | nil =>
    intro ds vs σ s Z Q h r hS hQ
    cases r with
    | nil => exact wpAny_assignInOrder_none (hQ Z σ s (str Z) hS h)
    | cons => exact h.elim
  | cons t ts ih =>
    intro ds vs σ s Z Q h r hS hQ
    cases r with
    | nil => exact h.elim
    | cons r rs =>
      refine wpAny_assignInOrder_more ?_
      exact h τ A s Z _ _ _ hR hS r fun Z1 _ σ1 _ s1 k1 S1 _ p1 => ih _ _ σ1 s1 Z1 Q p1 (rs.mono k1) S1 fun Z2 σ2 s2 k2 => hQ Z2 σ2 s2 (stt k1 k2)
theorem as_tuple {elts : List Expr} {k : Nat} {ds : List D} (h : ASs G n env elts ds σ Φ) (hl : elts.length = ds.length)
    (he : assignEach elts env = elts.map fun t => (false, assign t env) := by rfl) : AS G n env (.Tuple elts k pos) (.tup ds) σ Φ := by
  intro τ A s Z E Q v hR hS hv hQ
  cases hv with
  | @tup a vs _ ht r =>
    have hlen := r.length
    simp only [Array.length_toList] at hlen
    refine wpAny_assign_Tuple hR.1 (isTuple_keeps hS.zin ht) (by rw [he]; simp; omega) (by rw [he]; simp [List.findIdx?_eq_none_iff]) fun h' hs => ?_
    have keep : s.heap.StaysIn h' := fun q o eq => hs q o (Nat.ne_of_lt (Heap.lt_size eq)) eq
    rw [he, List.map_map]
    exact ass_run hR elts ds vs.toList σ _ Z Q h r (hS.grow keep s.toks) fun Z1 σ1 s1 k1 S1 p1 => hQ Z1 () σ1 () s1 k1 S1 trivial p1
end
end Mine
namespace Mine
theorem St.dropC {G : Gl} {Z : Heap} {σ : Led} {s : Shared} {C : Addr} {c : Cell} (S : St G Z ((C, c) :: σ) s) {h' : Heap} (hs : Heap.ExtBut C s.heap h') (t : Tok) (ht : s.toks ≤ t := by first | exact Nat.le_refl _ | omega | assumption) : St G Z σ { s with heap := h', toks := t } := by
  have nd := S.nod
  refine ⟨fun b o e => hs b o (fun q => ?_) (S.zin b o e), S.base, (List.nodup_cons.mp nd).2, fun p hp => S.hid p (.tail _ hp), fun p hp => ?_, S.os, S.gens, Nat.lt_of_lt_of_le S.pos ht⟩
  · have := S.hid _ (.head _); rw [← q, e] at this; cases this
  · obtain ⟨o, e, r⟩ := S.cells p (.tail _ hp)
    exact ⟨o, hs _ _ (fun (q : p.1 = C) => (List.nodup_cons.mp nd).1 (List.mem_map.mpr ⟨p, hp, q⟩)) e, r⟩
section
variable {G : Gl} {n : Nat} {env : Env} {L : Addr} {ks : List (Str × NameKind)} {cs : List (Str × Addr)} {σ : Led} {Φ : D → Led → Prop} {pos : Pos}
theorem ev_freeze {e : Expr} (h : EV G n env e σ fun d σ₁ => ∃ a ds σ₂, d = .obj a ∧ σ₁ = (a, .list ds) :: σ₂ ∧ Φ (.lst ds) σ₂) : EV G n env e σ Φ := by
  intro τ A s Z E Q hR hS hQ
  refine h τ A s Z E Q hR hS fun Z1 d σ1 v s1 k1 S1 r1 ⟨a, ds, σ2, e1, e2, p⟩ => ?_
  subst e1; subst e2
  cases r1
  obtain ⟨o, eo, vs, m, rfl, r⟩ := S1.cells _ (.head _)
  have S2 := S1.sub (σ' := σ2 ++ τ) (.cons _ (List.Sublist.refl _))
  have hn : a ∉ (σ2 ++ τ).map (·.1) := (List.nodup_cons.mp S1.nod).1
  have ez : (hideAll s1.heap ((σ2 ++ τ).map (·.1))).get? a = some { cls := .type "list", data := .seq vs m } := hideAll_get _ eo hn
  exact hQ _ _ σ2 _ s1 (stt k1 S2.frozen) S2.refresh (.lst ⟨_, ez, rfl, _, rfl⟩ (r.mono S2.frozen)) p
def TIfs (G : Gl) (n : Nat) (env : Env) : List Expr → Led → (Bool → Led → Prop) → Prop
  | [], σ, Φ => Φ true σ
  | [c], σ, Φ => TE G n env c σ Φ
  | _, _, _ => False
def CompL (G : Gl) (n : Nat) (env : Env) (target : Expr) (ifs : List Expr) (elt : Expr) (Ψ : List D → Led → Prop) : List D → List D → Led → Prop
  | [], acc, σ => Ψ acc σ
  | x :: xs, acc, σ => AS G n env target x σ fun σ₁ => TIfs G n env ifs σ₁ fun ok σ₂ => (ok = true → EV G n env elt σ₂ fun d σ₃ => CompL G n env target ifs elt Ψ xs (acc ++ [d]) σ₃) ∧ (ok = false → CompL G n env target ifs elt Ψ xs acc σ₂)
theorem two_mid {a b : Addr × Cell} (σ τ : Led) : (a :: b :: (σ ++ τ)).Perm (σ ++ a :: b :: τ) :=
  (List.Perm.cons a List.perm_middle.symm).trans List.perm_middle.symm
theorem go_iter {target : Expr} {it : Addr} {v : Value} {xs : List D} {A : Around} {s : Shared} {Z : Heap} {E : Value → Shared → Prop} {Q : Unit → Shared → Prop} (S : St G Z ((it, .iter xs) :: σ) s) (hQ : Q () s) :
    wpAny (model G.prog G.w) A (letOwnedTupleGo target (.ref it) v) Q E s := by
  obtain ⟨o, ho, hr⟩ := S.cells _ (.head _)
  obtain ⟨c, hc, hn⟩ : ∃ c, o.cls = .type c ∧ ["enumerate", "zip", "dict_itemiterator", "dict_reverseitemiterator", "odict_iterator", "itertools.zip_longest", "itertools.pairwise"].contains c = false := by
    cases hr with
    | list _ hc _ _ => exact ⟨_, hc, by decide⟩
    | tuple _ hc _ _ => exact ⟨_, hc, by decide⟩
    | range ho _ _ => exact ⟨_, by rw [ho], by decide⟩
    | str _ hc _ _ _ => exact ⟨_, hc, by decide⟩
  have core : ∀ a : Addr, wpAny (model G.prog G.w) A (do
      let o ← load it
      match o.cls, o.data with
      | .type n, .fields vs =>
        if ["enumerate", "zip", "dict_itemiterator", "dict_reverseitemiterator", "odict_iterator", "itertools.zip_longest", "itertools.pairwise"].contains n && vs[0]? == some (rawInt a) then
          rule "for.unpacks-the-owned-tuple"
          updateField it 0 .none
      | _, _ => pure ()) Q E s := fun a => by
    refine wpAny_bind (wpAny_load ho ?_)
    rw [hc]
    split
    · rename_i n vs e1 e2
      cases e1
      rw [hn, Bool.false_and, if_neg Bool.false_ne_true]
      exact wpAny_pure hQ
    · exact wpAny_pure hQ
  unfold letOwnedTupleGo
  split
  · cases v <;> first | exact wpAny_pure hQ | exact core _
  · cases v <;> first | exact wpAny_pure hQ | exact core _
  · exact wpAny_pure hQ
def CompI (G : Gl) (n : Nat) (env : Env) (target : Expr) (ifs : List Expr) (elt : Expr) (Ψ : List D → Led → Prop) (Z : Heap) (it ac : Addr) (τ : Led) (k : Nat) (s' : Shared) : Prop :=
  ∃ xs acc Z' σ', k = xs.length ∧ acc.length + xs.length ≤ 1000 ∧ Z.StaysIn Z' ∧ St G Z' ((it, .iter xs) :: (ac, .list acc) :: (σ' ++ τ)) s' ∧ CompL G n env target ifs elt Ψ xs acc σ'
theorem comp_put {target elt : Expr} {ifs : List Expr} {it ac : Addr} {τ : Led} {A : Around} {Ψ : List D → Led → Prop} {Z Z4 : Heap} {r acc : List D} {σ4 : Led} {s4 : Shared} {E' : Value → Shared → Prop} (hR : Room n A)
    (hl : acc.length + (r.length + 1) ≤ 1000) (k4 : Z.StaysIn Z4) (S4 : St G Z4 (σ4 ++ (it, .iter r) :: (ac, .list acc) :: τ) s4) (p4 : EV G n env elt σ4 (fun d σ₃ => CompL G n env target ifs elt Ψ r (acc ++ [d]) σ₃)) :
    wpAny (model G.prog G.w) A (eval elt env) (fun x s₄ => wpAny (model G.prog G.w) A (call (.builtin "list.append") [.ref ac, x]) (fun _ s₅ => ∃ m, m < r.length + 1 ∧ CompI G n env target ifs elt Ψ Z it ac τ m s₅) E' s₄) E' s4 := by
  refine p4 _ A s4 Z4 _ _ hR S4 fun Z5 d σ5 y s5 k5 S5 r5 p5 => ?_
  have S6 := S5.perm (two_mid σ5 τ)
  obtain ⟨ob, eo, vs, m, rfl, rr⟩ := S6.cells _ (.tail _ (.head _))
  have hlen := rr.length
  simp only [Array.length_toList] at hlen
  refine PySem.wpAny_list_append_plain ⟨m, eo⟩ (fun h' ⟨m', e'⟩ hs => ?_) (by rw [sizeLine_eq]; omega)
  refine ⟨r.length, by kt_len, r, acc ++ [d], Z5, σ5, rfl, by simp; omega, stt k4 k5, ?_, p5⟩
  exact S6.upd (.tail _ _ (.head _)) hs.extBut s5.toks e' ⟨_, _, rfl, by simpa using rr.append (.cons r5 .nil)⟩
theorem comp_loop {target iter elt : Expr} {ifs : List Expr} {scope : Scope} {p2 : Pos} {it ac : Addr} {τ : Led} {A : Around} {R : Result → Shared → Prop} {Ψ : List D → Led → Prop} {Z : Heap}
    (hR : Room n A) (hend : ∀ acc Z' σ' s', Z.StaysIn Z' → St G Z' ((ac, .list acc) :: (σ' ++ τ)) s' → Ψ acc σ' → R (.ok .next) s') (hif : ifs.length ≤ 1)
    (xs acc : List D) (σ : Led) (s : Shared) (hS : St G Z ((it, .iter xs) :: (ac, .list acc) :: (σ ++ τ)) s) (h : CompL G n env target ifs elt Ψ xs acc σ) (hl : acc.length + xs.length ≤ 1000) :
    codeAny (model G.prog G.w) A (.compLoop (.ListComp elt [⟨target, iter, ifs, 0⟩] scope p2) 0 (.ref it) (.ref ac) env) R s := by
  rcases ifs with _ | ⟨c, _ | ⟨c2, r2⟩⟩
  · refine kcp_loop (CompI G n env target [] elt Ψ Z it ac τ) (fun k s' h' => ?_) xs.length ⟨xs, acc, Z, σ, rfl, hl, str Z, hS, h⟩
    obtain ⟨xs, acc, Z1, σ1, rfl, hl, k1, S1, hk⟩ := h'
    refine pyNext_of hR.1 S1 (fun e s2 S2 => ?_) fun x r e v s2 S2 hx => ?_
    · subst e; exact hend acc Z1 σ1 s2 k1 S2 hk
    subst e
    refine go_iter S2 (hk ((it, .iter r) :: (ac, .list acc) :: τ) A s2 Z1 _ _ v hR (S2.perm (two_mid σ1 τ).symm) hx fun Z3 _ σ3 _ s3 k3 S3 _ p3 => ?_)
    exact comp_put hR hl (stt k1 k3) S3 (p3.1 rfl)
  · refine kct_loop (CompI G n env target [c] elt Ψ Z it ac τ) (fun k s' h' => ?_) xs.length ⟨xs, acc, Z, σ, rfl, hl, str Z, hS, h⟩
    obtain ⟨xs, acc, Z1, σ1, rfl, hl, k1, S1, hk⟩ := h'
    refine pyNext_of hR.1 S1 (fun e s2 S2 => ?_) fun x r e v s2 S2 hx => ?_
    · subst e; exact hend acc Z1 σ1 s2 k1 S2 hk
    subst e
    refine go_iter S2 (hk ((it, .iter r) :: (ac, .list acc) :: τ) A s2 Z1 _ _ v hR (S2.perm (two_mid σ1 τ).symm) hx fun Z3 _ σ3 _ s3 k3 S3 _ p3 => ?_)
    refine p3 _ A s3 Z3 _ _ hR S3 fun Z4 ok σ4 v4 s4 k4 S4 (e : ok = v4) p4 => ?_
    subst e
    cases ok with
    | true => exact comp_put hR hl (stt k1 (stt k3 k4)) S4 (p4.1 rfl)
    | false => exact ⟨r.length, Nat.lt_succ_self _, r, acc, Z4, σ4, rfl, by simp only [List.length_cons] at hl; omega, stt k1 (stt k3 k4), S4.perm (two_mid σ4 τ), p4.2 rfl⟩
  · exact absurd hif (by simp)
theorem pyIter_self_of {A : Around} {s : Shared} {Z : Heap} {E : Value → Shared → Prop} {Q : Value → Shared → Prop} {it : Addr} {xs : List D} (S : St G Z σ s) (h : (it, Cell.iter xs) ∈ σ) (hQ : Q (.ref it) s) : wpAny (model G.prog G.w) A (pyIter (.ref it)) Q E s := by
  obtain ⟨o, ho, hr⟩ := S.cells _ h
  cases hr with
  | list h hc hd r => exact PySem.wpAny_pyIter_listiter ⟨o, ho, hc, hd⟩ hQ
  | tuple h hc hd r => exact wpAny_pyIter_tupleiter ⟨o, ho, hc, hd⟩ hQ
  | range e _ r => subst e; exact wpAny_pyIter_rangeiter ho hQ
  | str ha hc hd _ r => exact wpAny_pyIter_striter_ascii ⟨o, ho, hc, hd⟩ hQ
def clOf (scope : Scope) (cs : List (Str × Addr)) : List (Str × Addr) := ((scope.names.filter fun p => p.2 == .free).map fun p => (p.1, (cs.lookup p.1).getD 0)).reverse
theorem lookup_mem {β : Type} : ∀ {l : List (Str × β)} {x : Str} {b : β}, l.lookup x = some b → (x, b) ∈ l
  | (y, c) :: r, x, b, h => by
    rw [List.lookup_cons] at h
    cases e : x == y with
    | true => rw [e] at h; cases h; rw [eq_of_beq e]; exact .head _
    | false => rw [e] at h; exact .tail _ (lookup_mem h)
theorem closure_go (env : Env) (cs : List (Str × Addr)) (hcs : ∀ p ∈ cs, env.cells.lookup p.1 = some p.2) : ∀ (names : List (Str × NameKind)) (acc : List (Str × Addr)), names.all (fun p => p.2 != .free || (cs.lookup p.1).isSome) = true →
    (forIn names acc fun (p : Str × NameKind) r => if (p.2 == .free) = true then cellOf env p.1 >>= fun a => pure (ForInStep.yield ((p.1, a) :: r)) else pure (ForInStep.yield r)) = (pure (((names.filter fun p => p.2 == .free).map fun p => (p.1, (cs.lookup p.1).getD 0)).reverse ++ acc) : Sem (List (Str × Addr))) := by
  intro names
  induction names with
  | nil => intro acc _; rfl
  | cons p r ih =>
    intro acc h
    rw [List.all_cons, Bool.and_eq_true] at h
    rw [List.forIn_cons]
    cases hp : p.2 == NameKind.free with
    | false =>
      rw [if_neg Bool.false_ne_true, List.filter_cons, hp, if_neg Bool.false_ne_true]
      exact ih acc h.2
    | true =>
      rw [if_pos rfl, List.filter_cons, hp, if_pos rfl]
      obtain ⟨c, hc⟩ : ∃ c, cs.lookup p.1 = some c := by
        have := h.1
        have e : p.2 = .free := eq_of_beq hp
        rw [e] at this
        exact Option.isSome_iff_exists.mp (by simpa using this)
      have e2 : cellOf env p.1 = pure c := by unfold cellOf; rw [hcs (p.1, c) (lookup_mem hc)]
      rw [e2]
      show (forIn r ((p.1, c) :: acc) _ : Sem _) = _
      rw [ih ((p.1, c) :: acc) h.2]
      simp [hc]
theorem closure_of (O : EnvOK env L ks cs) {scope : Scope} (h : scope.names.all (fun p => p.2 != .free || (cs.lookup p.1).isSome) = true) : closureFor scope env = pure (clOf scope cs) := by
  have := closure_go env cs O.cs scope.names [] h
  rw [List.append_nil] at this
  unfold closureFor
  have e : ∀ {α β : Type} (a : Sem α) (b : α) (f : α → Sem β), a = pure b → (a >>= f) = f b := fun a b f h => by rw [h]; rfl
  exact (e _ _ _ this)
theorem compEnvOK (O : EnvOK env L ks cs) {scope : Scope} {C : Addr} {cl : List (Str × Addr)} (hkind : scope.kind = .function) (hcell : scope.names.all (fun p => p.2 != .cell) = true) (hn : (scope.names.map (·.1)).Nodup)
    (hd : scope.names.all (fun p => !(p.1 == ("__debug__" : Str)) && !(p.1 == ("__classdict__" : Str))) = true) (hcl : (cl.map (·.1)).Nodup) : EnvOK (compEnvC scope cl C env) C scope.names cl where
  loc := rfl
  kind := hkind
  glo := O.glo
  bui := O.bui
  k := fun p hp => by
    have nd : ((relabel scope env).names.map (·.1)).Nodup := by
      have : (relabel scope env).names.map (·.1) = scope.names.map (·.1) := by
        unfold relabel
        dsimp only
        rw [List.map_map]
        refine List.map_congr_left fun q _ => ?_
        dsimp only [Function.comp]
        split <;> rfl
      rw [this]; exact hn
    obtain ⟨x, k⟩ := p
    have key : (compEnvC scope cl C env).kindOf x = some (if (k == .free && env.scope.kind == .function && env.kindOf x == some .cell) then .cell else k) := by
      refine lookup_nd ?_ nd
      refine List.mem_map.mpr ⟨(x, k), hp, ?_⟩
      dsimp only
      split <;> rfl
    dsimp only
    rw [key]
    refine ⟨fun e => ?_, fun e => ?_, fun e => ?_⟩
    · subst e; rfl
    · rcases e with e | e
      · subst e
        have := List.all_eq_true.mp hcell _ hp
        simp at this
      · subst e
        split
        · exact .inl rfl
        · exact .inr rfl
    · subst e; rfl
  kc := fun p hp e => by
    have := List.all_eq_true.mp hcell p hp
    rw [e] at this
    exact absurd this (by decide)
  nd := fun p hp => by
    have := List.all_eq_true.mp hd p hp
    simpa using this
  cs := fun p hp => lookup_nd hp hcl
def compNs (scope : Scope) : List (Str × Option D) := (scope.names.filter fun p => p.2 == .local).map fun p => (p.1, none)
theorem comp_core {elt target iter : Expr} {ifs : List Expr} {scope : Scope} {cl : List (Str × Addr)} {ipos : Pos} {use : Option (Value → Sem Unit)} {τ : Led} {A : Around} {s : Shared} {Z : Heap} {E : Value → Shared → Prop} {Q : Value → Shared → Prop} {Ψ : List D → Led → Prop}
    (O : EnvOK env L ks cs) (hR : Room n A) (hS : St G Z (σ ++ τ) s)
    (h : EV G n env iter σ fun d σ₁ => ∃ xs, IterOf d xs ∧ xs.length ≤ 1000 ∧ ∀ cenv C, EnvOK cenv C scope.names cl →
      CompL G n cenv target ifs elt (fun ds σ₂ => ∃ m σ₃, σ₂ = (C, .ns m) :: σ₃ ∧ Ψ ds σ₃) xs [] ((C, .ns (compNs scope)) :: σ₁))
    (hfin : ∀ Z' ds σ₃ a C m s', Z.StaysIn Z' → St G Z' ((C, .ns m) :: (a, .list ds) :: (σ₃ ++ τ)) s' → Ψ ds σ₃ → compPost (model G.prog G.w) A E use Q (.ref a) C (.ok .next) s')
    (hcl : clOf scope cs = cl) (hfree : scope.names.all (fun p => p.2 != .free || (cs.lookup p.1).isSome) = true) (hkind : scope.kind = .function) (hcell : scope.names.all (fun p => p.2 != .cell) = true) (hn : (scope.names.map (·.1)).Nodup)
    (hd : scope.names.all (fun p => !(p.1 == ("__debug__" : Str)) && !(p.1 == ("__classdict__" : Str))) = true) (hcn : (cl.map (·.1)).Nodup) (hs : ∀ x, foldedSetIterable iter env x = pure x) (hif : ifs.length ≤ 1) :
    wpAny (model G.prog G.w) A (comprehension (.ListComp elt [⟨target, iter, ifs, 0⟩] scope pos) scope env ipos (newList []) false (eval iter env) use) Q E s := by
  have hnames : ∀ x ∈ scope.names, x.2 = .local → scope.names.lookup x.1 = some .local := fun x hx e => by
    obtain ⟨a, b⟩ := x; dsimp only at e; subst e; exact lookup_nd hx hn
  have hcell' : ∀ x ∈ scope.names, x.2 ≠ .cell := fun x hx => by simpa using List.all_eq_true.mp hcell x hx
  refine wpAny_comprehension_free (use := use) rfl hs ((closure_of O hfree).trans (by rw [hcl])) hkind hnames
    (h τ A s Z _ _ hR hS fun Z1 d σ1 v s1 k1 S1 r1 ⟨xs, hi, hl, p1⟩ => pyIter_of hi S1 r1 fun it s2 S2 => ?_)
  refine wpAny_newObj_type (wpAny_newFunctionEnv hcell' (by intro y hy; simp at hy) (fun h₁ hns₁ hsb₁ => ?_) hkind)
  dsimp only at hns₁ hsb₁ ⊢
  have S3 := S2.add (h' := s2.heap.push { cls := .type "list", data := .seq ([] : List Value).toArray }) (fun _ _ e => Heap.get?_push_of_some _ e) s2.toks (size_none _) (Heap.get?_push_size _ rfl) (show CellR Z1 (.list []) _ from ⟨_, _, rfl, .nil⟩)
  generalize hH2 : s2.heap.push { cls := .type "list", data := .seq ([] : List Value).toArray } = H2 at hns₁ hsb₁ S3 ⊢
  obtain ⟨oC, eC, cC⟩ := ns_cell (Z := Z1) hns₁ (m := compNs scope) (by
      unfold compNs
      rw [List.map_map]
      exact (List.Sublist.map _ List.filter_sublist).nodup hn) (fun p hp => by
      unfold compNs at hp
      obtain ⟨q, _, rfl⟩ := List.mem_map.mp hp
      exact .none)
  have keep : H2.StaysIn h₁ := fun q o eq => hsb₁.extBut q o (Nat.ne_of_lt (Heap.lt_size eq)) (Heap.get?_push_of_some _ eq)
  have S4 := S3.add (h' := h₁) keep (s2.toks + ([] : List (Str × Value)).length) (size_none _) eC cC
  have S5 := S4.perm (σ' := (it, .iter xs) :: (s2.heap.objs.size, .list []) :: (((H2.objs.size, Cell.ns (compNs scope)) :: σ1) ++ τ)) (by
    have : ∀ {a b c : Addr × Cell} {l : Led}, (b :: c :: a :: l).Perm (a :: c :: b :: l) := fun {a b c l} =>
      (List.Perm.swap _ _ _).trans ((List.Perm.cons _ (List.Perm.swap _ _ _)).trans (List.Perm.swap _ _ _))
    exact this)
  have O' := compEnvOK O (C := H2.objs.size) (cl := cl) hkind hcell hn hd hcn
  have loop : codeAny (model G.prog G.w) A (.compLoop (.ListComp elt [⟨target, iter, ifs, 0⟩] scope pos) 0 (.ref it) (.ref s2.heap.objs.size) (compEnvC scope cl H2.objs.size env)) (compPost (model G.prog G.w) A E use Q (.ref s2.heap.objs.size) H2.objs.size)
      { s2 with heap := h₁, toks := s2.toks + ([] : List (Str × Value)).length } := by
    refine comp_loop hR (Z := Z1) (fun ds Z' σ' s' kz S' hp => ?_) hif xs [] _ _ S5 (p1 _ _ O') (by simpa using hl)
    obtain ⟨m, σ₃, rfl, hΦ⟩ := hp
    exact hfin Z' ds σ₃ _ _ m s' (stt k1 kz) (S'.perm (σ' := (H2.objs.size, .ns m) :: (s2.heap.objs.size, .list ds) :: (σ₃ ++ τ)) (List.Perm.swap _ _ _)) hΦ
  exact codeAny_compStart_list loop (pyIter_self_of S5 (.head _) loop)
theorem ev_compO {elt target iter : Expr} {ifs : List Expr} {scope : Scope} {cl : List (Str × Addr)} (O : EnvOK env L ks cs)
    (h : EV G n env iter σ fun d σ₁ => ∃ xs, IterOf d xs ∧ xs.length ≤ 1000 ∧ ∀ cenv C, EnvOK cenv C scope.names cl →
      CompL G n cenv target ifs elt (fun ds σ₂ => ∃ m σ₃, σ₂ = (C, .ns m) :: σ₃ ∧ ∀ a, Φ (.obj a) ((a, .list ds) :: σ₃)) xs [] ((C, .ns (compNs scope)) :: σ₁))
    (hcl : clOf scope cs = cl) (hfree : scope.names.all (fun p => p.2 != .free || (cs.lookup p.1).isSome) = true) (hkind : scope.kind = .function) (hcell : scope.names.all (fun p => p.2 != .cell) = true) (hn : (scope.names.map (·.1)).Nodup)
    (hd : scope.names.all (fun p => !(p.1 == ("__debug__" : Str)) && !(p.1 == ("__classdict__" : Str))) = true) (hcn : (cl.map (·.1)).Nodup) (hs : ∀ x, foldedSetIterable iter env x = pure x) (hif : ifs.length ≤ 1) :
    EV G n env (.ListComp elt [⟨target, iter, ifs, 0⟩] scope pos) σ Φ := by
  intro τ A s Z E Q hR hS hQ
  rw [eval_ListComp]
  refine comp_core (Ψ := fun ds σ₃ => ∀ a, Φ (.obj a) ((a, .list ds) :: σ₃)) O hR hS h (fun Z' ds σ₃ a C m s' kz S' hp => ?_) hcl hfree hkind hcell hn hd hcn hs hif
  obtain ⟨mm, N, _, _⟩ := S'.ns (.head _)
  exact ⟨mm, N, fun h' hs' => hQ _ _ ((a, .list ds) :: σ₃) _ _ kz (S'.dropC hs'.extBut s'.toks) (.obj _) (hp a)⟩
theorem ev_comp {elt target iter : Expr} {ifs : List Expr} {scope : Scope} {cl : List (Str × Addr)} (O : EnvOK env L ks cs)
    (h : EV G n env iter σ fun d σ₁ => ∃ xs, IterOf d xs ∧ xs.length ≤ 1000 ∧ ∀ cenv C, EnvOK cenv C scope.names cl →
      CompL G n cenv target ifs elt (fun ds σ₂ => ∃ m σ₃, σ₂ = (C, .ns m) :: σ₃ ∧ Φ (.lst ds) σ₃) xs [] ((C, .ns (compNs scope)) :: σ₁))
    (hcl : clOf scope cs = cl) (hfree : scope.names.all (fun p => p.2 != .free || (cs.lookup p.1).isSome) = true) (hkind : scope.kind = .function) (hcell : scope.names.all (fun p => p.2 != .cell) = true) (hn : (scope.names.map (·.1)).Nodup)
    (hd : scope.names.all (fun p => !(p.1 == ("__debug__" : Str)) && !(p.1 == ("__classdict__" : Str))) = true) (hcn : (cl.map (·.1)).Nodup) (hs : ∀ x, foldedSetIterable iter env x = pure x) (hif : ifs.length ≤ 1) :
    EV G n env (.ListComp elt [⟨target, iter, ifs, 0⟩] scope pos) σ Φ := by
  refine ev_freeze (ev_compO O (h.mono fun d σ₁ ⟨xs, hi, hl, q⟩ => ⟨xs, hi, hl, fun cenv C O' => ?_⟩) hcl hfree hkind hcell hn hd hcn hs hif)
  have e : (fun (ds : List D) (σ₂ : Led) => ∃ m σ₃, σ₂ = (C, Cell.ns m) :: σ₃ ∧ ∀ a, ∃ a_1 ds_1 σ₂, D.obj a = .obj a_1 ∧ (a, Cell.list ds) :: σ₃ = (a_1, Cell.list ds_1) :: σ₂ ∧ Φ (.lst ds_1) σ₂) = fun ds σ₂ => ∃ m σ₃, σ₂ = (C, Cell.ns m) :: σ₃ ∧ Φ (.lst ds) σ₃ := by
    funext ds σ₂
    refine propext ⟨fun ⟨m, σ₃, e, f⟩ => ?_, fun ⟨m, σ₃, e, f⟩ => ⟨m, σ₃, e, fun a => ⟨a, ds, σ₃, rfl, rfl, f⟩⟩⟩
    obtain ⟨a, ds', σ', e1, e2, f⟩ := f 0
    cases e2
    exact ⟨m, σ₃, e, f⟩
  rw [e]; exact q cenv C O'
end
section
variable {G : Gl} {n : Nat} {env : Env} {L : Addr} {ks : List (Str × NameKind)} {cs : List (Str × Addr)} {σ : Led} {Φ : AF → Led → Prop} {pos : Pos}
theorem x_compO {elt target iter : Expr} {ifs : List Expr} {scope : Scope} {cl : List (Str × Addr)} {t : Str} {tp cp : Pos} (O : EnvOK env L ks cs)
    (h : EV G n env iter σ fun d σ₁ => ∃ xs, IterOf d xs ∧ xs.length ≤ 1000 ∧ ∀ cenv C, EnvOK cenv C scope.names cl →
      CompL G n cenv target ifs elt (fun ds σ₂ => ∃ m σ₃, σ₂ = (C, .ns m) :: σ₃ ∧ ∀ a, AS G n env (.Name t tp) (.obj a) ((a, .list ds) :: σ₃) (Φ .next)) xs [] ((C, .ns (compNs scope)) :: σ₁))
    (hx : (t, NameKind.local) ∈ ks) (hl : tp.line = cp.line) (hst : (scope.names.any fun p => p.1 == t && (p.2 == .local || p.2 == .cell)) = false)
    (hcl : clOf scope cs = cl) (hfree : scope.names.all (fun p => p.2 != .free || (cs.lookup p.1).isSome) = true) (hkind : scope.kind = .function) (hcell : scope.names.all (fun p => p.2 != .cell) = true) (hn : (scope.names.map (·.1)).Nodup)
    (hd : scope.names.all (fun p => !(p.1 == ("__debug__" : Str)) && !(p.1 == ("__classdict__" : Str))) = true) (hcn : (cl.map (·.1)).Nodup) (hs : ∀ x, foldedSetIterable iter env x = pure x) (hif : ifs.length ≤ 1) :
    X1 G n env (.Assign [.Name t tp] (.ListComp elt [⟨target, iter, ifs, 0⟩] scope cp) pos) σ Φ := by
  intro τ A s Z E Q hR hS hQ
  have hsw : swapsWith (.ListComp elt [⟨target, iter, ifs, 0⟩] scope cp) (some (.Name t tp)) pos.line env = pure true := by
    unfold swapsWith
    dsimp only
    have h1 : (env.blockKind == ScopeKind.function) = true := by unfold Env.blockKind; rw [O.kind]; rfl
    have h2 : (env.kindOf t == some NameKind.local) = true := by rw [(O.k _ hx).1 rfl]; rfl
    have h3 : (tp.line == (Expr.ListComp elt [⟨target, iter, ifs, 0⟩] scope cp).pos.line) = true := by
      show (tp.line == cp.line) = true
      rw [hl]; simp
    simp only [h1, h2, h3, Bool.true_and]
    have h4 : (scope.names.any fun x => match x with | (n, k) => n == t && (k == .local || k == .cell)) = false := hst
    rw [h4]; rfl
  rw [exec_Assign_Name_used _ _ _ _ hsw]
  refine wpAny_bind (wpAny_standAt (wpAny_bind ?_))
  show wpAny _ A (do let _ ← comprehension (.ListComp elt [⟨target, iter, ifs, 0⟩] scope cp) scope env _ (newList []) false (eval iter env) (some (assign (.Name t tp) env))) _ _ s
  refine wpAny_bind (wpAny_mono (comp_core (use := some (assign (.Name t tp) env)) (Q := fun _ s' => Q .next s') (Ψ := fun ds σ₃ => ∀ a, AS G n env (.Name t tp) (.obj a) ((a, .list ds) :: σ₃) (Φ .next)) O hR hS h
    (fun Z' ds σ₃ a C m s' kz S' hp => ?_) hcl hfree hkind hcell hn hd hcn hs hif) (fun _ s' hq => wpAny_pure (wpAny_pure hq)) fun _ _ e => e)
  show wpAny _ A (assign (.Name t tp) env (.ref a)) _ _ _
  refine hp a ((C, .ns m) :: τ) A s' Z' _ _ _ hR (S'.perm (σ' := ((a, .list ds) :: σ₃) ++ (C, .ns m) :: τ) (List.perm_middle (l₁ := (a, Cell.list ds) :: σ₃))) (.obj _) fun Z2 _ σ4 _ s4 k4 S4 _ p4 => ?_
  have S5 := S4.perm (σ' := (C, .ns m) :: (σ4 ++ τ)) List.perm_middle.symm
  obtain ⟨mm, N, _, _⟩ := S5.ns (.head _)
  exact ⟨mm, N, fun h' hs' => hQ _ _ σ4 _ _ (stt kz k4) (S5.dropC hs'.extBut s4.toks) .next p4⟩
end
section
variable {G : Gl} {n : Nat} {env : Env} {σ : Led}
theorem as_freeze {t : Expr} {a : Addr} {ds : List D} {Φ : Led → Prop} (h : AS G n env t (.lst ds) σ Φ) : AS G n env t (.obj a) ((a, .list ds) :: σ) Φ := by
  intro τ A s Z E Q v hR hS hv hQ
  cases hv
  obtain ⟨o, eo, vs, m, rfl, r⟩ := hS.cells _ (.head _)
  have S2 := hS.sub (σ' := σ ++ τ) (.cons _ (List.Sublist.refl _))
  have hn : a ∉ (σ ++ τ).map (·.1) := (List.nodup_cons.mp hS.nod).1
  have ez : (hideAll s.heap ((σ ++ τ).map (·.1))).get? a = some { cls := .type "list", data := .seq vs m } := hideAll_get _ eo hn
  exact h τ A s _ E Q _ hR S2.refresh (.lst ⟨_, ez, rfl, _, rfl⟩ (r.mono S2.frozen)) fun Z1 d σ1 v s1 k1 => hQ Z1 d σ1 v s1 (stt S2.frozen k1)
end
end Mine
namespace Mine
theorem St.addAll {G : Gl} {Z : Heap} {σ : Led} {s : Shared} (S : St G Z σ s) {h' : Heap} (k : s.heap.StaysIn h') (t : Tok) (ht : s.toks ≤ t) (ρ : Led) (hnd : (ρ.map (·.1)).Nodup) (hn : ∀ p ∈ ρ, s.heap.get? p.1 = none)
    (hc : ∀ p ∈ ρ, ∃ o, h'.get? p.1 = some o ∧ CellR Z p.2 o) : St G Z (ρ ++ σ) { s with heap := h', toks := t } where
  zin := fun b o e => k _ _ (S.zin b o e)
  base := S.base
  nod := by
    rw [List.map_append]
    refine List.nodup_append.mpr ⟨hnd, S.nod, fun a ha b hb e => ?_⟩
    subst e
    obtain ⟨p, hp, rfl⟩ := List.mem_map.mp ha
    exact S.notIn (hn p hp) hb
  hid := fun p hp => by
    rcases List.mem_append.mp hp with hp | hp
    · cases e : Z.get? p.1 with
      | none => rfl
      | some o' => have := S.zin _ _ e; rw [hn p hp] at this; cases this
    · exact S.hid p hp
  cells := fun p hp => by
    rcases List.mem_append.mp hp with hp | hp
    · exact hc p hp
    · obtain ⟨o', e, r⟩ := S.cells p hp; exact ⟨o', k _ _ e, r⟩
  os := S.os
  gens := S.gens
  pos := Nat.lt_of_lt_of_le S.pos ht
theorem bindL_eq (k : Str → Option NameKind) {x : Str} (hx : k x = some .local) : ∀ (bs : List (Str × Value)) (m : Str → Option Value), (bs.map (·.1)).Nodup → bindL k bs m x = (match bs.lookup x with | some v => some v | none => m x)
  | [], _, _ => rfl
  | (y, v) :: r, m, nd => by
    rw [bindL, bindL_eq k hx r _ (List.nodup_cons.mp nd).2]
    rw [List.lookup_cons]
    cases e : x == y with
    | true =>
      have e' : x = y := eq_of_beq e
      subst e'
      have : r.lookup x = none := List.lookup_eq_none_iff.mpr fun q hq => by
        rw [bne_iff_ne]; rintro rfl
        exact (List.nodup_cons.mp nd).1 (List.mem_map.mpr ⟨q, hq, rfl⟩)
      rw [this, hx]; simp
    | false =>
      cases r.lookup x with
      | some w => rfl
      | none =>
        dsimp only
        split
        · exact if_neg (by rw [beq_eq_false_iff_ne] at e; exact e)
        · rfl
theorem bindC_eq (k : Str → Option NameKind) {x : Str} (hx : k x ≠ some .local) : ∀ (bs : List (Str × Value)) (m : Str → Option Value), (bs.map (·.1)).Nodup → bindC k bs m x = (match bs.lookup x with | some v => some v | none => m x)
  | [], _, _ => rfl
  | (y, v) :: r, m, nd => by
    rw [bindC, bindC_eq k hx r _ (List.nodup_cons.mp nd).2]
    rw [List.lookup_cons]
    cases e : x == y with
    | true =>
      have e' : x = y := eq_of_beq e
      subst e'
      have : r.lookup x = none := List.lookup_eq_none_iff.mpr fun q hq => by
        rw [bne_iff_ne]; rintro rfl
        exact (List.nodup_cons.mp nd).1 (List.mem_map.mpr ⟨q, hq, rfl⟩)
      rw [this, if_neg hx]; simp
    | false =>
      cases r.lookup x with
      | some w => rfl
      | none =>
        dsimp only
        split
        · rfl
        · exact if_neg (by rw [beq_eq_false_iff_ne] at e; exact e)
theorem zip_lookup {Z : Heap} : ∀ {bs : List (Str × D)} {ws : List Value}, VRs Z (bs.map (·.2)) ws → ∀ x, OR Z (bs.lookup x) (((bs.map (·.1)).zip ws).lookup x)
  | [], [], .nil, _ => .none
  | (y, d) :: r, w :: ws, .cons h t, x => by
    simp only [List.map_cons, List.zip_cons_cons, List.lookup_cons]
    cases x == y with
    | true => exact .some h
    | false => exact zip_lookup t x
def lnsOf (names : List (Str × NameKind)) (bs : List (Str × D)) : List (Str × Option D) := (names.filter fun p => p.2 == .local).map fun p => (p.1, bs.lookup p.1)
def cellsOf (names : List (Str × NameKind)) (L : Addr) (bs : List (Str × D)) : Led := (cellsFrom (L + 1) names []).map fun p => (p.2, .cell (bs.lookup p.1))
theorem cellsFrom_keys : ∀ (names : List (Str × NameKind)) (n : Nat) (acc : List (Str × Addr)), (cellsFrom n names acc).map (·.1) = ((names.filter fun p => p.2 == .cell).map (·.1)).reverse ++ acc.map (·.1)
  | [], _, _ => rfl
  | (x, k) :: r, n, acc => by
    unfold cellsFrom
    rw [List.filter_cons]
    dsimp only
    split
    · rw [cellsFrom_keys r]; simp
    · exact cellsFrom_keys r n acc
theorem cellsFrom_apart : ∀ (names : List (Str × NameKind)) (n : Nat) (acc : List (Str × Addr)), (∀ p ∈ acc, p.2 < n) → (acc.map (·.2)).Nodup → ((cellsFrom n names acc).map (·.2)).Nodup
  | [], _, _, _, h => h
  | (x, k) :: r, n, acc, hlt, h => by
    unfold cellsFrom
    split
    · refine cellsFrom_apart r (n + 1) _ (fun p hp => ?_) ?_
      · rcases List.mem_cons.mp hp with rfl | hp
        · exact Nat.lt_succ_self _
        · exact Nat.lt_succ_of_lt (hlt p hp)
      · rw [List.map_cons]
        refine List.nodup_cons.mpr ⟨fun hm => ?_, h⟩
        obtain ⟨p, hp, e⟩ := List.mem_map.mp hm
        exact Nat.lt_irrefl _ (e ▸ hlt p hp)
    · exact cellsFrom_apart r n acc hlt h
theorem cellsFrom_nodup {names : List (Str × NameKind)} {n : Nat} (hn : (names.map (·.1)).Nodup) : ((cellsFrom n names []).map (·.1)).Nodup := by
  rw [cellsFrom_keys, List.map_nil, List.append_nil]
  exact (List.reverse_perm _).nodup_iff.mpr ((List.Sublist.map _ List.filter_sublist).nodup hn)
theorem cellsFrom_kind {names : List (Str × NameKind)} {n : Nat} {x : Str} {c : Addr} (h : (x, c) ∈ cellsFrom n names []) : (x, NameKind.cell) ∈ names := by
  have : x ∈ (cellsFrom n names []).map (·.1) := List.mem_map.mpr ⟨_, h, rfl⟩
  rw [cellsFrom_keys, List.map_nil, List.append_nil, List.mem_reverse] at this
  obtain ⟨p, hp, e⟩ := List.mem_map.mp this
  obtain ⟨h1, h2⟩ := List.mem_filter.mp hp
  obtain ⟨y, k⟩ := p
  dsimp only at e h2
  subst e
  rw [← eq_of_beq h2]; exact h1
theorem cellsFrom_some {names : List (Str × NameKind)} {n : Nat} {x : Str} (h : (x, NameKind.cell) ∈ names) : ((cellsFrom n names []).lookup x).isSome = true := by
  have : x ∈ (cellsFrom n names []).map (·.1) := by
    rw [cellsFrom_keys, List.map_nil, List.append_nil, List.mem_reverse]
    exact List.mem_map.mpr ⟨_, List.mem_filter.mpr ⟨h, rfl⟩, rfl⟩
  obtain ⟨⟨y, c⟩, hp, e⟩ := List.mem_map.mp this
  dsimp only at e; subst e
  cases q : (cellsFrom n names []).lookup y with
  | some _ => rfl
  | none =>
    have := List.lookup_eq_none_iff.mp q _ hp
    simp at this
theorem clc_defC {G : Gl} {n : Nat} {f : Addr} {fd : FuncData} {body : List Stmt} {ds : List D} {σ : Led} {Φ : D → Led → Prop} (bs : List (Str × D)) (Df : DefOf G f fd body)
    (hclo : fd.closure = []) (hn : (fd.scope.names.map (·.1)).Nodup) (hd : fd.scope.names.all (fun p => !(p.1 == ("__debug__" : Str)) && !(p.1 == ("__classdict__" : Str))) = true)
    (hm : (bs.map (·.1)).Nodup) (hl : (bs.all fun p => fd.scope.names.lookup p.1 == some .local || fd.scope.names.lookup p.1 == some .cell) = true)
    (hb : ∀ Z vs, VRs Z ds vs → ∃ ws : List Value, VRs Z (bs.map (·.2)) ws ∧ ∀ M, Looks M G.h₀ (bindArgs fd ⟨vs, []⟩) ((bs.map (·.1)).zip ws))
    (h : ∀ env L, EnvOK env L fd.scope.names (cellsFrom (L + 1) fd.scope.names []) → env.code = fd.code → XS G n env body ((L, .ns (lnsOf fd.scope.names bs)) :: (cellsOf fd.scope.names L bs ++ σ)) (RetK Φ)) : CLc G (n + 1) (.ref f) ds σ Φ := by
  intro τ A s Z R vs hR hS hv hQ
  obtain ⟨o, ho, hdat⟩ := Df.at_
  obtain ⟨ws, hws, hlook⟩ := hb Z vs hv
  have k0 : G.h₀.StaysIn s.heap := stt hS.base hS.zin
  have hlen : (bs.map (·.1)).length = ws.length := by rw [← hws.length]; simp
  have hkeys : ((bs.map (·.1)).zip ws).map (·.1) = bs.map (·.1) := List.map_fst_zip (by kt_len)
  have hkind : ∀ x ∈ (bs.map (·.1)).zip ws, fd.scope.names.lookup x.1 = some .local ∨ (fd.scope.names.lookup x.1 = some .cell ∧ ((cellsFrom (s.heap.objs.size + 1) fd.scope.names []).lookup x.1).isSome = true) := fun x hx => by
    have hx1 := (List.of_mem_zip (show (x.1, x.2) ∈ _ from hx)).1
    obtain ⟨p, hp, hpe⟩ := List.mem_map.mp hx1
    have := List.all_eq_true.mp hl p hp
    rw [Bool.or_eq_true, beq_iff_eq, beq_iff_eq, hpe] at this
    rcases this with h | h
    · exact .inl h
    · exact .inr ⟨h, cellsFrom_some (lookup_mem h)⟩
  refine (codeAny_call_function (by have := hR.2.1; omega) (k0 _ _ ho) hdat Df.co Df.gen Df.body (Df.code.keeps k0) (((hlook _).keeps k0).here ?_))
  rw [hclo]
  refine tkw (wpAny_newFunctionEnv_cells Df.kind hkind fun env he s' x (htk : s.toks ≤ s'.toks) => ?_)
  obtain ⟨h₁, tk, hs', hk₁⟩ := x.done
  have hL : env.locals = s.heap.objs.size := by rw [he]; rfl
  have hC : env.cells = cellsFrom (s.heap.objs.size + 1) fd.scope.names [] := by rw [he]; rfl
  have hK : ∀ y, env.kindOf y = fd.scope.names.lookup y := fun y => by rw [he]; rfl
  have O : EnvOK env s.heap.objs.size fd.scope.names (cellsFrom (s.heap.objs.size + 1) fd.scope.names []) := {
    loc := hL
    kind := by rw [he]; exact Df.kind
    glo := by rw [he]; exact Df.glo
    bui := by rw [he]; exact Df.bui
    k := fun p hp => by
      have : env.kindOf p.1 = some p.2 := (hK _).trans (lookup_nd hp hn)
      rw [this]
      exact ⟨fun e => by rw [e], fun e => e.imp (fun e => by rw [e]) fun e => by rw [e], fun e => by rw [e]⟩
    kc := fun p hp e => by
      have : env.kindOf p.1 = some p.2 := (hK _).trans (lookup_nd hp hn)
      rw [this, e]
    nd := fun p hp => by
      have := List.all_eq_true.mp hd p hp
      simpa using this
    cs := fun p hp => by rw [hC]; exact lookup_nd hp (cellsFrom_nodup hn) }
  have hz : ((bs.map (·.1)).zip ws).map (·.1) |>.Nodup := by rw [hkeys]; exact hm
  refine ⟨(G.lim.keeps k0).keeps x.toInCall.keep, codeAny_func ?_⟩
  subst hs'
  have ens := x.toInCall.ns
  rw [hL] at ens
  obtain ⟨oN, eN, cN⟩ := ns_cell (Z := Z) ens (m := lnsOf fd.scope.names bs) (by
      unfold lnsOf
      rw [List.map_map]
      exact (List.Sublist.map _ List.filter_sublist).nodup hn) (fun p hp => by
      unfold lnsOf at hp
      obtain ⟨⟨y, k⟩, hq, rfl⟩ := List.mem_map.mp hp
      obtain ⟨h1, h2⟩ := List.mem_filter.mp hq
      have hy : env.kindOf y = some .local := by rw [hK, ← eq_of_beq h2]; exact lookup_nd h1 hn
      dsimp only
      rw [bindL_eq _ hy _ _ hz]
      have := zip_lookup hws y
      cases e : ((bs.map (·.1)).zip ws).lookup y with
      | some v => rw [e] at this; exact this
      | none => rw [e] at this; exact this)
  have S1 := hS.addAll (h' := h₁) hk₁ tk htk ((s.heap.objs.size, .ns (lnsOf fd.scope.names bs)) :: cellsOf fd.scope.names s.heap.objs.size bs) (by
      have ab := x.above
      rw [hL, hC] at ab
      rw [List.map_cons]
      refine List.nodup_cons.mpr ⟨fun hm => ?_, ?_⟩
      · obtain ⟨p, hp, e⟩ := List.mem_map.mp hm
        obtain ⟨⟨y, c⟩, hq, rfl⟩ := List.mem_map.mp hp
        dsimp only at e
        exact absurd (e ▸ ab y c hq) (Nat.lt_irrefl _)
      · unfold cellsOf
        rw [List.map_map]
        exact cellsFrom_apart fd.scope.names _ [] (fun _ h => absurd h List.not_mem_nil) .nil) (fun p hp => by
      have ab := x.above
      rw [hL, hC] at ab
      rcases List.mem_cons.mp hp with rfl | hp
      · exact size_none _
      · obtain ⟨⟨y, c⟩, hq, rfl⟩ := List.mem_map.mp hp
        dsimp only
        cases e : s.heap.get? c with
        | none => rfl
        | some o' => exact absurd (Nat.lt_trans (Heap.lt_size e) (ab y c hq)) (Nat.lt_irrefl _)) (fun p hp => by
      rcases List.mem_cons.mp hp with rfl | hp
      · exact ⟨oN, eN, cN⟩
      · obtain ⟨⟨y, c⟩, hq, rfl⟩ := List.mem_map.mp hp
        have hcell := x.cell y c (by rw [hC]; exact lookup_nd hq (cellsFrom_nodup hn))
        obtain ⟨oc, ec, hdc⟩ := hcell
        have hy : env.kindOf y ≠ some .local := by rw [hK, lookup_nd (cellsFrom_kind hq) hn]; exact fun h => nomatch h
        refine ⟨oc, ec, _, hdc, ?_⟩
        rw [bindC_eq _ hy _ _ hz]
        have := zip_lookup hws y
        cases e : ((bs.map (·.1)).zip ws).lookup y with
        | some v => rw [e] at this; exact this
        | none => rw [e] at this; exact this)
  refine wpAny_mono (h _ _ O (by rw [he]; rfl) τ (A.deeper _) _ Z (fun _ _ => False) (fun fl s' => R (.ok (.ret (match fl with | .ret v => v | _ => .none))) s') (hR.deeper _) (by simpa using S1) fun Z' fl σ' v s' k' S' r' p' => ?_) (fun _ _ x => x) fun _ _ x => x.elim
  obtain ⟨σ'', hsub, hp⟩ := p'
  have S'' := S'.sub (hsub.append_right τ)
  cases r' with
  | next => exact hQ Z' _ _ _ s' k' S'' .none hp
  | brk => exact hQ Z' _ _ _ s' k' S'' .none hp
  | cont => exact hQ Z' _ _ _ s' k' S'' .none hp
  | ret hd => exact hQ Z' _ _ _ s' k' S'' hd hp
end Mine
namespace Mine
section
variable {G : Gl} {n : Nat} {env : Env} {L : Addr} {ks : List (Str × NameKind)} {cs : List (Str × Addr)} {σ : Led} {Φ : D → Led → Prop} {pos : Pos}
theorem m_join : Meth "str" "join" "str.join" := ⟨PySem.F.plainAttrs_str, PySem.F.slot_str_join, PySem.F.type_str_join⟩
theorem ev_smeth {o : Expr} {name : Str} {id : String} {apos : Pos} {args : List Expr} (M : Meth "str" name id)
    (h : EV G n env o σ fun d σ₁ => ∃ x, d = .str x ∧ EVs G n env args σ₁ fun ds σ₂ => CL G n (.builtin id) (.str x :: ds) σ₂ Φ)
    (hbase : attributeBase o name env (eval o env) = eval o env := by rfl) (hl : (apos.endLine == pos.line) = true := by rfl)
    (hfew : ((backTo pos (starEach args env)).all (fun x => !x.1) && (backToKw pos (keywordEach [] env)).all (fun x => x.1.isSome)
      && decide (args.length + ([] : List Keyword).length + (if ([] : List Keyword).isEmpty then 0 else 1) < 30)) = true := by rfl)
    (he : backTo pos (starEach args env) = args.map fun e => (false, eval e env) := by rfl) : EV G n env (.Call (.Attribute o name apos) args [] pos) σ Φ :=
  fun τ A s _ _ _ hR hS hQ => wpAny_Call_method_lateS hbase hfew hl (h τ A s _ _ _ hR hS fun Z1 d σ1 v s1 k1 S1 r1 ⟨x, e, p1⟩ => by
    subst e
    cases r1
    exact ⟨"str", id, M.pa, M.slot, M.ty, typeIs_str _ _ _, (fun b e => nomatch e),
      call_tail1 hR S1 (.str x _) (p1.mono fun _ _ q => ⟨kp_builtin, q⟩) (fun Z2 d2 σ2 v2 s2 k2 => hQ Z2 d2 σ2 v2 s2 (stt k1 k2)) he⟩)
theorem strsAre_of {Z : Heap} {xs : List Str} {vs : List Value} (h : VRs Z (xs.map D.str) vs) : StrsAre vs xs := by
  induction xs generalizing vs with
  | nil => cases h; exact .nil
  | cons x xs ih => cases h; rename_i h t; cases h; exact .cons _ _ (ih t)
theorem cl_join {x : Str} {d : D} {xs : List Str} (hd : SeqIs σ d (xs.map D.str)) (hok : (xs.map (·.length)).sum + xs.length * x.length ≤ 16777216) (h : Φ (.str (Txt.join x xs)) σ) : CL G n (.builtin "str.join") [.str x, d] σ Φ := by
  intro τ A s Z E Q vs hR hS hv hQ
  obtain ⟨v, w, rfl, ha, hb⟩ := vr2 hv
  cases ha
  obtain ⟨p, ws, rfl, h1, r1⟩ := hd.here hS hb
  exact tkw (PyProof.Rows.join_list h1 (strsAre_of r1) hok fun t k => fun (hle : s.toks ≤ k) => hQ Z _ σ _ _ (str Z) (hS.toks _) (.str _ _) h)
end
theorem join_sl : ∀ ls : List (List Nat), Txt.join (Str.ofString "") (ls.map sl) = sl ls.flatten := by
  have hg : ∀ l : List Str, Txt.join (Str.ofString "") l = Str.join (Str.ofString "") l := fun l => eq_of_beq (PyProof.Rows.join_closes rfl)
  have he : ∀ (x : Str), x ++ Str.ofString "" = x := fun x => by
    obtain ⟨a⟩ := x
    show (⟨a ++ (Str.ofString "").cps⟩ : Str) = ⟨a⟩
    rw [show (Str.ofString "").cps = #[] by decide +kernel]; simp
  intro ls
  rw [hg]
  induction ls with
  | nil => show (Str.empty : Str) = _; rfl
  | cons x r ih =>
    cases r with
    | nil => simp [Str.join]
    | cons y r =>
      rw [List.map_cons, List.map_cons, Str.join, he, ← List.map_cons (f := sl), ih, List.flatten_cons]
      · simp only [sl]
        show (⟨_ ++ _⟩ : Str) = _
        simp
      · simp
end Mine
namespace Mine
structure CompOK (env : Env) (scope : Scope) (cs cl : List (Str × Addr)) (target iter : Expr) : Prop where
  hcl : clOf scope cs = cl
  hfree : scope.names.all (fun p => p.2 != .free || (cs.lookup p.1).isSome) = true
  hkind : scope.kind = .function
  hcell : scope.names.all (fun p => p.2 != .cell) = true
  hn : (scope.names.map (·.1)).Nodup
  hd : scope.names.all (fun p => !(p.1 == ("__debug__" : Str)) && !(p.1 == ("__classdict__" : Str))) = true
  hcn : (cl.map (·.1)).Nodup
  hs : ∀ x, foldedSetIterable iter env x = pure x
section
variable {G : Gl} {n : Nat} {env : Env} {L : Addr} {ks : List (Str × NameKind)} {cs : List (Str × Addr)} {σ : Led} {Φ : AF → Led → Prop} {Φd : D → Led → Prop} {pos : Pos}
theorem x_assign_cell {x : Str} {xp : Pos} {value : Expr} (O : EnvOK env L ks cs) (hx : (x, NameKind.cell) ∈ ks) (h : EV G n env value σ fun d σ₁ => AS G n env (.Name x xp) d σ₁ (Φ .next)) 
    (h2 : swappedStores [.Name x xp] value env = pure none) (h3 : (assignEach [.Name x xp] env).map (·.2) = [assign (.Name x xp) env]) : X1 G n env (.Assign [.Name x xp] value pos) σ Φ := by
  refine x_assign h ?_ h2 h3
  have hk : (env.kindOf x == some NameKind.local) = false := by
    rw [O.kc _ hx rfl]; rfl
  unfold swapsWithSole
  dsimp only
  unfold swapsWith
  split
  · dsimp only
    rw [hk]
    simp only [Bool.and_false, Bool.false_and]
  · rfl
theorem ev_cp {elt target iter : Expr} {ifs : List Expr} {scope : Scope} {cl : List (Str × Addr)} (O : EnvOK env L ks cs) (B : CompOK env scope cs cl target iter)
    (h : EV G n env iter σ fun d σ₁ => ∃ xs, IterOf d xs ∧ xs.length ≤ 1000 ∧ ∀ cenv C, EnvOK cenv C scope.names cl →
      CompL G n cenv target ifs elt (fun ds σ₂ => ∃ m σ₃, σ₂ = (C, .ns m) :: σ₃ ∧ Φd (.lst ds) σ₃) xs [] ((C, .ns (compNs scope)) :: σ₁)) (hif : ifs.length ≤ 1 := by decide) :
    EV G n env (.ListComp elt [⟨target, iter, ifs, 0⟩] scope pos) σ Φd := ev_comp O h B.hcl B.hfree B.hkind B.hcell B.hn B.hd B.hcn B.hs hif
theorem x_cp {elt target iter : Expr} {ifs : List Expr} {scope : Scope} {cl : List (Str × Addr)} {t : Str} {tp cp : Pos} (O : EnvOK env L ks cs) (B : CompOK env scope cs cl target iter) (hx : (t, NameKind.local) ∈ ks)
    (h : EV G n env iter σ fun d σ₁ => ∃ xs, IterOf d xs ∧ xs.length ≤ 1000 ∧ ∀ cenv C, EnvOK cenv C scope.names cl →
      CompL G n cenv target ifs elt (fun ds σ₂ => ∃ m σ₃, σ₂ = (C, .ns m) :: σ₃ ∧ AS G n env (.Name t tp) (.lst ds) σ₃ (Φ .next)) xs [] ((C, .ns (compNs scope)) :: σ₁))
    (hl : tp.line = cp.line) (hst : (scope.names.any fun p => p.1 == t && (p.2 == .local || p.2 == .cell)) = false) (hif : ifs.length ≤ 1 := by decide) :
    X1 G n env (.Assign [.Name t tp] (.ListComp elt [⟨target, iter, ifs, 0⟩] scope cp) pos) σ Φ := by
  have mono : ∀ (cenv : Env) (Ψ Ψ' : List D → Led → Prop), (∀ ds σ, Ψ ds σ → Ψ' ds σ) → ∀ (xs acc : List D) (σ : Led), CompL G n cenv target ifs elt Ψ xs acc σ → CompL G n cenv target ifs elt Ψ' xs acc σ := by
    intro cenv Ψ Ψ' hk xs
    induction xs with
    | nil => intro acc σ h; exact hk _ _ h
    | cons x xs ih =>
      intro acc σ h
      refine W1.mono h fun _ σ₁ q => ?_
      have tm : ∀ (l : List Expr) (σ : Led) (A B : Bool → Led → Prop), (∀ b s, A b s → B b s) → TIfs G n cenv l σ A → TIfs G n cenv l σ B := by
        intro l σ A B hab ht
        match l, ht with
        | [], ht => exact hab _ _ ht
        | [c], ht => exact W.mono ht hab
        | _ :: _ :: _, ht => exact ht.elim
      exact tm _ _ _ _ (fun b s r => ⟨fun e => (r.1 e).mono fun d s' r' => ih _ _ r', fun e => ih _ _ (r.2 e)⟩) q
  exact x_compO O (h.mono fun d σ₁ ⟨xs, hi, hl, q⟩ => ⟨xs, hi, hl, fun cenv C O' => mono cenv _ _ (fun ds σ ⟨m, σ₃, e, f⟩ => ⟨m, σ₃, e, fun a => as_freeze f⟩) _ _ _ (q cenv C O')⟩) hx hl hst B.hcl B.hfree B.hkind B.hcell B.hn B.hd B.hcn B.hs hif
theorem compL_go {α : Type} {t elt : Expr} {Ψ : List D → Led → Prop} (g f : α → D) (P : List α → Led → Prop) (all : List α) (acc₀ : List D)
    (turn : ∀ x xs σ, x ∈ all → P (x :: xs) σ → AS G n env t (g x) σ fun σ₁ => EV G n env elt σ₁ fun d σ₂ => d = f x ∧ P xs σ₂) (fin : ∀ σ, P [] σ → Ψ (acc₀ ++ all.map f) σ) :
    ∀ (xs : List α) (ys : List α) (σ : Led), ys ++ xs = all → P xs σ → CompL G n env t [] elt Ψ (xs.map g) (acc₀ ++ ys.map f) σ
  | [], ys, σ, e, h => by
    rw [List.append_nil] at e; subst e; exact fin σ h
  | x :: xs, ys, σ, e, h => (turn x xs σ (by rw [← e]; simp) h).mono fun _ σ₁ q => ⟨fun _ => q.mono fun d σ₂ r => by
      have := compL_go g f P all acc₀ turn fin xs (ys ++ [x]) σ₂ (by rw [← e]; simp) r.2
      rw [r.1]; simpa using this, (by kt_eqs)⟩
theorem compL_map {α : Type} {t elt : Expr} {Ψ : List D → Led → Prop} (xs : List α) (g f : α → D) (P : Led → Prop)
    (turn : ∀ x ∈ xs, ∀ σ, P σ → AS G n env t (g x) σ fun σ₁ => EV G n env elt σ₁ fun d σ₂ => d = f x ∧ P σ₂) (fin : ∀ σ, P σ → Ψ (xs.map f) σ) (h : P σ) : CompL G n env t [] elt Ψ (xs.map g) [] σ := by
  have := compL_go g f (fun _ => P) xs [] (fun x _ σ hx hp => turn x hx σ hp) (fun σ h => by simpa using fin σ h) xs [] σ rfl h
  simpa using this
theorem compL_upto {t elt : Expr} {Ψ : List D → Led → Prop} (k : Nat) (g f : Nat → D) (P : Nat → Led → Prop)
    (turn : ∀ i σ, i < k → P i σ → AS G n env t (g i) σ fun σ₁ => EV G n env elt σ₁ fun d σ₂ => d = f i ∧ P (i + 1) σ₂) (fin : ∀ σ, P k σ → Ψ ((List.range k).map f) σ) (h : P 0 σ) : CompL G n env t [] elt Ψ ((List.range k).map g) [] σ := by
  have := compL_go g f (fun xs σ => ∃ i, i ≤ k ∧ xs = (List.range k).drop i ∧ P i σ) (List.range k) [] (Ψ := Ψ) (t := t) (elt := elt) (G := G) (n := n) (env := env) (fun x xs σ hx ⟨i, hi, e, p⟩ => ?_) (fun σ ⟨i, hi, e, p⟩ => ?_) (List.range k) [] σ rfl ⟨0, Nat.zero_le _, rfl, h⟩
  · simpa using this
  · have hlt : i < k := by have := congrArg List.length e; simp at this; omega
    rw [List.drop_eq_getElem_cons (by simpa using hlt)] at e
    simp only [List.getElem_range] at e
    obtain ⟨rfl, rfl⟩ := List.cons.inj e
    exact (turn x σ hlt p).mono fun _ σ₁ q => q.mono fun d σ₂ r => ⟨r.1, x + 1, hlt, rfl, r.2⟩
  · have := congrArg List.length e
    simp at this
    have : i = k := by kt_len
    subst this
    simpa using fin σ p
theorem compL_if_go {α : Type} {t elt c : Expr} {Ψ : List D → Led → Prop} (g f : α → D) (q : α → Bool) (P : Led → Prop) (all : List α) 
    (turn : ∀ x ∈ all, ∀ σ, P σ → AS G n env t (g x) σ fun σ₁ => TE G n env c σ₁ fun b σ₂ => b = q x ∧ (q x = true → EV G n env elt σ₂ fun d σ₃ => d = f x ∧ P σ₃) ∧ (q x = false → P σ₂)) (fin : ∀ σ, P σ → Ψ ((all.filter q).map f) σ) :
    ∀ (xs : List α) (ys : List α) (σ : Led), ys ++ xs = all → P σ → CompL G n env t [c] elt Ψ (xs.map g) ((ys.filter q).map f) σ
  | [], ys, σ, e, h => by
    rw [List.append_nil] at e; subst e; exact fin σ h
  | x :: xs, ys, σ, e, h => (turn x (by rw [← e]; simp) σ h).mono fun _ σ₁ r => W.mono r fun b σ₂ ⟨e1, r1, r2⟩ => ⟨fun hb => (r1 (e1 ▸ hb)).mono fun d σ₃ ⟨e2, p⟩ => by
      have hq : q x = true := e1 ▸ hb
      have := compL_if_go g f q P all turn fin xs (ys ++ [x]) σ₃ (by rw [← e]; simp) p
      rw [e2]; simpa [hq] using this, fun hb => by
      have hq : q x = false := e1 ▸ hb
      have := compL_if_go g f q P all turn fin xs (ys ++ [x]) σ₂ (by rw [← e]; simp) (r2 hq)
      simpa [hq] using this⟩
theorem compL_if {α : Type} {t elt c : Expr} {Ψ : List D → Led → Prop} (xs : List α) (g f : α → D) (q : α → Bool) (P : Led → Prop) 
    (turn : ∀ x ∈ xs, ∀ σ, P σ → AS G n env t (g x) σ fun σ₁ => TE G n env c σ₁ fun b σ₂ => b = q x ∧ (q x = true → EV G n env elt σ₂ fun d σ₃ => d = f x ∧ P σ₃) ∧ (q x = false → P σ₂)) (fin : ∀ σ, P σ → Ψ ((xs.filter q).map f) σ) (h : P σ) :
    CompL G n env t [c] elt Ψ (xs.map g) [] σ := by
  have := compL_if_go g f q P xs turn fin xs [] σ rfl h
  simpa using this
end
end Mine
namespace Mine
def isLet (c : Nat) : Bool := (65 ≤ c && c ≤ 72) || (97 ≤ c && c ≤ 104)
def lowN (c : Nat) : Nat := if c ≤ 90 then c + 32 else c
def cN (c d : Nat) : Int := if c = d then 0 else if lowN c = lowN d then 1 else 2
theorem lo_all : ∀ c, c < 128 → isLet c = true → lo1 c = lowN c := by decide +kernel
theorem lower_let {c : Nat} (h : isLet c = true) : Txt.lower (sl [c]) = sl [lowN c] := by
  have hc : c < 128 := by unfold isLet at h; simp at h; omega
  rw [lower_ascii (by simpa [sl] using hc)]
  simp only [sl, List.map_toArray, List.map_cons, List.map_nil, lo_all c hc h]
theorem fit1 (c : Nat) : Builtin.Str.tooLong (Txt.lower (sl [c])).length = false := fit_lower (by simp [sl_len])
def cpl : List Nat → List Nat → Nat
  | x :: xs, y :: ys => if x = y then cpl xs ys + 1 else 0
  | _, _ => 0
theorem cpl_le : ∀ (a b : List Nat), cpl a b ≤ a.length ∧ cpl a b ≤ b.length
  | x :: xs, y :: ys => by
    rw [cpl]; have := cpl_le xs ys
    split <;> simp <;> omega
  | [], _ => by simp [cpl]
  | _ :: _, [] => by simp [cpl]
theorem cpl_step {a b : List Nat} {p : Nat} (ha : p < a.length) (hb : p < b.length) : cpl (a.drop p) (b.drop p) = if a.getD p 0 = b.getD p 0 then cpl (a.drop (p + 1)) (b.drop (p + 1)) + 1 else 0 := by
  rw [List.drop_eq_getElem_cons ha, List.drop_eq_getElem_cons hb, cpl]
  simp [ha, hb]
theorem cpl_end {a b : List Nat} {p : Nat} (h : a.length ≤ p ∨ b.length ≤ p) : cpl (a.drop p) (b.drop p) = 0 := by
  rcases h with h | h
  · rw [List.drop_eq_nil_of_le h]; simp [cpl]
  · rw [List.drop_eq_nil_of_le h]; cases a.drop p <;> simp [cpl]
def csl (a b : List Nat) : Nat → Nat → Nat
  | 0, p => p
  | f + 1, p => if p < a.length ∧ p < b.length ∧ a.getD (a.length - (p + 1)) 0 = b.getD (b.length - (p + 1)) 0 then csl a b f (p + 1) else p
structure LS where
  row : List Int
  dist : Int
  res : Int
  mn : Int
def mn2 (a b : Int) : Int := if b < a then b else a
def stI (a : List Nat) (bc : Nat) (S : LS) (i : Nat) : LS :=
  let sub := S.dist + cN bc (a.getD i 0)
  let dist := S.row.getD i 0
  let ins := mn2 S.res dist + 2
  let res := mn2 ins sub
  ⟨S.row.set i res, dist, res, if res < S.mn then res else S.mn⟩
def rowI (a : List Nat) (bc : Nat) (row : List Int) (k : Nat) (m : Nat) : LS := (List.range m).foldl (stI a bc) ⟨row, (k : Int) * 2, (k : Int) * 2, 9223372036854775807⟩
theorem rowI_succ (a : List Nat) (bc : Nat) (row : List Int) (k m : Nat) : rowI a bc row k (m + 1) = stI a bc (rowI a bc row k m) m := by
  unfold rowI; rw [List.range_succ, List.foldl_append]; rfl
theorem rowI_len (a : List Nat) (bc : Nat) (row : List Int) (k : Nat) : ∀ m, (rowI a bc row k m).row.length = row.length
  | 0 => rfl
  | m + 1 => by rw [rowI_succ]; simp [stI, rowI_len a bc row k m]
def outer (a : List Nat) (mx : Int) : List Nat → Nat → List Int → Int → Int
  | [], _, _, res => res
  | c :: bs, k, row, _ => let S := rowI a c row k a.length; if S.mn > mx then mx + 1 else outer a mx bs (k + 1) S.row S.res
def core (a b : List Nat) (mx : Int) : Int :=
  if ((b.length : Int) - a.length) * 2 > mx then mx + 1 else outer a mx b 0 ((List.range a.length).map fun (i : Nat) => (2 : Int) + i * 2) 0
def lev (a b : List Nat) (mx : Int) : Int :=
  if a = b then 0 else
    let p := cpl a b
    let a := a.drop p
    let b := b.drop p
    let q := csl a b (a.length + 1) 0
    let a' := a.take (a.length - q)
    let b' := b.take (b.length - q)
    if a' = [] ∨ b' = [] then 2 * ((a'.length : Int) + b'.length) else if b'.length < a'.length then core b' a' mx else core a' b' mx
end Mine
namespace Mine
set_option maxHeartbeats 0
abbrev F6 : UInt64 := 4618441417868443648
abbrev F1 : UInt64 := 4607182418800017408
abbrev F2 : UInt64 := 4611686018427387904
abbrev F4 : UInt64 := 4616189618054758400
abbrev F3 := UInt64 × UInt64 × UInt64
def hsvC (h s v : UInt64) (i : Int) : F3 :=
  let f := Float64.sub (Float64.mul h F6) (Float64.ofInt i)
  let p := Float64.mul v (Float64.sub F1 s)
  let q := Float64.mul v (Float64.sub F1 (Float64.mul s f))
  let t := Float64.mul v (Float64.sub F1 (Float64.mul s (Float64.sub F1 f)))
  let j := i.fmod 6
  if j = 0 then (v, t, p) else if j = 1 then (q, v, p) else if j = 2 then (p, v, t) else if j = 3 then (p, q, v) else if j = 4 then (t, p, v) else (v, p, q)
def hsvF (h s v : UInt64) (i : Int) : F3 := if (Float64.cmp s 0 == some .eq) = true then (v, v, v) else hsvC h s v i
def rgbF (r g b : UInt64) : F3 :=
  let maxc := fmx (fmx r g) b
  let minc := fmn (fmn r g) b
  let rangec := Float64.sub maxc minc
  if (Float64.cmp minc maxc == some .eq) = true then (0, 0, maxc) else
    let s := Float64.div rangec maxc
    let rc := Float64.div (Float64.sub maxc r) rangec
    let gc := Float64.div (Float64.sub maxc g) rangec
    let bc := Float64.div (Float64.sub maxc b) rangec
    let h := if (Float64.cmp r maxc == some .eq) = true then Float64.sub bc gc else if (Float64.cmp g maxc == some .eq) = true then Float64.sub (Float64.add F2 rc) bc else Float64.sub (Float64.add F4 gc) rc
    ((Float64.divmod (Float64.div h F6) F1).snd, s, maxc)
def rgbOk (r g b : UInt64) : Bool := !Float64.isZero (fmx (fmx r g) b) && !Float64.isZero (Float64.sub (fmx (fmx r g) b) (fmn (fmn r g) b))
def d3 (x : F3) : D := .tup [.float x.1, .float x.2.1, .float x.2.2]
def fracF (a b : Nat) : UInt64 := Float64.ofFrac false a b
def force {β : Type} (n : Nat) (f : Nat → β) : β := Nat.rec (motive := fun _ => β) (f 0) (fun m _ => f (m + 1)) n
theorem force_eq {β : Type} (n : Nat) (f : Nat → β) : force n f = f n := by cases n <;> rfl
def fu {β : Type} (x : UInt64) (f : UInt64 → β) : β := force x.toNat fun n => f (UInt64.ofNat n)
theorem fu_eq {β : Type} (x : UInt64) (f : UInt64 → β) : fu x f = f x := by rw [fu, force_eq]; simp
def hsvC' {β : Type} (h6 s v : UInt64) (i : Int) (k : UInt64 → UInt64 → UInt64 → β) : β :=
  fu (Float64.sub h6 (Float64.ofInt i)) fun f =>
  fu (Float64.mul v (Float64.sub F1 s)) fun p =>
  let j := i.fmod 6
  if j = 0 then fu (Float64.mul v (Float64.sub F1 (Float64.mul s (Float64.sub F1 f)))) fun t => k v t p
  else if j = 1 then fu (Float64.mul v (Float64.sub F1 (Float64.mul s f))) fun q => k q v p
  else if j = 2 then fu (Float64.mul v (Float64.sub F1 (Float64.mul s (Float64.sub F1 f)))) fun t => k p v t
  else if j = 3 then fu (Float64.mul v (Float64.sub F1 (Float64.mul s f))) fun q => k p q v
  else if j = 4 then fu (Float64.mul v (Float64.sub F1 (Float64.mul s (Float64.sub F1 f)))) fun t => k t p v
  else fu (Float64.mul v (Float64.sub F1 (Float64.mul s f))) fun q => k v p q
def rgbP (r g b : UInt64) (k : UInt64 → UInt64 → UInt64 → Bool) : Bool :=
  fu (fmx (fmx r g) b) fun maxc => fu (fmn (fmn r g) b) fun minc => fu (Float64.sub maxc minc) fun rangec =>
  if (Float64.cmp minc maxc == some .eq) = true then false else
    (!Float64.isZero maxc && !Float64.isZero rangec) &&
    fu (Float64.div rangec maxc) fun s =>
    fu (Float64.div (Float64.sub maxc r) rangec) fun rc =>
    fu (Float64.div (Float64.sub maxc g) rangec) fun gc =>
    fu (Float64.div (Float64.sub maxc b) rangec) fun bc =>
    fu (if (Float64.cmp r maxc == some .eq) = true then Float64.sub bc gc else if (Float64.cmp g maxc == some .eq) = true then Float64.sub (Float64.add F2 rc) bc else Float64.sub (Float64.add F4 gc) rc) fun h =>
    fu (Float64.div h F6) fun h =>
    k ((Float64.divmod h F1).snd) s maxc
def rt2 (e a b : Nat) : Bool :=
  fu (fracF e 8) fun h => fu (Float64.mul h F6) fun h6 => fu (fracF (a + 1) 4) fun s => fu (fracF (b + 1) 4) fun v =>
  match iof h6 with
  | some i => decide (i.natAbs < 1000) && !(Float64.cmp s 0 == some .eq) && hsvC' h6 s v i fun r g b => rgbP r g b fun h' s' v' => h' == fracF (e % 8) 8 && s' == s && v' == v
  | none => false
theorem hsvC'_eq {β : Type} (h s v : UInt64) (i : Int) (k : UInt64 → UInt64 → UInt64 → β) : hsvC' (Float64.mul h F6) s v i k = k (hsvC h s v i).1 (hsvC h s v i).2.1 (hsvC h s v i).2.2 := by
  unfold hsvC' hsvC
  simp only [fu_eq]
  repeat' split
  all_goals first | rfl | contradiction
theorem rgbP_eq {r g b : UInt64} {k : UInt64 → UInt64 → UInt64 → Bool} (h : rgbP r g b k = true) : rgbOk r g b = true ∧ k (rgbF r g b).1 (rgbF r g b).2.1 (rgbF r g b).2.2 = true := by
  unfold rgbP at h
  simp only [fu_eq] at h
  unfold rgbOk rgbF
  dsimp only
  split at h
  · cases h
  · rename_i q
    rw [Bool.and_eq_true] at h
    refine ⟨h.1, ?_⟩
    rw [if_neg q]
    exact h.2
end Mine
set_option maxHeartbeats 0
namespace Mine
def hF (t e : Nat) : UInt64 := Float64.add (Float64.ofInt t) (fracF e 16)
def rt3 (t e a b : Nat) : Bool :=
  fu (fracF e 16) fun h0 => fu (Float64.add (Float64.ofInt t) h0) fun h => fu (Float64.mul h F6) fun h6 => fu (fracF (a + 1) 4) fun s => fu (fracF (b + 1) 4) fun v =>
  match iof h6 with
  | some i => decide (i.natAbs < 1000) && !(Float64.cmp s 0 == some .eq) && hsvC' h6 s v i fun r g b => rgbP r g b fun h' s' v' => h' == h0 && s' == s && v' == v
  | none => false
theorem rt3_all : ∀ t, t < 2 → ∀ e, e < 9 → ∀ a, a < 4 → ∀ b, b < 4 → rt3 t e a b = true := by
  have h : (List.range 2).all (fun t => (List.range 9).all fun e => (List.range 4).all fun a => (List.range 4).all fun b => rt3 t e a b) = true := by decide +kernel
  intro t ht e he a ha b hb
  simp only [List.all_eq_true, List.mem_range] at h
  exact h t ht e he a ha b hb
theorem rt3_of {t e a b : Nat} (ht : t < 2) (he : e < 9) (ha : a < 4) (hb : b < 4) : ∃ i, iof (Float64.mul (hF t e) F6) = some i ∧ i.natAbs < 1000 ∧
    ∃ x y z, hsvF (hF t e) (fracF (a + 1) 4) (fracF (b + 1) 4) i = (x, y, z) ∧ rgbOk x y z = true ∧ rgbF x y z = (fracF e 16, fracF (a + 1) 4, fracF (b + 1) 4) := by
  have h := rt3_all t ht e he a ha b hb
  unfold rt3 at h
  simp only [fu_eq] at h
  unfold hF
  cases hi : iof (Float64.mul (Float64.add (Float64.ofInt t) (fracF e 16)) F6) with
  | none => rw [hi] at h; cases h
  | some i =>
    rw [hi] at h
    dsimp only at h
    rw [Bool.and_eq_true, Bool.and_eq_true, decide_eq_true_eq] at h
    obtain ⟨⟨h1, h2⟩, h3⟩ := h
    rw [hsvC'_eq] at h3
    obtain ⟨ok, h4⟩ := rgbP_eq h3
    refine ⟨i, rfl, h1, _, _, _, ?_, ok, ?_⟩
    · rw [hsvF, if_neg (by simpa using h2)]
    · simp only [Bool.and_eq_true, beq_iff_eq] at h4
      exact Prod.ext h4.1.1 (Prod.ext h4.1.2 h4.2)
end Mine
namespace Mine
theorem sl_app (a b : List Nat) : (sl a ++ sl b : Str) = sl (a ++ b) := by
  show (⟨(sl a).cps ++ (sl b).cps⟩ : Str) = _
  simp [sl]
theorem fdivN (a b : Nat) : (a : Int).fdiv b = ((a / b : Nat) : Int) := by
  rw [Int.fdiv_eq_ediv_of_nonneg _ (by kt_len)]; rfl
theorem fmodN (a b : Nat) : (a : Int).fmod b = ((a % b : Nat) : Int) := by
  rw [Int.fmod_eq_emod_of_nonneg _ (by kt_len)]; rfl
theorem frac_inf : ∀ a, a < 160 → (!Float64.isInf (fracF a 4) && !Float64.isInf (fracF a 8) && !Float64.isInf (fracF a 16)) = true := by decide +kernel
section
variable {G : Gl} {n : Nat} {σ : Led} {Φ : D → Led → Prop}
theorem bo_divN {i j : Int} (a b : Nat) (hi : i = a) (hj : j = b) (ha : a < 160) (hb : b = 4 ∨ b = 8 ∨ b = 16) (h : Φ (.float (fracF a b)) σ) : BO G n .Div (.int i) (.int j) σ Φ := by
  subst hi; subst hj
  have hf := frac_inf a ha
  have e : Float64.ofFrac (decide ((a : Int) < 0) != decide ((b : Int) < 0)) (a : Int).natAbs (b : Int).natAbs = fracF a b := by
    rw [decide_eq_false (show ¬ (a : Int) < 0 by kt_len), decide_eq_false (show ¬ (b : Int) < 0 by kt_len)]; rfl
  refine bo_div (by rcases hb with rfl | rfl | rfl <;> decide) ?_ (by rw [e]; exact h)
  rw [e]
  simp only [Bool.and_eq_true, Bool.not_eq_true'] at hf
  rcases hb with rfl | rfl | rfl
  · rw [hf.1.1]; decide
  · rw [hf.1.2]; decide
  · rw [hf.2]; decide
theorem bo_fdivN {i j : Int} (a b : Nat) (hi : i = a) (hj : j = b) (hb : 0 < b ∧ b < 1000000) (h : Φ (.int (a / b : Nat)) σ) : BO G n .FloorDiv (.int i) (.int j) σ Φ := by
  subst hi; subst hj
  exact bo_fdiv (by kt_len) (PyProof.noPylong_small (by kt_len)) (by rw [fdivN]; exact h)
theorem bo_modN {i j : Int} (a b : Nat) (hi : i = a) (hj : j = b) (hb : 0 < b) (h : Φ (.int (a % b : Nat)) σ) : BO G n .Mod (.int i) (.int j) σ Φ := by
  subst hi; subst hj
  exact bo_mod (by kt_len) (by rw [fmodN]; exact h)
theorem bo_sl {a b : List Nat} (hl : a.length + b.length ≤ 5000) (h : Φ (.str (sl (a ++ b))) σ) : BO G n .Add (.str (sl a)) (.str (sl b)) σ Φ :=
  bo_adds (by rw [sl_len, sl_len, sizeLine_eq]; omega) (by rw [sl_app]; exact h)
theorem io_sl {a b : List Nat} (hl : a.length + b.length ≤ 5000) (h : Φ (.str (sl (a ++ b))) σ) : IO G n .Add (.str (sl a)) (.str (sl b)) σ Φ :=
  io_adds (by rw [sl_len, sl_len, sizeLine_eq]; omega) (by rw [sl_app]; exact h)
end
theorem frac_self : ∀ a, a < 160 → ((Float64.cmp (fracF a 4) (fracF a 4) == some .eq) && (Float64.cmp (fracF a 8) (fracF a 8) == some .eq) && (Float64.cmp (fracF a 16) (fracF a 16) == some .eq)) = true := by decide +kernel
theorem plain_frac {a b k : Nat} (ha : a < 160) (hb : b = 4 ∨ b = 8 ∨ b = 16) : Plain k (.float (fracF a b)) := by
  have h := frac_self a ha
  simp only [Bool.and_eq_true] at h
  refine .float k _ ?_
  rcases hb with rfl | rfl | rfl
  · exact h.1.1
  · exact h.1.2
  · exact h.2
end Mine
namespace Mine
structure PlainCls (K : Frag) (C : Addr) : Prop where
  pg : plainGet K C "" = true
  hd : hasDictIn K C = true
  po : plainOver K C = true
  sa : findIn K (.ref C) "__setattr__" = some (some (.builtin "object.__setattr__"))
theorem lookIn_ns {o : Obj} {es : Array DictEntry} {ep : Nat} (hd : o.data = .dict es ep) (hk : StrKeys es) (name : Str) : lookIn name o = some (nsFind es name) := by
  unfold lookIn
  rw [hd]
  dsimp only
  unfold nsFind findBy
  rw [← Array.find?_toList]
  cases e : es.toList.find? fun e => e.key.isStr name with
  | some e => rfl
  | none =>
    dsimp only
    have hany : es.toList.any (·.refKey) = false := by
      rw [List.any_eq_false]; intro e he; obtain ⟨n, t, h⟩ := hk e (Array.mem_toList_iff.mp he); simp [DictEntry.refKey, h]
    rw [hany]; rfl
section
variable {G : Gl} {n : Nat} {env : Env} {L : Addr} {ks : List (Str × NameKind)} {cs : List (Str × Addr)} {σ : Led} {Φ : D → Led → Prop} {pos : Pos} {x dx C : Addr} {m : List (Str × Option D)} {k : Nat} {name : Str}
theorem inst_at {Z : Heap} {s : Shared} {τ : Led} (S : St G Z (σ ++ τ) s) (h1 : (x, Cell.raw (instObj C dx)) ∈ σ) (h2 : (dx, Cell.dct m k) ∈ σ) :
    ∃ o es ep, InstAt s.heap x (instObj C dx) C (some o) ∧ s.heap.get? dx = some o ∧ o.data = .dict es ep ∧ es.size ≤ k ∧ StrKeys es ∧ (m.map (·.1)).Nodup ∧ ∀ p ∈ m, OR Z p.2 (nsFind es p.1) := by
  obtain ⟨o1, e1, r1⟩ := S.cells _ (List.mem_append_left τ h1)
  obtain ⟨o2, e2, es, ep, r2⟩ := S.cells _ (List.mem_append_left τ h2)
  have r1' : o1 = instObj C dx := r1
  subst r1'
  exact ⟨o2, es, ep, ⟨e1, rfl, rfl, e2⟩, e2, r2⟩
def handD : D → Bool | .val _ => false | _ => true
theorem handed_of {Z : Heap} {d : D} {v : Value} (h : VR Z d v) (e : handD d = true) : handedIn v = true := by cases h <;> first | rfl | cases e
abbrev GA (G : Gl) (n : Nat) (name : Str) (d : D) := W1 G n VR (fun v => getAttr v name true) d
theorem ev_attr {value : Expr} {attr : Str} (h : EV G n env value σ fun d σ₁ => GA G n attr d σ₁ Φ)
    (he : eval (.Attribute value attr pos) env = (do
      let o ← eval value env
      standAt pos.atName
      let r ← holding [o] (getAttr o attr true)
      letTemporaryGo value o r
      pure r) := by with_unfolding_all rfl) (hl : ∀ o r, letTemporaryGo value o r = pure () := by intro _ _; rfl) : EV G n env (.Attribute value attr pos) σ Φ := by
  intro τ A s Z E Q hR hS hQ
  rw [he]
  refine wpAny_bind (h τ A s Z E _ hR hS fun Z1 d σ1 v s1 k1 S1 r1 p1 => wpAny_bind (wpAny_standAt (wpAny_bind (wpAny_holding ?_))))
  refine p1 τ A s1 Z1 E _ v hR S1 r1 fun Z2 d2 σ2 v2 s2 k2 S2 r2 p2 => ?_
  rw [hl]
  exact wpAny_bind (wpAny_pure (wpAny_pure (hQ Z2 d2 σ2 v2 s2 (stt k1 k2) S2 r2 p2)))
theorem kin_now {Z : Heap} {s : Shared} (S : St G Z σ s) : G.K.In s.heap := G.kin.keeps (stt S.base S.zin)
theorem own_val {expr : Bool} {A : Around} {s : Shared} {Z : Heap} {τ : Led} {E : Value → Shared → Prop} {Q : Value → Shared → Prop} {d : D} (S : St G Z (σ ++ τ) s) (P : PlainCls G.K C) (ha : findIn G.K (.ref C) name = some none) (h1 : (x, Cell.raw (instObj C dx)) ∈ σ) (h2 : (dx, Cell.dct m k) ∈ σ) (h3 : (name, some d) ∈ m) (hh : handD d = true)
    (hQ : ∀ v, VR Z d v → Q v { s with toks := s.toks + 1 }) : wpAny (model G.prog G.w) A (getAttr (.ref x) name expr) Q E s := by
  obtain ⟨o, es, ep, I, _, hd, _, hk, _, hf⟩ := inst_at S h1 h2
  have hv := hf _ h3
  dsimp only at hv
  cases e : nsFind es name with
  | none => rw [e] at hv; cases hv
  | some v =>
    rw [e] at hv
    cases hv with
    | some hv => exact get_value (kin_now S) I (plainGet_of P.pg).1 (findObj_own P.hd ha rfl ((lookIn_ns hd hk name).trans (by rw [e]))) (handed_of hv hh) (hQ v hv)
theorem ga_own {d : D} (P : PlainCls G.K C) (ha : findIn G.K (.ref C) name = some none) (h1 : (x, Cell.raw (instObj C dx)) ∈ σ) (h2 : (dx, Cell.dct m k) ∈ σ) (h3 : (name, some d) ∈ m) (hh : handD d = true) (h : Φ d σ) : GA G n name (.obj x) σ Φ := by
  intro τ A s Z E Q v hR hS hv hQ
  cases hv
  exact own_val hS P ha h1 h2 h3 hh fun v hv => hQ Z d σ v _ (str Z) (hS.toks _) hv h
theorem ga_bound {f : Addr} (P : PlainCls G.K C) (ha : findIn G.K (.ref C) name = some (some (.ref f))) (hf : isFn G.K (.ref f) = true) (hgf : specialIn G.K (.ref f) "__get__" = some (some (.builtin "function.__get__"))) (ht : takesIn G.K (.ref f) = some false)
    (hc : copiedNames.contains name = false) (h1 : (x, Cell.raw (instObj C dx)) ∈ σ) (h2 : (dx, Cell.dct m k) ∈ σ) (h3 : (name, none) ∈ m) (h : ∀ q, Φ (.obj q) ((q, .raw (methodObj (.ref f) (.ref x))) :: σ)) : GA G n name (.obj x) σ Φ := by
  intro τ A s Z E Q v hR hS hv hQ
  cases hv
  obtain ⟨o, es, ep, I, _, hd, _, hk, _, hfn⟩ := inst_at hS h1 h2
  have hv := hfn _ h3
  dsimp only at hv
  have e : nsFind es name = none := by cases e : nsFind es name with
    | none => rfl
    | some v => rw [e] at hv; cases hv
  refine get_bind (kin_now hS) I (plainGet_of P.pg).1 (findObj_fn P.hd ha hgf ht hc ((lookIn_ns hd hk name).trans (by rw [e]))) (plainGet_of P.pg).2 (wpAny_call (fn_get (s := { s with toks := s.toks + 1 }) (show G.K.In s.heap from kin_now hS) (beq_iff_eq.mp hf) (handed_on rfl ?_)))
  exact hQ Z _ ((s.heap.objs.size, .raw (methodObj (.ref f) (.ref x))) :: σ) _ _ (str Z) (hS.add (h' := s.heap.push _) (fun _ _ e => Heap.get?_push_of_some _ e) (s.toks + 1) (size_none _) (Heap.get?_push_size _ rfl) rfl (Nat.le_succ _)) (.obj _) (h _)
theorem call_meth {o : Expr} {apos : Pos} {args : List Expr} {A : Around} {s : Shared} {E : Value → Shared → Prop} {Q : Value → Shared → Prop}
    (hbase : attributeBase o name env (eval o env) = eval o env) (hl : (apos.endLine == pos.line) = true)
    (h : wpAny (model G.prog G.w) A (eval o env) (fun ov s₁ => ∀ pl, wpAny (model G.prog G.w) A (getMethod ov name pl) (fun q s₂ => wpAny (model G.prog G.w) A (callWith pos q.1 q.2 (backTo pos (starEach args env)) []) Q E s₂) E s₁) E s)
    (hfew : methodCallForm (args.length + ([] : List Keyword).length) (backTo pos (starEach args env)) (backToKw pos (keywordEach [] env)) = true) :
    wpAny (model G.prog G.w) A (eval (.Call (.Attribute o name apos) args [] pos) env) Q E s := by
  rw [arm_eval_Call, hbase]
  refine wpAny_bind (wpAny_mono h (fun ov s₁ h₁ => ?_) fun _ _ e => e)
  refine wpAny_bind (wpAny_standAt ?_)
  unfold methodCall
  rw [hfew]
  have hpos : methodCallPos true o env apos pos = pure pos := by unfold methodCallPos; simp [hl]
  unfold calleeOf
  refine wpAny_bind (wpAny_holding ?_)
  rw [if_pos rfl]
  refine wpAny_mono (h₁ _) (fun q s' hq => ?_) fun _ _ e => e
  obtain ⟨f, first⟩ := q
  exact wpAny_bind (wpAny_of_eq hpos hq)
theorem ev_imeth {o : Expr} {apos : Pos} {args : List Expr} {f : Addr} (P : PlainCls G.K C) (hf : findIn G.K (.ref C) name = some (some (.ref f))) (ht : typeIn G.K (.ref f) = some (.type "function")) (hkp : keepIn G.K (.ref f) = true)
    (h : EV G n env o σ fun d σ₁ => ∃ x dx m k, d = .obj x ∧ (x, Cell.raw (instObj C dx)) ∈ σ₁ ∧ (dx, Cell.dct m k) ∈ σ₁ ∧ (name, none) ∈ m ∧ EVs G n env args σ₁ fun ds σ₂ => CL G n (.ref f) (.obj x :: ds) σ₂ Φ)
    (hbase : attributeBase o name env (eval o env) = eval o env) (hl : (apos.endLine == pos.line) = true)
    (hfew : methodCallForm (args.length + ([] : List Keyword).length) (backTo pos (starEach args env)) (backToKw pos (keywordEach [] env)) = true)
    (he : backTo pos (starEach args env) = args.map fun e => (false, eval e env)) : EV G n env (.Call (.Attribute o name apos) args [] pos) σ Φ :=
  fun τ A s Z E Q hR hS hQ => call_meth hbase hl (h τ A s _ _ _ hR hS fun Z1 d σ1 v s1 k1 S1 r1 ⟨x, dx, m, k, e, h1, h2, h3, p1⟩ pl => by
    subst e
    cases r1
    obtain ⟨o', es, ep, I, _, hd, _, hk, _, hfn⟩ := inst_at S1 h1 h2
    have hv := hfn _ h3
    dsimp only at hv
    have e : nsFind es name = none := by cases e : nsFind es name with
      | none => rfl
      | some v => rw [e] at hv; cases hv
    refine method_fn (kin_now S1) I (plainGet_of P.pg).1 (plainGet_of P.pg).2 hf ht (by show (lookIn name o').map _ = _; rw [lookIn_ns hd hk, e]; rfl) ?_
    exact call_tail1 hR S1 (.obj x) (p1.mono fun _ _ q => ⟨kp_K hkp, q⟩) (fun Z2 d2 σ2 v2 s2 k2 => hQ Z2 d2 σ2 v2 s2 (stt k1 k2)) he) hfew
theorem ev_fmeth {o : Expr} {apos : Pos} {args : List Expr} (P : PlainCls G.K C) (hf : findIn G.K (.ref C) name = some none)
    (h : EV G n env o σ fun d σ₁ => ∃ x dx m k f fo, d = .obj x ∧ (x, Cell.raw (instObj C dx)) ∈ σ₁ ∧ (dx, Cell.dct m k) ∈ σ₁ ∧ (name, some (.obj f)) ∈ m ∧ EVs G n env args σ₁ fun ds σ₂ => (f, Cell.raw fo) ∈ σ₂ ∧ (∃ fd, fo.data = .func fd) ∧ CL G n (.ref f) ds σ₂ Φ)
    (hbase : attributeBase o name env (eval o env) = eval o env) (hl : (apos.endLine == pos.line) = true)
    (hfew : methodCallForm (args.length + ([] : List Keyword).length) (backTo pos (starEach args env)) (backToKw pos (keywordEach [] env)) = true)
    (he : backTo pos (starEach args env) = args.map fun e => (false, eval e env)) : EV G n env (.Call (.Attribute o name apos) args [] pos) σ Φ :=
  fun τ A s Z E Q hR hS hQ => call_meth hbase hl (h τ A s _ _ _ hR hS fun Z1 d σ1 v s1 k1 S1 r1 ⟨x, dx, m, k, f, fo, e, h1, h2, h3, p1⟩ pl => by
    subst e
    cases r1
    obtain ⟨o', es, ep, I, _, hd, _, hk, _, hfn⟩ := inst_at S1 h1 h2
    refine method_usual (kin_now S1) I (plainGet_of P.pg).1 (plainGet_of P.pg).2 hf rfl ?_
    refine own_val S1 P hf h1 h2 h3 rfl fun v hv => ?_
    cases hv
    refine call_tail hR (S1.toks (s1.toks + 1)) (p1.mono fun ds σ₂ ⟨q1, ⟨fd, q2⟩, q3⟩ => ⟨?_, q3⟩) (fun Z2 d2 σ2 v2 s2 k2 => hQ Z2 d2 σ2 v2 s2 (stt k1 k2)) he
    obtain ⟨oc, od, dat, sl⟩ := fo
    dsimp only at q2
    subst q2
    exact kp_fn q1) hfew
abbrev SA (G : Gl) (n : Nat) (name : Str) (od d : D) (σ : Led) (Φ : Led → Prop) := W2 G n (fun _ (_ _ : Unit) => True) (fun o v => setAttr o name v) od d σ fun _ σ' => Φ σ'
theorem as_attr {Φ : Led → Prop} {o : Expr} {d : D} (h : EV G n env o σ fun od σ₁ => SA G n name od d σ₁ Φ) : AS G n env (.Attribute o name pos) d σ Φ := by
  intro τ A s Z E Q v hR hS hv hQ
  rw [arm_assign_Attribute]
  refine wpAny_bind (wpAny_holding (h τ A s Z E _ hR hS fun Z1 od σ1 ov s1 k1 S1 r1 p1 => wpAny_bind (wpAny_standAt (wpAny_bind (wpAny_holding ?_)))))
  exact p1 τ A s1 Z1 E _ ov v hR S1 r1 (hv.mono k1) fun Z2 d2 σ2 v2 s2 k2 S2 r2 p2 => wpAny_release' (hQ Z2 () σ2 () s2 (stt k1 k2) S2 trivial p2)
theorem store_own {A : Around} {s : Shared} {Z : Heap} {τ σ' : Led} {E : Value → Shared → Prop} {Q : Unit → Shared → Prop} {d : D} {v : Value} {m' : List (Str × Option D)} {k' : Nat} (S : St G Z (σ ++ τ) s) (P : PlainCls G.K C) (ha : takerIn G.K C name = some none) (h1 : (x, Cell.raw (instObj C dx)) ∈ σ)
    (U : UpdL dx (.dct m k) (.dct m' k') σ σ') (V : UpdN name (some d) m m') (hk : k' = k + 1 ∨ (k' = k ∧ ∃ old, (name, some old) ∈ m)) (hsz : k' ≤ 1000) (hv : VR Z d v)
    (hQ : ∀ s', St G Z (σ' ++ τ) s' → Q () s') : wpAny (model G.prog G.w) A (setAttr (.ref x) name v) Q E s := by
  obtain ⟨o, es, ep, I, ho, hd, hsz0, hks, hnd, hf⟩ := inst_at S h1 U.mem
  refine set_plain (kin_now S) I P.sa (osa_open (s := { s with toks := s.toks + 1 }) (kin_now (S.toks (s.toks + 1))) I P.po ha fun b => ?_)
  obtain ⟨cd, hc, hd'⟩ := any_some P.hd
  obtain ⟨hx, _, _, _⟩ := I
  refine wpAny_bind (wpAny_pure (wpAny_bind (wpAny_bind (wpAny_loadPart hx (wpAny_bind (Looks.here (s := { s with toks := s.toks + 1 }) (looks_clsIn (kin_now S) hc) ?_))))))
  rw [hd']
  refine wpAny_pure (a := some dx) (wpAny_bind (wpAny_pure (wpAny_bind ?_)))
  unfold nsSet
  refine wpAny_bind (wpAny_bind (wpAny_askSetting (wpAny_pure (wpAny_bind (wpAny_mkText (wpAny_bind (wpAny_loadPart ho ?_)))))))
  rw [hd]
  dsimp only
  have hany : es.any (·.refKey) = false := by
    rw [Array.any_eq_false']; intro e he; obtain ⟨n, t, h⟩ := hks e he; simp [DictEntry.refKey, h]
  rw [aRefKeyMayBeTheName_at, hany, Bool.and_false, if_neg Bool.false_ne_true]
  refine wpAny_updatePart ho ?_
  generalize hH : PyData.keyHash G.w.params name = H
  have key : ∃ es' ep', (Obj.putName name H (.str name (s.toks + 1)) v o).data = .dict es' ep' ∧ es'.size ≤ k' ∧ StrKeys es' ∧ (∀ y, nsFind es' y = if y = name then some v else nsFind es y) ∧ (Obj.putName name H (.str name (s.toks + 1)) v o).isFreed = false := by
    obtain ⟨c, dd, dt, sl⟩ := o
    dsimp only at hd
    subst hd
    cases hi : es.findIdx? (·.key.isStr name) with
    | some i =>
      refine ⟨es.modify i fun e => { e with val := v }, ep, by simp only [Obj.putName_eq, Obj.putNameByArray, hi], by rw [Array.size_modify]; rcases hk with rfl | ⟨rfl, _⟩ <;> omega, hks.modify _ _, fun y => findBy_modify (fun n v => v.isStr n) Value.isStr_inj es name y v i hi, by simp only [Obj.putName_eq, Obj.putNameByArray, hi]; rfl⟩
    | none =>
      refine ⟨es.push ⟨H, .str name (s.toks + 1), v⟩, ep + 1, by simp only [Obj.putName_eq, Obj.putNameByArray, hi], ?_, hks.push _ _ _ _, fun y => ?_, by simp only [Obj.putName_eq, Obj.putNameByArray, hi]; rfl⟩
      · rcases hk with rfl | ⟨rfl, old, hm⟩
        · rw [Array.size_push]; omega
        · exfalso
          have hz := hf _ hm
          dsimp only at hz
          have : nsFind es name = none := by
            unfold nsFind
            rw [findBy_of_findIdx?, hi]
          rw [this] at hz; cases hz
      · exact findBy_push (fun n v => v.isStr n) es name y _ _ v (fun y => by
          show (name == y) = decide (y = name)
          by_cases h : y = name
          · subst h; simp
          · have : ¬ name = y := fun e => h e.symm
            simp [h, this]) hi
  obtain ⟨es', ep', e1, e2, e3, e4, e5⟩ := key
  have D' : (s.heap.update dx (Obj.putName name H (.str name (s.toks + 1)) v)).get? dx = some (Obj.putName name H (.str name (s.toks + 1)) v o) := Heap.get?_update_self _ ho e5
  subst hH
  refine wpAny_bind (wpAny_lookBehind D' (by rw [e1]; exact pastItsLine_dict (by rw [sizeLine_eq]; omega)) ?_)
  exact wpAny_pure (hQ _ (S.upd (U.app τ) (Heap.SameBut.update ..).extBut (s.toks + 1 + 1) D' ⟨es', ep', e1, e2, e3, V.keys ▸ hnd, fun p hp => by rw [e4]; exact V.or (.some hv) hnd hf p hp⟩))
theorem sa_own {Φ : Led → Prop} {d : D} {σ' : Led} {m' : List (Str × Option D)} {k' : Nat} (P : PlainCls G.K C) (ha : takerIn G.K C name = some none) (h1 : (x, Cell.raw (instObj C dx)) ∈ σ)
    (U : UpdL dx (.dct m k) (.dct m' k') σ σ') (V : UpdN name (some d) m m') (hk : k' = k + 1 ∨ (k' = k ∧ ∃ old, (name, some old) ∈ m)) (hsz : k' ≤ 1000) (h : Φ σ') : SA G n name (.obj x) d σ Φ := by
  intro τ A s Z E Q v w hR hS ho hv hQ
  cases ho
  exact store_own hS P ha h1 U V hk hsz hv fun s' S' => hQ Z () σ' () s' (str Z) S' trivial h
end
section
variable {G : Gl} {n : Nat} {env : Env} {σ : Led} {Φ : AF → Led → Prop} {pos : Pos}
theorem x_augattr {o value : Expr} {attr : Str} {tpos : Pos} {op : Operator} (h : EV G n env o σ fun od σ₁ => GA G n attr od σ₁ fun a σ₂ => EV G n env value σ₂ fun b σ₃ => IO G n op a b σ₃ fun d σ₄ => SA G n attr od d σ₄ (Φ .next)) :
    X1 G n env (.AugAssign (.Attribute o attr tpos) op value pos) σ Φ :=
  fun τ A s _ E Q hR hS hQ => wpAny_AugAssign_AttributeAny (h τ A s _ _ _ hR hS fun Z1 od σ1 ov s1 k1 S1 r1 p1 => p1 τ A s1 _ _ _ ov hR S1 r1 fun Z2 a σ2 va s2 k2 S2 r2 p2 => p2 τ A s2 _ _ _ hR S2 fun Z3 b σ3 vb s3 k3 S3 r3 p3 =>
    p3 τ A s3 _ _ _ va vb hR S3 (r2.mono k3) r3 fun Z4 d σ4 vd s4 k4 S4 r4 p4 => p4 τ A s4 _ _ _ ov vd hR S4 (r1.mono (stt k2 (stt k3 k4))) r4 fun Z5 _ σ5 _ s5 k5 S5 _ p5 => hQ _ _ _ _ s5 (stt k1 (stt k2 (stt k3 (stt k4 k5)))) S5 .next p5)
end
end Mine
namespace Mine
theorem Room.in1 {n : Nat} {A : Around} (h : Room (n + 1) A) : Room n A.in1 := ⟨h.1, by have := h.2.1; simp only [Around.in1_depth]; omega, by have := h.2.2; simp only [Around.in1_units]; omega⟩
theorem Room.typeCall {n : Nat} {A : Around} {C : Addr} {vals : List Value} {kw : List (Str × Value)} (h : Room (n + 1) A) : Room n (A.under (.builtin "type.__call__" ⟨.ref C :: vals, kw⟩)) := by
  have e1 : (A.under (.builtin "type.__call__" ⟨.ref C :: vals, kw⟩)).depth = A.depth + 1 := rfl
  have e2 : (A.under (.builtin "type.__call__" ⟨.ref C :: vals, kw⟩)).units = A.units + 1 := rfl
  exact ⟨h.1, by rw [e1]; have := h.2.1; omega, by rw [e2]; have := h.2.2; omega⟩
section
variable {G : Gl} {n : Nat} {σ : Led} {Φ : D → Led → Prop} {ds : List D}
theorem clc_class {C fI : Addr} (names : List Str) (hnd : names.Nodup) (hm : makesIn G.K C = true) (hi : findIn G.K (.ref C) "__init__" = some (some (.ref fI))) (hf : typeIn G.K (.ref fI) = some (.type "function"))
    (h : ∀ x dx, CLc G n (.ref fI) (.obj x :: ds) ((x, .raw (instObj C dx)) :: (dx, .dct (names.map fun y => (y, none)) 0) :: σ) fun d σ' => d = .none ∧ Φ (.obj x) σ') : CLc G (n + 1) (.ref C) ds σ Φ := by
  intro τ A s Z R vs hR hS hv hQ
  have X : G.K.In s.heap := kin_now hS
  obtain ⟨hh, g, d, t, os⟩ := s
  refine make_core (makes_of X hm) (looks_findIn X hi) (fun self => bind_fn X self hf) (.inl rfl) ?_
  have S1 := hS.add (h' := hh.push emptyDict) (fun _ _ e => Heap.get?_push_of_some _ e) t (size_none hh) (Heap.get?_push_size _ rfl) (show CellR Z (.dct (names.map fun y => (y, none)) 0) emptyDict from
    ⟨#[], 0, rfl, Nat.le_refl _, (fun e he => by simp at he), by rw [List.map_map]; simpa [Function.comp_def] using hnd, fun p hp => by
      obtain ⟨y, _, rfl⟩ := List.mem_map.mp hp
      exact .none⟩)
  have S2 := S1.add (h' := (hh.push emptyDict).push (instObj C hh.objs.size)) (fun _ _ e => Heap.get?_push_of_some _ e) t (size_none (hh.push emptyDict)) (Heap.get?_push_size _ rfl) (show CellR Z (.raw (instObj C hh.objs.size)) (instObj C hh.objs.size) from rfl)
  rw [Heap.size_push] at S2
  refine h (hh.objs.size + 1) hh.objs.size τ _ _ Z _ _ hR.typeCall S2 (.cons (.obj _) hv) fun Z' d σ' v s' k S' r ⟨e, p⟩ => ?_
  subst e
  cases r
  exact ⟨rfl, hQ Z' _ σ' _ s' k S' (.obj _) p⟩
end
section
variable {G : Gl} {n : Nat} {env : Env} {L : Addr} {ks : List (Str × NameKind)} {cs : List (Str × Addr)} {σ : Led} {Φ : D → Led → Prop} {pos : Pos}
theorem bm_at {Z : Heap} {s : Shared} {P : Addr} (S : St G Z σ s) (hP : G.h₀.get? P = none) : s.heap.BuiltinsAt G.mg P ∧ mainGlobals ≠ P := by
  obtain ⟨bm, ob, b1, b2, b3, b4, b5, b6⟩ := G.bm
  have k : G.h₀.StaysIn s.heap := stt S.base S.zin
  have hbG : bm ≠ mainGlobals := fun q => by
    obtain ⟨o, es, ep, e, hd, _⟩ := G.ns
    rw [q, e] at b3; cases b3; rw [hd] at b6; cases b6
  have hgP : mainGlobals ≠ P := fun q => by
    obtain ⟨o, es, ep, e, hd, _⟩ := G.ns
    rw [q, hP] at e; cases e
  exact ⟨⟨bm, ob, b1, b2, hbG, (fun q => by rw [q, hP] at b3; cases b3), k _ _ b3, b4, b5, b6⟩, hgP⟩
theorem ev_lambda {params : Arguments} {body : Expr} {scope : Scope} {cl : List (Str × Addr)} {c P : Addr} {σ' : Array Value → Led} (O : EnvOK env L ks cs) (hcode : env.code = .ref c) (hC : CodeHd G.h₀ c P) (hdef : defaultsOf params env = ([], []))
    (hcl : clOf scope cs = cl) (hfree : scope.names.all (fun p => p.2 != .free || (cs.lookup p.1).isSome) = true)
    (U : ∀ ps, UpdL P (.raw (tabObj #[])) (.raw (tabObj ps)) σ (σ' ps))
    (h : ∀ f c' oc vs t qual pm ctv ps, oc.data = .fields vs → vs[1]? = some (.str qual t) → Φ (.obj f) ((f, .raw (kla_obj "<lambda>" qual params body scope cl pm c' ctv)) :: (c', .raw oc) :: σ' ps)) :
    EV G n env (.Lambda params body scope pos) σ Φ := by
  intro τ A s Z E Q hR hS hQ
  refine tkw (kla_eval hdef ?_)
  have k0 : G.h₀.StaysIn s.heap := stt hS.base hS.zin
  have hZP : Z.get? P = none := hS.hid _ (List.mem_append_left τ (U #[]).mem)
  have hP0 : G.h₀.get? P = none := by
    cases e : G.h₀.get? P with
    | none => rfl
    | some o => have := hS.base _ _ e; rw [hZP] at this; cases this
  obtain ⟨oP, eP, rP⟩ := hS.cells _ (List.mem_append_left τ (U #[]).mem)
  have rP' : oP = tabObj #[] := rP
  subst rP'
  obtain ⟨hb, hgP⟩ := bm_at hS hP0
  refine kla_makeFunction (c := c) (P := P) (ps := #[]) ((closure_of O hfree).trans (by rw [hcl])) O.glo (G.ns.keeps k0) hcode (hC.keeps k0) eP trivial rfl hgP hb fun c' ctv h' tk hx hge hlt hrec htb => ?_
  obtain ⟨c₂, oc, vs, t, e2, hoc, hd, hv⟩ := hrec
  cases e2
  intro (htk : s.toks ≤ tk)
  have hcn : s.heap.get? c' = none := by
    cases e : s.heap.get? c' with
    | none => rfl
    | some o => exact absurd (Heap.lt_size e) (Nat.not_lt.mpr hge)
  have hZc : Z.get? c' = none := by
    cases e : Z.get? c' with
    | none => rfl
    | some o => have := hS.zin _ _ e; rw [hcn] at this; cases this
  generalize hps : (#[] : Array Value) ++ #[rawInt pos.line, rawInt pos.col, .ref c'] = ps at htb
  have keys : ((σ' ps) ++ τ).map (·.1) = (σ ++ τ).map (·.1) := by
    obtain ⟨x, y, e1, e2⟩ := (U ps).split
    rw [e1, e2]; simp
  have S1 : St G Z (σ' ps ++ τ) { s with heap := h', toks := tk } := hS.upd ((U ps).app τ) hx tk htb rfl htk
  have S2 := S1.expose (a := c') (c := .raw oc) hZc (by rw [keys]; exact hS.notIn hcn) hoc rfl
  have S3 := S2.add (h' := h'.push (kla_obj "<lambda>" (env.qual ++ "<lambda>") params body scope cl ((G.mg "__name__").getD .none) c' ctv)) (fun _ _ e => Heap.get?_push_of_some _ e) tk (size_none h') (Heap.get?_push_size _ rfl)
    (show CellR Z (.raw (kla_obj "<lambda>" (env.qual ++ "<lambda>") params body scope cl ((G.mg "__name__").getD .none) c' ctv)) _ from rfl)
  exact hQ Z _ ((h'.objs.size, .raw (kla_obj "<lambda>" (env.qual ++ "<lambda>") params body scope cl ((G.mg "__name__").getD .none) c' ctv)) :: (c', .raw oc) :: σ' ps) _ _ (str Z) S3 (.obj _) (h _ _ _ _ _ _ _ _ _ hd hv)
def RetE (Φ : D → Led → Prop) (d : D) (σ : Led) : Prop := ∃ σ', σ'.Sublist σ ∧ Φ d σ'
theorem clc_lam {f c' : Addr} {name qual : Str} {params : Arguments} {body : Expr} {scope : Scope} {clos cs : List (Str × Addr)} {pm ctv : Value} {oc : Obj} {vs : Array Value} {t : Tok} {ds : List D} (bs : List (Str × D)) (more : List Str)
    (h1 : (f, Cell.raw (kla_obj name qual params body scope clos pm c' ctv)) ∈ σ) (h2 : (c', Cell.raw oc) ∈ σ) (hoc : oc.data = .fields vs) (hvs : vs[1]? = some (.str qual t))
    (hco : scope.isCoroutine = false) (hgen : scope.isGenerator = false) (hkind : scope.kind = .function)
    (hcell : scope.names.all (fun p => p.2 != .cell) = true) (hcs : ∀ p ∈ cs, clos.lookup p.1 = some p.2)
    (hn : (scope.names.map (·.1)).Nodup) (hd : scope.names.all (fun p => !(p.1 == ("__debug__" : Str)) && !(p.1 == ("__classdict__" : Str))) = true)
    (hm : ((bs.map (·.1)) ++ more).Nodup) (hl : (bs.all fun p => scope.names.lookup p.1 == some .local) = true)
    (hb : ∀ Z vs, VRs Z ds vs → ∃ ws : List Value, VRs Z (bs.map (·.2)) ws ∧ ∀ M, Looks M G.h₀ (bindArgs (kla_fn name qual params body scope clos pm (.ref c') ctv) ⟨vs, []⟩) ((bs.map (·.1)).zip ws))
    (h : ∀ env L, EnvOK env L scope.names cs → EV G n env body ((L, .ns (nsStart bs more)) :: σ) (RetE Φ)) : CLc G (n + 1) (.ref f) ds σ Φ := by
  intro τ A s Z R vs' hR hS hv hQ
  obtain ⟨of, ef, rf⟩ := hS.cells _ (List.mem_append_left τ h1)
  have rf' : of = kla_obj name qual params body scope clos pm c' ctv := rf
  subst rf'
  obtain ⟨oc', ec, rc⟩ := hS.cells _ (List.mem_append_left τ h2)
  have rc' : oc' = oc := rc
  subst rc'
  obtain ⟨ws, hws, hlook⟩ := hb Z vs' hv
  have k0 : G.h₀.StaysIn s.heap := stt hS.base hS.zin
  have hlen : (bs.map (·.1)).length = ws.length := by rw [← hws.length]; simp
  refine kla_callFunE (by have := hR.2.1; omega) ef rfl hco hgen rfl ⟨c', _, vs, t, rfl, ec, hoc, hvs⟩ (((hlook _).keeps k0).here ?_)
  refine wpAny_newFunctionEnv (fun x hx => by have := List.all_eq_true.mp hcell x hx; simpa using this) (fun x hx => ?_) (fun h₁ hns hsb => ⟨(G.lim.keeps k0).fresh _ hsb, ?_⟩) hkind
  · have hx1 := (List.of_mem_zip (show (x.1, x.2) ∈ _ from hx)).1
    obtain ⟨p, hp, hpe⟩ := List.mem_map.mp hx1
    have := List.all_eq_true.mp hl p hp
    rw [← hpe]; simpa using this
  · have hk₁ : s.heap.StaysIn h₁ := fun b o e => hsb.extBut b o (Nat.ne_of_lt (Heap.lt_size e)) (Heap.get?_push_of_some _ e)
    have key := nsStart_or (Z := Z) hm hws
    obtain ⟨o1, e1, c1⟩ := ns_cell (Z := Z) hns (m := nsStart bs more) (by simpa [nsStart, Function.comp_def] using hm) key
    have S1 := hS.add hk₁ (s.toks + ((bs.map (·.1)).zip ws).length) (size_none _) e1 c1
    have O := envOK_call (fd := kla_fn name qual params body scope clos pm (.ref c') ctv) (L := s.heap.objs.size) (f := f) hkind rfl rfl hcs hn hd
    exact kla_codeExpr (wpAny_mono (h _ _ O τ (A.deeper _) _ Z (fun _ _ => False) (fun v s' => R (.ok (.ret v)) s') (hR.deeper _) S1 fun Z' d σ' v s' k' S' r' ⟨σ'', hsub, hp⟩ =>
      hQ Z' _ σ'' _ s' k' (S'.sub (hsub.append_right τ)) r' hp) (fun _ _ x => x) fun _ _ x => x.elim)
end
end Mine
namespace Mine
theorem slot_ci_next : Slot "callable_iterator" "__next__" "callable_iterator.__next__" :=
  .of (owner := "callable_iterator") (n := "__next__") (by rw [typeLookup_type, builtinLookup_eq_fast]; kernel_rfl) (by decide +kernel) (by decide +kernel) (by decide +kernel)
    (by first | exact .inl (by decide +kernel) | exact .inr (by decide +kernel)) (by rw [isSubtype_type]; kernel_rfl)
theorem slot_ci_iter : Slot "callable_iterator" "__iter__" "callable_iterator.__iter__" :=
  .of (owner := "callable_iterator") (n := "__iter__") (by rw [typeLookup_type, builtinLookup_eq_fast]; kernel_rfl) (by decide +kernel) (by decide +kernel) (by decide +kernel)
    (by first | exact .inl (by decide +kernel) | exact .inr (by decide +kernel)) (by rw [isSubtype_type]; kernel_rfl)
theorem entry_ci_next : entryFor table "callable_iterator.__next__" = some Builtin.«callable_iterator.__next__» := entryFor_of_fast (by kernel_rfl)
theorem entry_ci_iter : entryFor table "callable_iterator.__iter__" = some Builtin.«dict_keyiterator.__iter__» :=
  entryFor_alias (id' := "dict_keyiterator.__iter__") (by kernel_rfl) rfl (by decide +kernel) (by kernel_rfl)
theorem args_ci_next (a : Value) : argsOk "callable_iterator.__next__" ⟨[a], []⟩ := by unfold argsOk; kernel_rfl
theorem args_ci_iter (a : Value) : argsOk "callable_iterator.__iter__" ⟨[a], []⟩ := by unfold argsOk; kernel_rfl
theorem slot_meth_call : Slot "method" "__call__" "method.__call__" :=
  .of (owner := "method") (n := "__call__") (by rw [typeLookup_type, builtinLookup_eq_fast]; kernel_rfl) (by decide +kernel) (by decide +kernel) (by decide +kernel)
    (by first | exact .inl (by decide +kernel) | exact .inr (by decide +kernel)) (by rw [isSubtype_type]; kernel_rfl)
theorem kind_iter : builtinKind "iter" = none := by decide +kernel
theorem plain_iter : plainId "iter" = true := by decide +kernel
theorem entry_iter : entryFor table "iter" = some Builtin.«iter» := entryFor_of_tree (by kernel_rfl)
theorem args_iter_2 (a b : Value) : argsOk "iter" ⟨[a, b], []⟩ := by unfold argsOk; kernel_rfl
def ciObj (f x : Value) : Obj := { cls := .type "callable_iterator", data := .fields #[f, x, .bool false] }
def ciEnd : Obj := { cls := .type "callable_iterator", data := .fields #[.none, .none, .bool true] }
section
variable {prog : Program} {w : World} {A : Around} {E : Value → Shared → Prop} {s : Shared}
theorem callBorrowed_of {M : Model} {f : Value} {pos : List Value} {Q : Value → Shared → Prop} (h : wpAny M A (call f pos) Q E s) : wpAny M A (callBorrowed f pos) Q E s := fun Γ p hΓ => by
  have e : callBorrowed f pos = (call f pos).keep [borrowed] := by
    unfold callBorrowed call runValue run
    show _ = Sem.call _ _ _ _ _
    congr 1
    funext r
    rcases r with e | (v | _ | _ | _) <;> rfl
  rw [e, Sem.wp_keep]
  exact h Γ p hΓ
theorem borrows_method {q f : Addr} {self : Value} {oc : Value} {od : Option Addr} {fd : FuncData} {sl : Array (Option Value)} {Q : Bool → Shared → Prop} (hq : s.heap.get? q = some (methodObj (.ref f) self)) (hf : s.heap.get? f = some ⟨oc, od, .func fd, sl⟩) (h : Q true s) :
    wpAny (model prog w) A (borrowsExactly (.ref q)) Q E s := by
  unfold borrowsExactly
  refine wpAny_bind (wpAny_load hq ?_)
  dsimp only
  refine wpAny_bind (wpAny_load hf ?_)
  exact wpAny_pure h
theorem iter_two {q : Addr} {self x : Value} {f : Value} {Q : Value → Shared → Prop} (hq : s.heap.get? q = some (methodObj f self)) (h : Q (.ref s.heap.objs.size) { s with heap := s.heap.push (ciObj (.ref q) x) }) :
    wpAny (model prog w) A (call (.builtin "iter") [.ref q, x]) Q E s := by
  refine Calls.call_function_entry kind_iter plain_iter entry_iter (args_iter_2 _ _) ?_
  unfold Builtin.«iter»
  refine wpAny_bind (wpAny_of_eq (a := [.ref q, x]) (by first | rfl | kernel_rfl) ?_)
  dsimp only
  refine wpAny_bind (wpAny_specialOf (T := "method") ⟨_, hq, rfl⟩ slot_meth_call.lookup ?_)
  refine wpAny_bind (wpAny_rule (wpAny_bind ?_))
  refine wpAny_newObj_type ?_ (by size_fits)
  exact wpAny_pure ⟨_, rfl, h⟩
theorem pyIter_ci {it : Addr} {f x : Value} {Q : Value → Shared → Prop} (hit : s.heap.get? it = some (ciObj f x)) (h : Q (.ref it) s) : wpAny (model prog w) A (pyIter (.ref it)) Q E s := by
  have hT : s.TypeIs (.ref it) "callable_iterator" := ⟨_, hit, rfl⟩
  refine wpAny_pyIter_slot hT slot_ci_iter (wpAny_call_entry slot_ci_iter hT entry_ci_iter ?_ (args_ci_iter _))
  show wpAny _ _ (ret (.ref it)) _ _ s
  exact wpAny_pure ⟨_, rfl, "callable_iterator", _, hT, slot_ci_next.lookup, h⟩
theorem pyNext_ci {it q f : Addr} {self : Value} {x : Str} {t : Tok} {Q : Option Value → Shared → Prop} (hh : A.handled = none) (hit : s.heap.get? it = some (ciObj (.ref q) (.str x t))) (hq : s.heap.get? q = some (methodObj (.ref f) self))
    {oc : Value} {od : Option Addr} {fd : FuncData} {sl : Array (Option Value)} (hf : s.heap.get? f = some ⟨oc, od, .func fd, sl⟩)
    (h : wpAny (model prog w) A.in1 (call (.ref q) []) (fun r s' => ∃ y u, r = .str y u ∧ s'.heap.get? it = some (ciObj (.ref q) (.str x t)) ∧ s'.heap.get? q = some (methodObj (.ref f) self) ∧ s'.heap.get? f = some ⟨oc, od, .func fd, sl⟩ ∧
      (y ≠ x → Q (some (.str y u)) s') ∧ (y = x → ∀ h', Heap.ExtBut it s'.heap h' → h'.get? it = some ciEnd → Q none { s' with heap := h' })) (fun _ _ => False) s) : wpAny (model prog w) A (pyNext (.ref it)) Q E s := by
  have hT : s.TypeIs (.ref it) "callable_iterator" := ⟨_, hit, rfl⟩
  unfold pyNext
  refine wpAny_bind (wpAny_attempt (wpAny_callSpecial?_slot (name := Str.ofString "__next__") hT slot_ci_next
    (wpAny_call_entry slot_ci_next hT entry_ci_next ?_ (args_ci_next _))))
  show wpAny _ _ (field (.ref it) 2 >>= _) _ _ s
  refine wpAny_bind (wpAny_field hit rfl (x := .bool false) rfl ?_)
  show wpAny _ _ (if (Value.bool false == Value.bool true) = true then _ else _) _ _ s
  rw [if_neg (show ¬ ((Value.bool false == Value.bool true) = true) from Bool.false_ne_true)]
  show wpAny _ _ (field (.ref it) 0 >>= _) _ _ s
  refine wpAny_bind (wpAny_field hit rfl (x := .ref q) rfl ?_)
  refine wpAny_bind (wpAny_attempt ?_)
  unfold callOutOfASlot
  refine wpAny_bind (borrows_method hq hf ?_)
  rw [if_pos rfl]
  refine callBorrowed_of (wpAny_mono h (fun r s' ⟨y, u, e, hit', hq', hf', h1, h2⟩ => ?_) fun _ _ x => x.elim)
  subst e
  dsimp only
  refine wpAny_bind (wpAny_field hit' rfl (x := .bool false) rfl ?_)
  show wpAny _ _ (if (Value.bool false == Value.bool true) = true then _ else _) _ _ s'
  rw [if_neg (show ¬ ((Value.bool false == Value.bool true) = true) from Bool.false_ne_true)]
  show wpAny _ _ (field (.ref it) 1 >>= _) _ _ s'
  refine wpAny_bind (wpAny_field hit' rfl (x := .str x t) rfl ?_)
  refine wpAny_bind (wpAny_holding ?_)
  refine (PySem.SeqAt.EqAt.str_str x t y u) prog w _ _ ?_
  by_cases hxy : y = x
  · subst hxy
    rw [if_neg (by simp)]
    refine wpAny_bind (wpAny_rule (wpAny_bind ?_))
    show wpAny _ _ (do slotLetsGo "callable_iterator.__next__" (← field (.ref it) 0) _; setField (.ref it) 0 .none; setField (.ref it) 1 .none; setField (.ref it) 2 (.bool true)) _ _ s'
    refine wpAny_bind (wpAny_field hit' rfl (x := .ref q) rfl (wpAny_bind ?_))
    unfold slotLetsGo
    refine wpAny_bind (borrows_method hq' hf' ?_)
    rw [if_pos rfl]
    refine wpAny_pure ?_
    refine wpAny_bind (wpAny_setField hit' rfl (by simp) ?_)
    have e1 : (s'.heap.update it (Obj.mapFields fun v => v.setIfInBounds 0 Value.none)).get? it = some { cls := .type "callable_iterator", data := .fields #[.none, .str y t, .bool false] } := Heap.get?_update_self _ hit' rfl
    refine wpAny_bind (wpAny_setField e1 rfl (by simp) ?_)
    have e2 : ((s'.heap.update it (Obj.mapFields fun v => v.setIfInBounds 0 Value.none)).update it (Obj.mapFields fun v => v.setIfInBounds 1 Value.none)).get? it = some { cls := .type "callable_iterator", data := .fields #[.none, .none, .bool false] } := Heap.get?_update_self _ e1 rfl
    refine wpAny_setField e2 rfl (by simp) ?_
    have e3 : (((s'.heap.update it (Obj.mapFields fun v => v.setIfInBounds 0 Value.none)).update it (Obj.mapFields fun v => v.setIfInBounds 1 Value.none)).update it (Obj.mapFields fun v => v.setIfInBounds 2 (.bool true))).get? it = some ciEnd := Heap.get?_update_self _ e2 rfl
    have x3 : Heap.ExtBut it s'.heap (((s'.heap.update it (Obj.mapFields fun v => v.setIfInBounds 0 Value.none)).update it (Obj.mapFields fun v => v.setIfInBounds 1 Value.none)).update it (Obj.mapFields fun v => v.setIfInBounds 2 (.bool true))) := fun b o hb e =>
      (Heap.SameBut.update ..).extBut b o hb ((Heap.SameBut.update ..).extBut b o hb ((Heap.SameBut.update ..).extBut b o hb e))
    generalize (((s'.heap.update it (Obj.mapFields fun v => v.setIfInBounds 0 Value.none)).update it (Obj.mapFields fun v => v.setIfInBounds 1 Value.none)).update it (Obj.mapFields fun v => v.setIfInBounds 2 (.bool true))) = H3 at e3 x3
    show wpAny _ _ (newExc (.type "StopIteration") [] >>= _) _ _ _
    refine wpAny_bind ?_
    simp only [newExc, newTuple]
    refine wpAny_bind (wpAny_newObj_type ?_ (by size_fits))
    refine wpAny_bind (m := firstArgMember _ _) (wpAny_of_eq (a := Value.none) (by first | rfl | (simp only [firstArgMember]; rfl)) ?_)
    refine wpAny_newObj_type ?_ (by size_fits)
    simp only [raiseNew]
    refine wpAny_bind (wpAny_handled ?_)
    rw [show A.in1.handled = none from hh]
    refine wpAny_bind (wpAny_pure (wpAny_throw ?_))
    refine wpAny_bind (wpAny_isInstance (T := "StopIteration") (b := true) ⟨_, Heap.get?_push_size _ rfl, rfl⟩ isSubtype_stop ?_)
    exact wpAny_pure (h2 rfl _ ((x3.push _).push _) (Heap.get?_push_of_some _ (Heap.get?_push_of_some _ e3)))
  · rw [if_pos (by simp; exact fun e => hxy e.symm)]
    exact wpAny_pure ⟨_, rfl, wpAny_pure (h1 hxy)⟩
end
section
variable {G : Gl} {n : Nat} {env : Env} {L : Addr} {ks : List (Str × NameKind)} {cs : List (Str × Addr)} {σ : Led} {Φ : AF → Led → Prop} {Φd : D → Led → Prop} {pos : Pos}
theorem raw_at {Z : Heap} {s : Shared} {τ : Led} {a : Addr} {o : Obj} (S : St G Z (σ ++ τ) s) (h : (a, Cell.raw o) ∈ σ) : s.heap.get? a = some o := by
  obtain ⟨o', e, r⟩ := S.cells _ (List.mem_append_left τ h)
  have r' : o' = o := r
  subst r'; exact e
theorem cl_iter2 {q y : Addr} {f : Value} {x : Str} (h1 : (q, Cell.raw (methodObj f (.ref y))) ∈ σ) (h : ∀ it t, Φd (.obj it) ((it, .raw (ciObj (.ref q) (.str x t))) :: σ)) : CL G n (.builtin "iter") [.obj q, .str x] σ Φd := by
  intro τ A s Z E Q vs hR hS hv hQ
  obtain ⟨v, w, rfl, ha, hb⟩ := vr2 hv
  cases ha
  cases hb with
  | str _ t =>
    refine iter_two (raw_at hS h1) ?_
    exact hQ Z _ ((s.heap.objs.size, .raw (ciObj (.ref q) (.str x t))) :: σ) _ _ (str Z) (hS.add (h' := s.heap.push _) (fun _ _ e => Heap.get?_push_of_some _ e) s.toks (size_none _) (Heap.get?_push_size _ rfl) rfl) (.obj _) (h _ _)
theorem x_for_ci {t iter : Expr} {body : List Stmt} {it q f y : Addr} {x : Str} {tk : Tok} {oc : Value} {od : Option Addr} {fd : FuncData} {sl : Array (Option Value)} (P : Nat → Led → Prop) (hf : G.K.lookup f = some ⟨oc, od, .func fd, sl⟩)
    (h : EV G (n + 1) env iter σ fun d σ₁ => d = .obj it ∧ ∃ k, P k σ₁)
    (turn : ∀ k σ, P k σ → (it, Cell.raw (ciObj (.ref q) (.str x tk))) ∈ σ ∧ (q, Cell.raw (methodObj (.ref f) (.ref y))) ∈ σ ∧ CLc G n (.ref f) [.obj y] σ fun r σ₂ => (it, Cell.raw (ciObj (.ref q) (.str x tk))) ∈ σ₂ ∧ (q, Cell.raw (methodObj (.ref f) (.ref y))) ∈ σ₂ ∧
      ∃ w, r = .str w ∧ (w ≠ x → AS G (n + 1) env t (.str w) σ₂ fun σ₃ => XS G (n + 1) env body σ₃ fun fl σ₄ => match fl with
        | .next | .cont => ∃ k', k' < k ∧ P k' σ₄
        | .brk => Φ .next σ₄
        | .ret d => Φ (.ret d) σ₄) ∧ (w = x → ∃ σ₃, UpdL it (.raw (ciObj (.ref q) (.str x tk))) (.raw ciEnd) σ₂ σ₃ ∧ Φ .next σ₃))
    (hs : ∀ x, foldedSetIterable iter env x = pure x) (ht : ∀ it v, letOwnedTupleGo t it v = pure ()) : X1 G (n + 1) env (.For t iter body [] pos) σ Φ := by
  intro τ A s Z E Q hR hS hQ
  refine wpAny_For (h τ A s _ _ _ hR hS fun Z1 d σ1 v s1 k1 S1 r1 ⟨e1, k, p1⟩ => ?_) hs
  subst e1
  cases r1
  refine pyIter_ci (raw_at S1 (turn k σ1 p1).1) ?_
  refine codeAny_forLoop (fun k s' => ∃ Z' σ', Z1.StaysIn Z' ∧ St G Z' (σ' ++ τ) s' ∧ P k σ') (fun k s' hI => ?_) k ⟨Z1, σ1, str Z1, S1, p1⟩ (ht _)
  obtain ⟨Z3, σ3, k3, S3, p3⟩ := hI
  obtain ⟨m1, m2, hcall⟩ := turn k σ3 p3
  have X := kin_now S3
  have ef := X _ _ hf
  refine pyNext_ci hR.1 (raw_at S3 m1) (raw_at S3 m2) ef (wpAny_call (method_call (raw_at S3 m2) ?_))
  refine hcall τ A.in1 s' Z3 _ [.ref y] hR.in1 S3 (.cons (.obj _) .nil) fun Z4 d σ4 v s4 k4 S4 r4 ⟨n1, n2, w, e4, p4, p5⟩ => ?_
  subst e4
  cases r4 with
  | str _ u =>
    refine ⟨w, u, rfl, raw_at S4 n1, raw_at S4 n2, (kin_now S4) _ _ hf, fun hne => ?_, fun heq h' hx he => ?_⟩
    · refine p4 hne τ A s4 Z4 _ _ _ hR S4 (.str _ _) fun Z5 _ σ5 _ s5 k5 S5 _ p6 => ?_
      refine p6 τ A s5 Z5 _ _ hR S5 fun Z6 fl σ6 v s6 k6 S6 r6 p7 => ?_
      cases r6 with
      | next => obtain ⟨k', hk, p7⟩ := p7; exact ⟨k', hk, Z6, σ6, stt k3 (stt k4 (stt k5 k6)), S6, p7⟩
      | cont => obtain ⟨k', hk, p7⟩ := p7; exact ⟨k', hk, Z6, σ6, stt k3 (stt k4 (stt k5 k6)), S6, p7⟩
      | brk => exact hQ _ _ _ _ s6 (stt k1 (stt k3 (stt k4 (stt k5 k6)))) S6 .next p7
      | ret hd => exact hQ _ _ _ _ s6 (stt k1 (stt k3 (stt k4 (stt k5 k6)))) S6 (.ret hd) p7
    · obtain ⟨σ5, U, p⟩ := p5 heq
      refine wpAny_execs_nil (hQ _ _ σ5 _ _ (stt k1 (stt k3 k4)) (S4.upd (U.app τ) hx s4.toks he rfl) .next p)
end
end Mine
namespace Mine
section
variable {G : Gl} {n : Nat} {σ : Led} {Φ : D → Led → Prop} {Ψ : Bool → Led → Prop}
theorem tr_list {d : D} {xs : List D} (hd : SeqIs σ d xs) (hl : xs.length ≤ 5000) (h : Ψ (!xs.isEmpty) σ) : TR G n d σ Ψ := by
  intro τ A s Z E Q v hR hS ha hQ
  obtain ⟨a, vs, rfl, hlst, r⟩ := hd.here hS ha
  have hlen := r.length
  simp only [Array.length_toList] at hlen
  refine wpAny_truthy_list hlst (by kt_len) ?_
  have e : (!vs.isEmpty) = !xs.isEmpty := by
    congr 1
    cases xs with
    | nil =>
      have : vs = #[] := by
        have : vs.size = 0 := by simpa using hlen.symm
        exact Array.eq_empty_of_size_eq_zero this
      subst this; rfl
    | cons x r =>
      have : vs.size ≠ 0 := by simp at hlen; omega
      cases hz : vs.isEmpty with
      | false => rfl
      | true => exact absurd (by simpa using hz) (fun e : vs = #[] => this (by rw [e]; rfl))
  rw [e]
  exact hQ Z _ σ _ _ (str Z) (hS.toks _) rfl h
theorem cl_list_sl {l : List Nat} (hl : l.length ≤ 5000) (h : ∀ a, Φ (.obj a) ((a, .list (l.map fun c => .str (sl [c]))) :: σ)) : CL G n (.type "list") [.str (sl l)] σ Φ := by
  intro τ A s Z E Q vs hR hS hv hQ
  obtain ⟨v, rfl, ha⟩ := vr1 hv
  cases ha
  rename_i t
  refine tkw (call_list_str hR.1 (sl l) t (fun h' tk acc c' kk e it (hle : s.toks ≤ tk) => ?_) (by rw [sizeLine_eq]; simp [sl]; omega))
  refine hQ Z _ _ _ _ (str Z) (hS.add kk tk (size_none _) e ?_) (.obj _) (h _)
  refine ⟨acc, c', rfl, vrs_of_items ?_ fun i d v hd hv => ?_⟩
  · simpa [sl] using it.1.symm
  · obtain ⟨c, u, hc, rfl⟩ := it.2 i v (by simpa using hv)
    have hc' : l[i]? = some c := by simpa [sl] using hc
    simp only [List.getElem?_map, hc', Option.map_some, Option.some.injEq] at hd
    subst hd; exact .str _ _
end
end Mine
namespace Mine
theorem W1.perm {α β : Type} {G : Gl} {n : Nat} {rel : Heap → β → α → Prop} {t : Value → Sem α} {a : D} {σ ρ : Led} {Φ : β → Led → Prop} (p : ρ.Perm σ) (h : W1 G n rel t a ρ Φ) : W1 G n rel t a σ Φ :=
  fun τ A s Z E Q v hR hS hv hQ => h τ A s Z E Q v hR (hS.perm (p.append_right τ)) hv hQ
theorem CLc.frame {G : Gl} {n : Nat} {f : Value} {ds : List D} {σ ρ : Led} {Φ : D → Led → Prop} (h : CLc G n f ds σ fun d σ' => Φ d (σ' ++ ρ)) : CLc G n f ds (σ ++ ρ) Φ :=
  fun τ A s Z R vs hR hS hv hQ => h (ρ ++ τ) A s Z R vs hR (by rwa [List.append_assoc] at hS) hv fun Z' d σ' v s' a b c p => hQ Z' d (σ' ++ ρ) v s' a (by rwa [List.append_assoc]) c p
theorem CLc.perm {G : Gl} {n : Nat} {f : Value} {ds : List D} {σ ρ : Led} {Φ : D → Led → Prop} (p : ρ.Perm σ) (h : CLc G n f ds ρ Φ) : CLc G n f ds σ Φ :=
  fun τ A s Z R vs hR hS hv hQ => h τ A s Z R vs hR (hS.perm (p.append_right τ)) hv hQ
theorem CLc.permTo {G : Gl} {n : Nat} {f : Value} {ds : List D} {σ : Led} {Φ Ψ : D → Led → Prop} (h : CLc G n f ds σ Φ) (k : ∀ d σ', Φ d σ' → ∃ σ'', σ''.Perm σ' ∧ Ψ d σ'') : CLc G n f ds σ Ψ :=
  fun τ A s Z R vs hR hS hv hQ => h τ A s Z R vs hR hS hv fun Z' d σ' v s' a b c p => by
    obtain ⟨σ'', q, r⟩ := k _ _ p
    exact hQ Z' d σ'' v s' a (b.perm (q.append_right τ)) c r
theorem CL.permTo {G : Gl} {n : Nat} {f : Value} {ds : List D} {σ : Led} {Φ Ψ : D → Led → Prop} (h : CL G n f ds σ Φ) (k : ∀ d σ', Φ d σ' → ∃ σ'', σ''.Perm σ' ∧ Ψ d σ'') : CL G n f ds σ Ψ :=
  fun τ A s Z E Q vs hR hS hv hQ => h τ A s Z E Q vs hR hS hv fun Z' d σ' v s' a b c p => by
    obtain ⟨σ'', q, r⟩ := k _ _ p
    exact hQ Z' d σ'' v s' a (b.perm (q.append_right τ)) c r
def Attrs (K : Frag) (C : Addr) (names : List Str) : Prop := ∀ x ∈ names, findIn K (.ref C) x = some none ∧ takerIn K C x = some none
section
variable {G : Gl} {n : Nat} {σ : Led} {Φ : D → Led → Prop} {Ψ : Led → Prop} {x dx C : Addr} {m : List (Str × Option D)} {k : Nat} {name : Str} {names : List Str}
theorem ga_at {d : D} (P : PlainCls G.K C) (PA : Attrs G.K C names) (hx : name ∈ names) (h1 : (x, Cell.raw (instObj C dx)) ∈ σ) (h2 : (dx, Cell.dct m k) ∈ σ) (h3 : (name, some d) ∈ m) (hh : handD d = true) (h : Φ d σ) : GA G n name (.obj x) σ Φ :=
  ga_own P (PA _ hx).1 h1 h2 h3 hh h
theorem sa_upd {d old : D} {σ' : Led} {m' : List (Str × Option D)} (P : PlainCls G.K C) (PA : Attrs G.K C names) (hx : name ∈ names) (h1 : (x, Cell.raw (instObj C dx)) ∈ σ)
    (U : UpdL dx (.dct m k) (.dct m' k) σ σ') (V : UpdN name (some d) m m') (ho : (name, some old) ∈ m) (hsz : k ≤ 1000) (h : Ψ σ') : SA G n name (.obj x) d σ Ψ :=
  sa_own P (PA _ hx).2 h1 U V (.inr ⟨rfl, _, ho⟩) hsz h
theorem sa_new {d : D} {σ' : Led} {m' : List (Str × Option D)} (P : PlainCls G.K C) (PA : Attrs G.K C names) (hx : name ∈ names) (h1 : (x, Cell.raw (instObj C dx)) ∈ σ)
    (U : UpdL dx (.dct m k) (.dct m' (k + 1)) σ σ') (V : UpdN name (some d) m m') (hsz : k + 1 ≤ 1000) (h : Ψ σ') : SA G n name (.obj x) d σ Ψ :=
  sa_own P (PA _ hx).2 h1 U V (.inl rfl) hsz h
end
inductive Pick (a : Addr × Cell) : Led → Led → Prop
  | head (l : Led) : Pick a (a :: l) l
  | tail (b : Addr × Cell) {l l' : Led} (h : Pick a l l') : Pick a (b :: l) (b :: l')
theorem Pick.perm {a : Addr × Cell} : ∀ {l l' : Led}, Pick a l l' → (a :: l').Perm l
  | _, _, .head _ => .refl _
  | _, _, .tail b h => (List.Perm.swap _ _ _).trans (.cons b h.perm)
def SubP (σ' σ : Led) : Prop := ∃ l : Led, l.Perm σ' ∧ l.Sublist σ
theorem subp_nil (σ : Led) : SubP [] σ := ⟨[], .refl _, List.nil_sublist _⟩
theorem SubP.perm {σ' σ ρ : Led} (h : SubP σ' σ) (p : σ.Perm ρ) : SubP σ' ρ := by
  obtain ⟨l, a, b⟩ := h
  obtain ⟨l', c, d⟩ := List.exists_perm_sublist b p
  exact ⟨l', c.trans a, d⟩
theorem subp_cons {a : Addr × Cell} {xs σ σ₁ : Led} (h : Pick a σ σ₁) (t : SubP xs σ₁) : SubP (a :: xs) σ := by
  obtain ⟨l, p, s⟩ := t
  exact SubP.perm ⟨a :: l, .cons a p, .cons_cons a s⟩ h.perm
theorem retp {Φ : D → Led → Prop} {d : D} {σ σ' : Led} (h : SubP σ' σ) (p : Φ d σ') : RetK (fun d σ₁ => ∃ σ₂, σ₂.Perm σ₁ ∧ Φ d σ₂) (.ret d) σ := by
  obtain ⟨l, hp, hs⟩ := h
  exact ⟨l, hs, σ', hp.symm, p⟩
theorem clc_lam' {G : Gl} {n : Nat} {σ : Led} {Φ : D → Led → Prop} {f c' : Addr} {name qual : Str} {params : Arguments} {body : Expr} {scope : Scope} {clos cs : List (Str × Addr)} {pm ctv : Value} {oc lamO : Obj} {vs : Array Value} {t : Tok} {ds : List D} (bs : List (Str × D)) (more : List Str)
    (hlo : kla_obj name qual params body scope clos pm c' ctv = lamO) (h1 : (f, Cell.raw lamO) ∈ σ) (h2 : (c', Cell.raw oc) ∈ σ) (hoc : oc.data = .fields vs) (hvs : vs[1]? = some (.str qual t))
    (hco : scope.isCoroutine = false) (hgen : scope.isGenerator = false) (hkind : scope.kind = .function)
    (hcell : scope.names.all (fun p => p.2 != .cell) = true) (hcs : ∀ p ∈ cs, clos.lookup p.1 = some p.2)
    (hn : (scope.names.map (·.1)).Nodup) (hd : scope.names.all (fun p => !(p.1 == ("__debug__" : Str)) && !(p.1 == ("__classdict__" : Str))) = true)
    (hm : ((bs.map (·.1)) ++ more).Nodup) (hl : (bs.all fun p => scope.names.lookup p.1 == some .local) = true)
    (hb : ∀ Z vs, VRs Z ds vs → ∃ ws : List Value, VRs Z (bs.map (·.2)) ws ∧ ∀ M, Looks M G.h₀ (bindArgs (kla_fn name qual params body scope clos pm (.ref c') ctv) ⟨vs, []⟩) ((bs.map (·.1)).zip ws))
    (h : ∀ env L, EnvOK env L scope.names cs → EV G n env body ((L, .ns (nsStart bs more)) :: σ) (RetE Φ)) : CLc G (n + 1) (.ref f) ds σ Φ := by
  subst hlo
  exact clc_lam bs more h1 h2 hoc hvs hco hgen hkind hcell hcs hn hd hm hl hb h
end Mine
namespace Mine
def isWs (c : Nat) : Bool := c == 10 || c == 9 || c == 13 || c == 32
def unq : List Nat → List Nat → Option (List Nat × List Nat)
  | _, [] => none
  | acc, c :: r => if isWs c then some (acc, r) else if c = 92 then (match r with | [] => none | e :: r' => unq (acc ++ [e]) r') else unq (acc ++ [c]) r
termination_by _ l => l.length
decreasing_by all_goals (simp_all; try omega)
def quo : List Nat → List Nat → Option (List Nat × List Nat)
  | _, [] => none
  | acc, c :: r => if c = 34 then some (acc, r) else if c = 92 then (match r with | [] => none | e :: r' => quo (acc ++ [e]) r') else quo (acc ++ [c]) r
termination_by _ l => l.length
decreasing_by all_goals (simp_all; try omega)
def tokF : List Nat → Option (List Nat × List Nat)
  | [] => some ([], [])
  | c :: r => if isWs c then tokF r else if c = 34 then quo [] r else if c = 92 then (match r with | [] => none | e :: r' => unq [e] r') else unq [c] r
theorem ws_contains (c : Nat) : Txt.contains (Str.ofString "\n\t\u000d ") (sl [c]) = isWs c := by
  have h : Txt.contains (Str.ofString "\n\t\u000d ") (sl [c]) = decide (c ∈ (Str.ofString "\n\t\u000d ").cps.toList) := StrLaws.found_one _ c
  rw [h, show (Str.ofString "\n\t\u000d ").cps.toList = [10, 9, 13, 32] by decide +kernel, isWs]
  by_cases h1 : c = 10 <;> by_cases h2 : c = 9 <;> by_cases h3 : c = 13 <;> by_cases h4 : c = 32 <;> simp_all
theorem quo_cons (acc : List Nat) (c : Nat) (r : List Nat) : quo acc (c :: r) = if c = 34 then some (acc, r) else if c = 92 then (match r with | [] => none | e :: r' => quo (acc ++ [e]) r') else quo (acc ++ [c]) r := by rw [quo.eq_def acc (c :: r)]
theorem unq_cons (acc : List Nat) (c : Nat) (r : List Nat) : unq acc (c :: r) = if isWs c then some (acc, r) else if c = 92 then (match r with | [] => none | e :: r' => unq (acc ++ [e]) r') else unq (acc ++ [c]) r := by rw [unq.eq_def acc (c :: r)]
theorem unq_nil (acc : List Nat) : unq acc [] = none := by rw [unq]
theorem quo_nil (acc : List Nat) : quo acc [] = none := by rw [quo]
theorem tokF_nil : tokF [] = some ([], []) := by rw [tokF.eq_def]
theorem tokF_cons (c : Nat) (r : List Nat) : tokF (c :: r) = if isWs c then tokF r else if c = 34 then quo [] r else if c = 92 then (match r with | [] => none | e :: r' => unq [e] r') else unq [c] r := by rw [tokF.eq_def]
end Mine
namespace Mine
theorem intsAre_of {Z : Heap} {ns : List Int} {vs : List Value} (h : VRs Z (ns.map D.int) vs) : IntsAre vs ns := by
  induction ns generalizing vs with
  | nil => cases h; exact .nil
  | cons n ns ih => cases h; rename_i h t; cases h; exact .cons _ _ (ih t)
theorem vrs_ints {Z : Heap} : ∀ {vs : List Value} {ns : List Int}, IntsAre vs ns → VRs Z (ns.map D.int) vs
  | _, _, .nil => .nil
  | _, _, .cons n t r => .cons (.int n t) (vrs_ints r)
section
variable {G : Gl} {n : Nat} {env : Env} {L : Addr} {σ : Led} {Φ : D → Led → Prop}
theorem cl_sum {d : D} {ns : List Int} (hd : SeqIs σ d (ns.map D.int)) (h : Φ (.int ns.sum) σ) : CL G n (.builtin "sum") [d] σ Φ := by
  intro τ A s Z E Q vs hR hS hv hQ
  obtain ⟨v, rfl, ha⟩ := vr1 hv
  obtain ⟨a, ws, rfl, hl, r⟩ := hd.here hS ha
  have hi := intsAre_of r
  obtain ⟨xs, e⟩ := hi.allInts.items
  have hns : ns = xs.toList.map (·.1) := by
    have := hi.numsOf
    rw [← this]
    rw [← nums_intItems]
    congr 1
    have e' : ws = intItems xs := by simpa using e
    rw [e']
  have e' : ws = intItems xs := by simpa using e
  subst e'
  refine tkw (sum_intListG hR.1 hl fun h' tk t' hk (hle : s.toks ≤ tk) => ?_)
  rw [PySem.preSum_eq, List.take_of_length_le (by simp), ← hns]
  exact hQ Z _ σ _ _ (str Z) (hS.grow hk tk) (.int _ _) h
theorem cl_min_list {d : D} {ns : List Int} {m : List (Str × Option D)} (hd : SeqIs σ d (ns.map D.int)) (hm : (L, Cell.ns m) ∈ σ) (hne : 0 < ns.length) (h : ∀ M, M ∈ ns → (∀ a ∈ ns, M ≤ a) → Φ (.int M) σ) : CL G n (.builtin "min") [d] σ Φ := by
  intro τ A s Z E Q vs hR hS hv hQ
  obtain ⟨v, rfl, ha⟩ := vr1 hv
  obtain ⟨a, ws, rfl, hl, r⟩ := hd.here hS ha
  have hi := intsAre_of r
  obtain ⟨mm, F, N, back⟩ := hS.via (List.mem_append_left τ hm)
  refine tkw (min_list_N hR.1 F N (by simpa using hl) hi hne fun h' M t tk F' N' h1 h2 (hle : s.toks ≤ tk) => ?_)
  obtain ⟨Z', k, S', _⟩ := back h' tk F' N' hle
  exact hQ Z' _ σ _ _ k S' (.int _ _) (h M h1 h2)
theorem cl_sorted {d : D} {ns : List Int} {m : List (Str × Option D)} (hd : SeqIs σ d (ns.map D.int)) (hm : (L, Cell.ns m) ∈ σ) (h64 : ns.length < 64) (h : ∀ ns' : List Int, ns'.Perm ns → ns'.Pairwise (· ≤ ·) → Φ (.lst (ns'.map D.int)) σ) : CL G n (.builtin "sorted") [d] σ Φ := by
  intro τ A s Z E Q vs hR hS hv hQ
  obtain ⟨v, rfl, ha⟩ := vr1 hv
  obtain ⟨a, ws, rfl, hl, r⟩ := hd.here hS ha
  have hlen := r.length
  simp only [List.length_map] at hlen
  have hi := intsAre_of r
  obtain ⟨mm, F, N, back⟩ := hS.via (List.mem_append_left τ hm)
  refine sorted_N (vs := ws.toList) (ns := ns) F N (by simpa using hl) hi (by kt_len) fun h' vs' ns' e F' N' hI' hp hs => ?_
  obtain ⟨Z', k, S', f⟩ := back h' s.toks F' (fun p hp => N' p (.tail _ hp)) (Nat.le_refl _)
  refine hQ Z' _ σ _ _ k S' (.lst (vs := vs'.toArray) ⟨_, f _ _ (N' _ (.head _)).1 ?_, rfl, _, rfl⟩ (by simpa using vrs_ints hI')) (h ns' hp hs)
  cases e : s.heap.get? (s.heap.objs.size + 1) with
  | none => rfl
  | some o => exact absurd (Heap.lt_size e) (Nat.not_lt.mpr (Nat.le_succ _))
end
end Mine
namespace Mine
theorem cutL_to {α : Type} (xs : List α) (k : Nat) : cutL xs none (some (k : Int)) = xs.take k := by
  unfold cutL cutA cutB
  simp only [List.drop_zero]
  rw [if_neg (by kt_len), show (max 0 (min (k : Int) xs.length)).toNat - 0 = min k xs.length by kt_len]
  by_cases h : k ≤ xs.length
  · rw [Nat.min_eq_left h]
  · rw [Nat.min_eq_right (by kt_len), List.take_of_length_le (by kt_len), List.take_of_length_le (by kt_len)]
theorem cutL_from {α : Type} (xs : List α) (k : Nat) : cutL xs (some (k : Int)) none = xs.drop k := by
  unfold cutL cutA cutB
  dsimp only
  rw [if_neg (by kt_len), show (max 0 (min (k : Int) xs.length)).toNat = min k xs.length by kt_len]
  by_cases h : k ≤ xs.length
  · rw [Nat.min_eq_left h, List.take_of_length_le (by simp)]
  · rw [Nat.min_eq_right (by kt_len), List.drop_of_length_le (Nat.le_refl _), List.drop_of_length_le (by kt_len), List.take_nil]
section
variable {G : Gl} {n : Nat} {σ : Led} {Φ : D → Led → Prop}
theorem sl_to {d : D} {xs : List D} (k : Nat) (hd : SeqIs σ d xs) (hx : xs.length ≤ 1000) (h : Φ (.lst (xs.take k)) σ) : SL G n d .none (.int k) σ Φ :=
  sl_list hd .none (.int _) (by rw [sizeLine_eq]; omega) (by rw [cutL_to]; exact h)
theorem sl_from {d : D} {xs : List D} (k : Nat) (hd : SeqIs σ d xs) (hx : xs.length ≤ 1000) (h : Φ (.lst (xs.drop k)) σ) : SL G n d (.int k) .none σ Φ :=
  sl_list hd (.int _) .none (by rw [sizeLine_eq]; omega) (by rw [cutL_from]; exact h)
theorem gi_lst {d x : D} {xs : List D} {i : Int} (k : Nat) (hd : SeqIs σ d xs) (hi : i = k) (hk : k < 1000) (hx : xs[k]? = some x) (h : Φ x σ) : GI G n d (.int i) σ Φ := by
  subst hi
  exact gi_list hd (by kt_len) (by simpa using hx) (by kt_len) h
end
end Mine
namespace Mine
theorem newEnv_tok {M : Model} {A : Around} {E : Value → Shared → Prop} {s : Shared} {scope : Scope} {globals : Addr} {n : Str} {v : Value} {qual : Str} {func : Option Addr} {code : Value} {builtins : Addr} {Q : Env → Shared → Prop}
    (hk : scope.kind = .function) (hl : scope.names.lookup n = some .local)
    (hQ : ∀ env, env = newEnv scope s.heap.objs.size globals (cellsFrom (s.heap.objs.size + 1) scope.names []) qual func code none builtins →
      ∀ s', InCallC s env.locals (bindL env.kindOf [(n, v)] fun _ => none) env.cells (bindC env.kindOf [(n, v)] fun _ => none) s' → s.toks < s'.toks → Q env s') :
    wpAny M A (newFunctionEnv scope globals [] [(n, v)] qual func code none builtins) Q E s := by
  simp only [newFunctionEnv, Option.isSome_none, Bool.false_eq_true, if_false]
  refine wpAny_bind (wpAny_alloc ?_)
  refine wpAny_bind (wpAny_layCells _ (fun name kind cells => by cases hkc : kind == NameKind.cell <;> simp [hkc]) _ _ _ _ ?_)
  have ok := cellsFrom_ok scope.names (s.heap.push { cls := .type "frame", data := .dict #[] }) (s.heap.objs.size + 1) [] ⟨fun _ _ hm => (nomatch hm), List.Pairwise.nil⟩ (by rw [Heap.size_push]; exact Nat.le_refl _)
  rw [Heap.size_push] at ok
  rw [show ({ s with heap := s.heap.push { cls := .type "frame", data := .dict #[] } } : Shared).heap.objs.size = s.heap.objs.size + 1 from Heap.size_push ..]
  let env : Env := newEnv scope s.heap.objs.size globals (cellsFrom (s.heap.objs.size + 1) scope.names []) qual func code none builtins
  have hl' : env.kindOf n = some .local := hl
  have x : InCallC s env.locals (fun _ => none) env.cells (fun _ => none) { s with heap := pushCells (s.heap.push { cls := .type "frame", data := .dict #[] }) scope.names } := ⟨⟨⟨_, _, rfl⟩, (Heap.Ns.new s.heap (.type "frame")).keeps (pushCells_keeps _ _), fun b o e => pushCells_keeps _ _ b o (Heap.get?_push_of_some _ e), Nat.le_refl _⟩,
      fun n c hc => (ok.empty n c (mem_of_lookup hc)).1, ok.apart, fun n c hm => (ok.empty n c hm).2⟩
  refine wpAny_bind ?_
  rw [List.forIn_cons]
  refine wpAny_bind (wpAny_bind (wpAny_storeName_local hl' x.toInCall.ns (fun h' hn' hs' => wpAny_pure ?_) ?_))
  · dsimp only
    rw [List.forIn_nil]
    refine wpAny_pure (wpAny_pure (hQ _ rfl _ ?_ (Nat.lt_succ_self _)))
    unfold bindL bindC
    rw [if_pos hl', if_pos hl']
    refine ⟨⟨?_, hn', fun b o e => ?_, x.toInCall.fresh⟩, fun k c hc => ?_, x.apart, x.above⟩
    · exact ⟨h', _, rfl⟩
    · exact hs'.extBut b o (Nat.ne_of_lt (Nat.lt_of_lt_of_le (Heap.lt_size e) x.toInCall.fresh)) (x.toInCall.keep b o e)
    · exact (x.cell k c hc).sameBut hs' (Nat.ne_of_gt (x.above k c (PySem.mem_of_lookup hc)))
  · show (scope.kind == .class || (scope.kind == .module && _)) = false
    rw [hk]; rfl
def CLc0 (G : Gl) (n : Nat) (f : Value) (ds : List D) (σ : Led) (Φ : D → Led → Prop) : Prop :=
  ∀ (τ : Led) (A : Around) (s : Shared) (Z : Heap) (R : Result → Shared → Prop) (vs : List Value), Room n A → (∀ t, 0 < t → St G Z (σ ++ τ) { s with toks := t }) → VRs Z ds vs →
    (∀ Z' d σ' v s', Z.StaysIn Z' → St G Z' (σ' ++ τ) s' → VR Z' d v → Φ d σ' → R (.ok (.ret v)) s') → codeAny (model G.prog G.w) A (.call f ⟨vs, []⟩) R s
theorem clc_def0 {G : Gl} {n : Nat} {f : Addr} {fd : FuncData} {body : List Stmt} {ds : List D} {σ : Led} {Φ : D → Led → Prop} {x₀ : Str} {d₀ : D} (Df : DefOf G f fd body)
    (hclo : fd.closure = []) (hn : (fd.scope.names.map (·.1)).Nodup) (hd : fd.scope.names.all (fun p => !(p.1 == ("__debug__" : Str)) && !(p.1 == ("__classdict__" : Str))) = true)
    (hl : fd.scope.names.lookup x₀ = some .local)
    (hb : ∀ Z vs, VRs Z ds vs → ∃ ws : List Value, VRs Z [d₀] ws ∧ ∀ M, Looks M G.h₀ (bindArgs fd ⟨vs, []⟩) (([x₀] : List Str).zip ws))
    (h : ∀ env L, EnvOK env L fd.scope.names (cellsFrom (L + 1) fd.scope.names []) → env.code = fd.code → XS G n env body ((L, .ns (lnsOf fd.scope.names [(x₀, d₀)])) :: (cellsOf fd.scope.names L [(x₀, d₀)] ++ σ)) (RetK Φ)) : CLc0 G (n + 1) (.ref f) ds σ Φ := by
  intro τ A s Z R vs hR hS0 hv hQ
  have hS := hS0 1 (by decide)
  let bs : List (Str × D) := [(x₀, d₀)]
  have hm : (bs.map (·.1)).Nodup := by simp [bs]
  obtain ⟨o, ho, hdat⟩ := Df.at_
  obtain ⟨ws, hws, hlook⟩ := hb Z vs hv
  have k0 : G.h₀.StaysIn s.heap := stt hS.base hS.zin
  obtain ⟨v₀, rfl, hv₀⟩ := vr1 hws
  have hzip : (bs.map (·.1)).zip [v₀] = [(x₀, v₀)] := rfl
  refine (codeAny_call_function (by have := hR.2.1; omega) (k0 _ _ ho) hdat Df.co Df.gen Df.body (Df.code.keeps k0) (((hlook _).keeps k0).here ?_))
  rw [hclo]
  refine newEnv_tok Df.kind hl fun env he s' x htk0 => ?_
  have htk : s.toks ≤ s'.toks := Nat.le_of_lt htk0
  have hS := hS0 s'.toks (Nat.lt_of_le_of_lt (Nat.zero_le _) htk0)
  obtain ⟨h₁, tk, hs', hk₁⟩ := x.done
  have hL : env.locals = s.heap.objs.size := by rw [he]; rfl
  have hC : env.cells = cellsFrom (s.heap.objs.size + 1) fd.scope.names [] := by rw [he]; rfl
  have hK : ∀ y, env.kindOf y = fd.scope.names.lookup y := fun y => by rw [he]; rfl
  have O : EnvOK env s.heap.objs.size fd.scope.names (cellsFrom (s.heap.objs.size + 1) fd.scope.names []) := {
    loc := hL
    kind := by rw [he]; exact Df.kind
    glo := by rw [he]; exact Df.glo
    bui := by rw [he]; exact Df.bui
    k := fun p hp => by
      have : env.kindOf p.1 = some p.2 := (hK _).trans (lookup_nd hp hn)
      rw [this]
      exact ⟨fun e => by rw [e], fun e => e.imp (fun e => by rw [e]) fun e => by rw [e], fun e => by rw [e]⟩
    kc := fun p hp e => by
      have : env.kindOf p.1 = some p.2 := (hK _).trans (lookup_nd hp hn)
      rw [this, e]
    nd := fun p hp => by
      have := List.all_eq_true.mp hd p hp
      simpa using this
    cs := fun p hp => by rw [hC]; exact lookup_nd hp (cellsFrom_nodup hn) }
  have hz : ([(x₀, v₀)] : List (Str × Value)).map (·.1) |>.Nodup := by simp [bs]
  refine ⟨(G.lim.keeps k0).keeps x.toInCall.keep, codeAny_func ?_⟩
  subst hs'
  have ens := x.toInCall.ns
  rw [hL] at ens
  obtain ⟨oN, eN, cN⟩ := ns_cell (Z := Z) ens (m := lnsOf fd.scope.names bs) (by
      unfold lnsOf
      rw [List.map_map]
      exact (List.Sublist.map _ List.filter_sublist).nodup hn) (fun p hp => by
      unfold lnsOf at hp
      obtain ⟨⟨y, k⟩, hq, rfl⟩ := List.mem_map.mp hp
      obtain ⟨h1, h2⟩ := List.mem_filter.mp hq
      have hy : env.kindOf y = some .local := by rw [hK, ← eq_of_beq h2]; exact lookup_nd h1 hn
      dsimp only
      rw [bindL_eq _ hy _ _ hz]
      have : OR Z (([(x₀, d₀)] : List (Str × D)).lookup y) (([(x₀, v₀)] : List (Str × Value)).lookup y) := zip_lookup (bs := [(x₀, d₀)]) (ws := [v₀]) hws y
      cases e : ([(x₀, v₀)] : List (Str × Value)).lookup y with
      | some v => rw [e] at this; exact this
      | none => rw [e] at this; exact this)
  have S1 := hS.addAll (h' := h₁) hk₁ tk (Nat.le_refl _) ((s.heap.objs.size, .ns (lnsOf fd.scope.names [(x₀, d₀)])) :: cellsOf fd.scope.names s.heap.objs.size [(x₀, d₀)]) (by
      have ab := x.above
      rw [hL, hC] at ab
      rw [List.map_cons]
      refine List.nodup_cons.mpr ⟨fun hm => ?_, ?_⟩
      · obtain ⟨p, hp, e⟩ := List.mem_map.mp hm
        obtain ⟨⟨y, c⟩, hq, rfl⟩ := List.mem_map.mp hp
        dsimp only at e
        exact absurd (e ▸ ab y c hq) (Nat.lt_irrefl _)
      · unfold cellsOf
        rw [List.map_map]
        exact cellsFrom_apart fd.scope.names _ [] (fun _ h => absurd h List.not_mem_nil) .nil) (fun p hp => by
      have ab := x.above
      rw [hL, hC] at ab
      rcases List.mem_cons.mp hp with rfl | hp
      · exact size_none _
      · obtain ⟨⟨y, c⟩, hq, rfl⟩ := List.mem_map.mp hp
        dsimp only
        cases e : s.heap.get? c with
        | none => rfl
        | some o' => exact absurd (Nat.lt_trans (Heap.lt_size e) (ab y c hq)) (Nat.lt_irrefl _)) (fun p hp => by
      rcases List.mem_cons.mp hp with rfl | hp
      · exact ⟨oN, eN, cN⟩
      · obtain ⟨⟨y, c⟩, hq, rfl⟩ := List.mem_map.mp hp
        have hcell := x.cell y c (by rw [hC]; exact lookup_nd hq (cellsFrom_nodup hn))
        obtain ⟨oc, ec, hdc⟩ := hcell
        have hy : env.kindOf y ≠ some .local := by rw [hK, lookup_nd (cellsFrom_kind hq) hn]; exact fun h => nomatch h
        refine ⟨oc, ec, _, hdc, ?_⟩
        rw [bindC_eq _ hy _ _ hz]
        have : OR Z (([(x₀, d₀)] : List (Str × D)).lookup y) (([(x₀, v₀)] : List (Str × Value)).lookup y) := zip_lookup (bs := [(x₀, d₀)]) (ws := [v₀]) hws y
        cases e : ([(x₀, v₀)] : List (Str × Value)).lookup y with
        | some v => rw [e] at this; exact this
        | none => rw [e] at this; exact this)
  refine wpAny_mono (h _ _ O (by rw [he]; rfl) τ (A.deeper _) _ Z (fun _ _ => False) (fun fl s' => R (.ok (.ret (match fl with | .ret v => v | _ => .none))) s') (hR.deeper _) (by simpa using S1) fun Z' fl σ' v s' k' S' r' p' => ?_) (fun _ _ x => x) fun _ _ x => x.elim
  obtain ⟨σ'', hsub, hp⟩ := p'
  have S'' := S'.sub (hsub.append_right τ)
  cases r' with
  | next => exact hQ Z' _ _ _ s' k' S'' .none hp
  | brk => exact hQ Z' _ _ _ s' k' S'' .none hp
  | cont => exact hQ Z' _ _ _ s' k' S'' .none hp
  | ret hd => exact hQ Z' _ _ _ s' k' S'' hd hp
end Mine
namespace Mine
theorem law_run {prog : Program} {w : World} {s₁ : Shared} {mg mb : Str → Option Value} {K : Frag} {p : Program} {loose : List Str} {mean : ExcName → Option Value} {f c P l : Addr} {vs : List Value} {xs : List Int}
    (T : Top p loose mean mg mb s₁.heap) (KX : K.In s₁.heap) (hK : noTabs K = true) (hT9 : TabsAt [(c, P)] s₁.heap) (h2 : K.lookup 2 = some { cls := .none, data := .dict #[] })
    (hL : s₁.heap.IsList l vs.toArray) (hI : IntsAre vs xs)
    (run : ∀ G : Gl, G.K = K → G.w = w → CodeHd G.h₀ c P → CLc0 G 9 (.ref f) [.lst (xs.map D.int)] [(P, .raw (tabObj #[]))] fun d σ' => d = .bool true ∧ ∃ ps, σ' = [(P, .raw (tabObj ps))])
    {R : Result → Shared → Prop} (hR : ∀ s', (∀ b o, (ghostOf s₁.heap [(c, P)]).get? b = some o → s'.heap.get? b = some o) → s'.os = s₁.os → s'.gens = s₁.gens → GrownAll [(c, P)] s'.heap → R (.ok (.ret (.bool true))) s') :
    codeAny (model prog w) callerA (.call (.ref f) ⟨[.ref l], []⟩) R s₁ := by
  have GT := ghost_top hT9 T
  have kin := ghost_K hT9 KX hK
  have cd := (ghost_code hT9).1
  have hnb : NoneBooked (ghostOf s₁.heap [(c, P)]) := by
    refine ⟨fun _ => none, ⟨_, #[], 0, kin _ _ h2, rfl, ?_, fun _ => rfl⟩, rfl⟩
    intro e he
    simp at he
  let G : Gl := ⟨prog, w, ghostOf s₁.heap [(c, P)], s₁.os, s₁.gens, mg, GT.g, mb, GT.b, GT.nolimit, K, kin, GT.builtins, hnb, GT.bmain⟩
  have hq := (hT9 _ (.head _)).2
  have hl : (ghostOf s₁.heap [(c, P)]).IsList l vs.toArray := ghost_list hT9 hL
  refine run G rfl rfl cd [] callerA s₁ (ghostOf s₁.heap [(c, P)]) R [.ref l] ⟨rfl, by decide, by decide⟩ (fun t ht => ?_) (.cons (.lst hl (by simpa using vrs_ints hI)) .nil) fun Z' d σ' v s' k S' r ⟨e1, ps, e2⟩ => ?_
  · refine ⟨fun b o e => of_hideAll _ e, fun b o e => e, by simp, fun q hq' => ?_, fun q hq' => ?_, rfl, rfl, ht⟩
    · rcases List.mem_cons.mp hq' with rfl | hq'
      · exact hideAll_none _ (by simp)
      · cases hq'
    · rcases List.mem_cons.mp hq' with rfl | hq'
      · exact ⟨_, hq, rfl⟩
      · cases hq'
  · subst e1; subst e2
    cases r
    refine hR s' (fun b o e => S'.zin _ _ (k _ _ e)) S'.os S'.gens ⟨?_, trivial⟩
    obtain ⟨o, e, h⟩ := S'.cells _ (.head _)
    have h' : o = tabObj ps := h
    subst h'
    exact ⟨ps, e⟩
end Mine
namespace Mine
def CLkw (G : Gl) (n : Nat) (f : Value) (ds : List D) (nm : Str) (d : D) (σ : Led) (Φ : D → Led → Prop) : Prop :=
  ∀ (τ : Led) (A : Around) (s : Shared) (Z : Heap) (E : Value → Shared → Prop) (Q : Value → Shared → Prop) (vs : List Value) (v : Value), Room n A → St G Z (σ ++ τ) s → VRs Z ds vs → VR Z d v →
    (∀ Z' d σ' v s', Z.StaysIn Z' → St G Z' (σ' ++ τ) s' → VR Z' d v → Φ d σ' → Q v s') → wpAny (model G.prog G.w) A (call f vs [(nm, v)]) Q E s
theorem CLkw.mono {G : Gl} {n : Nat} {f : Value} {ds : List D} {nm : Str} {d : D} {σ : Led} {Φ Ψ : D → Led → Prop} (h : CLkw G n f ds nm d σ Φ) (k : ∀ d σ', Φ d σ' → Ψ d σ') : CLkw G n f ds nm d σ Ψ :=
  fun τ A s Z E Q vs v hR hS hv hd hQ => h τ A s Z E Q vs v hR hS hv hd fun Z' d σ' v s' a b c p => hQ Z' d σ' v s' a b c (k _ _ p)
theorem CLkw.le {G : Gl} {n m : Nat} {f : Value} {ds : List D} {nm : Str} {d : D} {σ : Led} {Φ : D → Led → Prop} (h : CLkw G m f ds nm d σ Φ) (k : m ≤ n) : CLkw G n f ds nm d σ Φ :=
  fun τ A s Z E Q vs v hR hS hv hd hQ => h τ A s Z E Q vs v (hR.le k) hS hv hd hQ
section
variable {G : Gl} {n : Nat} {env : Env} {σ : Led} {Φ : D → Led → Prop} {pos : Pos}
theorem ev_call_kw {x nm : Str} {p kp : Pos} {e value : Expr} {args : List Expr}
    (h : EV G n env (.Name x p) σ fun f σ₁ => ∃ fv, f.toV = some fv ∧ EVs G n env (e :: args) σ₁ fun ds σ₂ => EV G n env value σ₂ fun d σ₃ => Kp G fv σ₃ ∧ CLkw G n fv ds nm d σ₃ Φ)
    (he : backTo pos (starEach (e :: args) env) = (e :: args).map fun e => (false, eval e env) := by rfl) (hs : starEach (e :: args) env = (false, eval e env) :: starEach args env := by rfl) : EV G n env (.Call (.Name x p) (e :: args) [⟨some nm, value, kp⟩] pos) σ Φ :=
  fun τ A s Z E Q hR hS hQ => wpAny_Call_ofName (h τ A s Z E _ hR hS fun Z1 _ _ v s1 k1 S1 r1 ⟨fv, e1, p1⟩ => by
    rw [toV_eq r1 e1]
    have hp : ∀ l : List Expr, (l.map fun e => (false, eval e env)).any (·.1) = false := fun l => by induction l <;> simp_all
    refine callWith_of (P := KpAt G fv) (by rw [he, hp]; rfl) (fun _ x => x) ?_
    refine evalArgs_kw2 rfl ?_ hs
    rw [he]
    refine p1 τ A s1 Z1 E _ hR S1 fun Z2 ds σ2 vs s2 k2 S2 r2 p2 => ?_
    refine kwAll_cons ?_
    refine p2 τ A s2 Z2 E _ hR S2 fun Z3 d σ3 v3 s3 k3 S3 r3 ⟨p3, p4⟩ => ?_
    refine kwAll_nil ⟨p3 τ _ _ S3, ?_⟩
    exact p4 τ A s3 Z3 E Q vs v3 hR S3 (r2.mono k3) r3 fun Z4 d4 σ4 v4 s4 k4 S4 r4 q4 => hQ Z4 d4 σ4 v4 s4 (stt k1 (stt k2 (stt k3 k4))) S4 r4 q4)
end
theorem cl_def_kw {G : Gl} {n : Nat} {f : Addr} {fd : FuncData} {body : List Stmt} {ds : List D} {nm : Str} {dk : D} {σ : Led} {Φ : D → Led → Prop} {cs : List (Str × Addr)} (bs : List (Str × D)) (more : List Str) (Df : DefOf G f fd body)
    (hcell : fd.scope.names.all (fun p => p.2 != .cell) = true) (hcs : ∀ p ∈ cs, fd.closure.lookup p.1 = some p.2)
    (hn : (fd.scope.names.map (·.1)).Nodup) (hd : fd.scope.names.all (fun p => !(p.1 == ("__debug__" : Str)) && !(p.1 == ("__classdict__" : Str))) = true)
    (hm : ((bs.map (·.1)) ++ more).Nodup) (hl : (bs.all fun p => fd.scope.names.lookup p.1 == some .local) = true)
    (hb : ∀ Z vs v, VRs Z ds vs → VR Z dk v → ∃ ws : List Value, VRs Z (bs.map (·.2)) ws ∧ ∀ M, Looks M G.h₀ (bindArgs fd ⟨vs, [(nm, v)]⟩) ((bs.map (·.1)).zip ws))
    (h : ∀ env L, EnvOK env L fd.scope.names cs → XS G n env body ((L, .ns (nsStart bs more)) :: σ) (RetK Φ)) : CLkw G (n + 1) (.ref f) ds nm dk σ Φ := by
  intro τ A s Z E R vs vk hR hS hv hvk hQ
  obtain ⟨o, ho, hdat⟩ := Df.at_
  obtain ⟨ws, hws, hlook⟩ := hb Z vs vk hv hvk
  have k0 : G.h₀.StaysIn s.heap := stt hS.base hS.zin
  have hlen : (bs.map (·.1)).length = ws.length := by rw [← hws.length]; simp
  refine wpAny_call ?_
  refine (codeAny_call_def (by have := hR.2.1; omega) (k0 _ _ ho) hdat (G.lim.keeps k0) (Df.code.keeps k0) Df.body (fun M _ E Q q => ((hlook M).keeps k0).here q)
    (fun x hx => by have := List.all_eq_true.mp hcell x hx; simpa using this) (fun x hx => ?_) (fun h₁ hns hk₁ => ?_) Df.co Df.gen Df.kind)
  · have hx1 := (List.of_mem_zip (show (x.1, x.2) ∈ _ from hx)).1
    obtain ⟨p, hp, hpe⟩ := List.mem_map.mp hx1
    have := List.all_eq_true.mp hl p hp
    rw [← hpe]; simpa using this
  · have nd1 : (bs.map (·.1)).Nodup := (List.nodup_append.mp hm).1
    have key := nsStart_or (Z := Z) hm hws
    obtain ⟨o1, e1, c1⟩ := ns_cell (Z := Z) hns (m := nsStart bs more) (by simpa [nsStart, Function.comp_def] using hm) key
    have S1 := hS.add hk₁ (s.toks + ((bs.map (·.1)).zip ws).length) (size_none _) e1 c1
    refine wpAny_mono (h _ _ (envOK_call Df.kind Df.glo Df.bui hcs hn hd) τ (A.deeper _) _ Z (fun _ _ => False) _ (hR.deeper _) S1 fun Z' fl σ' v s' k' S' r' p' => ?_) (fun _ _ x => x) fun _ _ x => x.elim
    obtain ⟨σ'', hsub, hp⟩ := p'
    have S'' := S'.sub (hsub.append_right τ)
    cases r' with
    | next => exact hQ Z' _ _ _ s' k' S'' .none hp
    | brk => exact hQ Z' _ _ _ s' k' S'' .none hp
    | cont => exact hQ Z' _ _ _ s' k' S'' .none hp
    | ret hd => exact hQ Z' _ _ _ s' k' S'' hd hp
end Mine
namespace Mine
theorem cellsFrom_app : ∀ (names : List (Str × NameKind)) (n : Nat) (acc : List (Str × Addr)), cellsFrom n names acc = cellsFrom n names [] ++ acc
  | [], _, _ => rfl
  | (x, k) :: r, n, acc => by
    unfold cellsFrom
    split
    · rw [cellsFrom_app r (n + 1) ((x, n) :: acc), cellsFrom_app r (n + 1) [(x, n)], List.append_assoc]; rfl
    · exact cellsFrom_app r n acc
section
variable {G : Gl} {n : Nat} {env : Env} {L : Addr} {ks : List (Str × NameKind)} {cs : List (Str × Addr)} {σ : Led} {Φ : D → Led → Prop} {pos : Pos}
theorem newEnv_comp {M : Model} {A : Around} {E : Value → Shared → Prop} {s : Shared} {scope : Scope} {globals : Addr} {cl : List (Str × Addr)} {qual : Str} {code : Value} {outer : Env} {Q : Env → Shared → Prop} (hk : scope.kind = .function)
    (hQ : Q (newEnv scope s.heap.objs.size globals (cellsFrom (s.heap.objs.size + 1) scope.names [] ++ cl) qual none code (some outer) builtinsNs) { s with heap := pushCells (s.heap.push { cls := .type "dict", data := .dict #[] }) scope.names }) :
    wpAny M A (newFunctionEnv scope globals cl [] qual none code (some outer)) Q E s := by
  simp only [newFunctionEnv, Option.isSome_some, if_true]
  refine wpAny_bind (wpAny_alloc ?_)
  refine wpAny_bind (wpAny_layCells _ (fun name kind cells => by cases hkc : kind == NameKind.cell <;> simp [hkc]) _ _ _ _ ?_)
  rw [show ({ s with heap := s.heap.push { cls := .type "dict", data := .dict #[] } } : Shared).heap.objs.size = s.heap.objs.size + 1 from Heap.size_push .., cellsFrom_app]
  refine wpAny_bind ?_
  rw [List.forIn_nil]
  exact wpAny_pure (wpAny_pure hQ)
theorem compEnvOKC (O : EnvOK env L ks cs) {scope : Scope} {C : Addr} {cl : List (Str × Addr)} (hkind : scope.kind = .function) (hn : (scope.names.map (·.1)).Nodup)
    (hd : scope.names.all (fun p => !(p.1 == ("__debug__" : Str)) && !(p.1 == ("__classdict__" : Str))) = true) (hcl : (cl.map (·.1)).Nodup) : EnvOK (compEnvC scope cl C env) C scope.names cl := by
  have key : ∀ x k, (x, k) ∈ scope.names → (compEnvC scope cl C env).kindOf x = some (if (k == .free && env.scope.kind == .function && env.kindOf x == some .cell) then .cell else k) := fun x k hp => by
    have nd : ((relabel scope env).names.map (·.1)).Nodup := by
      have : (relabel scope env).names.map (·.1) = scope.names.map (·.1) := by
        unfold relabel
        dsimp only
        rw [List.map_map]
        refine List.map_congr_left fun q _ => ?_
        dsimp only [Function.comp]
        split <;> rfl
      rw [this]; exact hn
    refine lookup_nd ?_ nd
    refine List.mem_map.mpr ⟨(x, k), hp, ?_⟩
    dsimp only
    split <;> rfl
  exact {
    loc := rfl
    kind := hkind
    glo := O.glo
    bui := O.bui
    k := fun p hp => by
      obtain ⟨x, k⟩ := p
      dsimp only
      rw [key x k hp]
      refine ⟨fun e => ?_, fun e => ?_, fun e => ?_⟩
      · subst e; rfl
      · rcases e with e | e
        · subst e; exact .inl rfl
        · subst e
          split
          · exact .inl rfl
          · exact .inr rfl
      · subst e; rfl
    kc := fun p hp e => by
      obtain ⟨x, k⟩ := p
      dsimp only at e ⊢
      subst e
      rw [key x _ hp]; rfl
    nd := fun p hp => by
      have := List.all_eq_true.mp hd p hp
      simpa using this
    cs := fun p hp => lookup_nd hp hcl }
theorem comp_coreC {elt target iter : Expr} {ifs : List Expr} {scope : Scope} {cl : List (Str × Addr)} {ipos : Pos} {use : Option (Value → Sem Unit)} {τ : Led} {A : Around} {s : Shared} {Z : Heap} {E : Value → Shared → Prop} {Q : Value → Shared → Prop} {Ψ : List D → Led → Prop}
    (O : EnvOK env L ks cs) (hR : Room n A) (hS : St G Z (σ ++ τ) s)
    (h : EV G n env iter σ fun d σ₁ => ∃ xs, IterOf d xs ∧ xs.length ≤ 1000 ∧ ∀ cenv C, EnvOK cenv C scope.names (cellsFrom (C + 1) scope.names [] ++ cl) →
      CompL G n cenv target ifs elt (fun ds σ₂ => ∃ m σ₃, ((C, Cell.ns m) :: σ₃).Sublist σ₂ ∧ Ψ ds σ₃) xs [] ((C, .ns (compNs scope)) :: (cellsOf scope.names C [] ++ σ₁)))
    (hfin : ∀ Z' ds σ₃ a C m s', Z.StaysIn Z' → St G Z' ((C, .ns m) :: (a, .list ds) :: (σ₃ ++ τ)) s' → Ψ ds σ₃ → compPost (model G.prog G.w) A E use Q (.ref a) C (.ok .next) s')
    (hcl : clOf scope cs = cl) (hfree : scope.names.all (fun p => p.2 != .free || (cs.lookup p.1).isSome) = true) (hkind : scope.kind = .function) (hn : (scope.names.map (·.1)).Nodup)
    (hd : scope.names.all (fun p => !(p.1 == ("__debug__" : Str)) && !(p.1 == ("__classdict__" : Str))) = true) (hcn : (((scope.names.filter fun p => p.2 == .cell).map (·.1)).reverse ++ cl.map (·.1)).Nodup) (hs : ∀ x, foldedSetIterable iter env x = pure x) (hif : ifs.length ≤ 1) :
    wpAny (model G.prog G.w) A (comprehension (.ListComp elt [⟨target, iter, ifs, 0⟩] scope pos) scope env ipos (newList []) false (eval iter env) use) Q E s := by
  have hnames : ∀ x ∈ scope.names, x.2 = .local → scope.names.lookup x.1 = some .local := fun x hx e => by
    obtain ⟨a, b⟩ := x; dsimp only at e; subst e; exact lookup_nd hx hn
  refine wpAny_comprehension_free (use := use) rfl hs ((closure_of O hfree).trans (by rw [hcl])) hkind hnames
    (h τ A s Z _ _ hR hS fun Z1 d σ1 v s1 k1 S1 r1 ⟨xs, hi, hl, p1⟩ => pyIter_of hi S1 r1 fun it s2 S2 => ?_)
  refine wpAny_newObj_type (newEnv_comp hkind ?_)
  dsimp only
  have S3 := S2.add (h' := s2.heap.push { cls := .type "list", data := .seq ([] : List Value).toArray }) (fun _ _ e => Heap.get?_push_of_some _ e) s2.toks (size_none _) (Heap.get?_push_size _ rfl) (show CellR Z1 (.list []) _ from ⟨_, _, rfl, .nil⟩)
  generalize hH2 : s2.heap.push { cls := .type "list", data := .seq ([] : List Value).toArray } = H2 at S3 ⊢
  have ok := cellsFrom_ok scope.names (H2.push { cls := .type "dict", data := .dict #[] }) (H2.objs.size + 1) [] ⟨fun _ _ hm => (nomatch hm), List.Pairwise.nil⟩ (by rw [Heap.size_push]; exact Nat.le_refl _)
  rw [Heap.size_push] at ok
  generalize hh1 : pushCells (H2.push { cls := .type "dict", data := .dict #[] }) scope.names = h₁ at ok ⊢
  have hns₁ : h₁.Ns H2.objs.size (fun _ => none) := by rw [← hh1]; exact (Heap.Ns.new H2 (.type "dict")).keeps (pushCells_keeps _ _)
  have keep : H2.StaysIn h₁ := fun q o eq => by rw [← hh1]; exact pushCells_keeps _ _ _ _ (Heap.get?_push_of_some _ eq)
  obtain ⟨oC, eC, cC⟩ := ns_cell (Z := Z1) hns₁ (m := compNs scope) (by
      unfold compNs
      rw [List.map_map]
      exact (List.Sublist.map _ List.filter_sublist).nodup hn) (fun p hp => by
      unfold compNs at hp
      obtain ⟨q, _, rfl⟩ := List.mem_map.mp hp
      exact .none)
  have S4 := S3.addAll (h' := h₁) keep s2.toks (Nat.le_refl _) ((H2.objs.size, .ns (compNs scope)) :: cellsOf scope.names H2.objs.size []) (by
      rw [List.map_cons]
      refine List.nodup_cons.mpr ⟨fun hm => ?_, ?_⟩
      · obtain ⟨p, hp, e⟩ := List.mem_map.mp hm
        obtain ⟨⟨y, c⟩, hq, rfl⟩ := List.mem_map.mp hp
        dsimp only at e
        have h2 : H2.objs.size + 1 ≤ c := (ok.empty y c hq).2
        exact absurd h2 (by rw [e]; exact Nat.not_succ_le_self _)
      · unfold cellsOf
        rw [List.map_map]
        exact cellsFrom_apart scope.names _ [] (fun _ h => absurd h List.not_mem_nil) .nil) (fun p hp => by
      rcases List.mem_cons.mp hp with rfl | hp
      · exact size_none _
      · obtain ⟨⟨y, c⟩, hq, rfl⟩ := List.mem_map.mp hp
        dsimp only
        cases e : H2.get? c with
        | none => rfl
        | some o' => exact absurd (Nat.lt_of_lt_of_le (Heap.lt_size e) (Nat.le_of_succ_le (ok.empty y c hq).2)) (Nat.lt_irrefl _)) (fun p hp => by
      rcases List.mem_cons.mp hp with rfl | hp
      · exact ⟨oC, eC, cC⟩
      · obtain ⟨⟨y, c⟩, hq, rfl⟩ := List.mem_map.mp hp
        obtain ⟨oc, ec, hdc⟩ := (ok.empty y c hq).1
        exact ⟨oc, ec, _, hdc, .none⟩)
  have S5 := S4.perm (σ' := (it, .iter xs) :: (s2.heap.objs.size, .list []) :: (((H2.objs.size, Cell.ns (compNs scope)) :: (cellsOf scope.names H2.objs.size [] ++ σ1)) ++ τ)) (by
    refine List.Perm.symm ?_
    refine (List.perm_append_comm_assoc (l₁ := (H2.objs.size, Cell.ns (compNs scope)) :: cellsOf scope.names H2.objs.size []) (l₂ := [(s2.heap.objs.size, Cell.list []), (it, Cell.iter xs)]) (l₃ := σ1 ++ τ)).trans ?_
    refine (List.Perm.swap _ _ _).trans ?_
    simp only [List.cons_append, List.nil_append, List.append_assoc]
    exact List.Perm.refl _)
  have O' := compEnvOKC O (C := H2.objs.size) (cl := cellsFrom (H2.objs.size + 1) scope.names [] ++ cl) hkind hn hd (by rw [List.map_append, cellsFrom_keys, List.map_nil, List.append_nil]; exact hcn)
  have loop : codeAny (model G.prog G.w) A (.compLoop (.ListComp elt [⟨target, iter, ifs, 0⟩] scope pos) 0 (.ref it) (.ref s2.heap.objs.size) (compEnvC scope (cellsFrom (H2.objs.size + 1) scope.names [] ++ cl) H2.objs.size env)) (compPost (model G.prog G.w) A E use Q (.ref s2.heap.objs.size) H2.objs.size)
      { s2 with heap := h₁ } := by
    refine comp_loop hR (Z := Z1) (fun ds Z' σ' s' kz S' hp => ?_) hif xs [] _ _ S5 (p1 _ _ O') (by simpa using hl)
    obtain ⟨m, σ₃, hsub, hΦ⟩ := hp
    exact hfin Z' ds σ₃ _ _ m s' (stt k1 kz) ((S'.sub (((hsub.append_right τ).cons_cons _))).perm (σ' := (H2.objs.size, .ns m) :: (s2.heap.objs.size, .list ds) :: (σ₃ ++ τ)) (List.Perm.swap _ _ _)) hΦ
  exact codeAny_compStart_list loop (pyIter_self_of S5 (.head _) loop)
end
end Mine
namespace Mine
structure CompOKC (env : Env) (scope : Scope) (cs cl : List (Str × Addr)) (target iter : Expr) : Prop where
  hcl : clOf scope cs = cl
  hfree : scope.names.all (fun p => p.2 != .free || (cs.lookup p.1).isSome) = true
  hkind : scope.kind = .function
  hn : (scope.names.map (·.1)).Nodup
  hd : scope.names.all (fun p => !(p.1 == ("__debug__" : Str)) && !(p.1 == ("__classdict__" : Str))) = true
  hcn : (((scope.names.filter fun p => p.2 == .cell).map (·.1)).reverse ++ cl.map (·.1)).Nodup
  hs : ∀ x, foldedSetIterable iter env x = pure x
section
variable {G : Gl} {n : Nat} {env : Env} {L : Addr} {ks : List (Str × NameKind)} {cs : List (Str × Addr)} {σ : Led} {Φ : D → Led → Prop} {pos : Pos}
theorem ev_cpCO {elt target iter : Expr} {ifs : List Expr} {scope : Scope} {cl : List (Str × Addr)} (O : EnvOK env L ks cs) (B : CompOKC env scope cs cl target iter)
    (h : EV G n env iter σ fun d σ₁ => ∃ xs, IterOf d xs ∧ xs.length ≤ 1000 ∧ ∀ cenv C, EnvOK cenv C scope.names (cellsFrom (C + 1) scope.names [] ++ cl) →
      CompL G n cenv target ifs elt (fun ds σ₂ => ∃ m σ₃, ((C, Cell.ns m) :: σ₃).Sublist σ₂ ∧ ∀ a, Φ (.obj a) ((a, .list ds) :: σ₃)) xs [] ((C, .ns (compNs scope)) :: (cellsOf scope.names C [] ++ σ₁))) (hif : ifs.length ≤ 1 := by decide) :
    EV G n env (.ListComp elt [⟨target, iter, ifs, 0⟩] scope pos) σ Φ := by
  intro τ A s Z E Q hR hS hQ
  rw [eval_ListComp]
  refine comp_coreC (Ψ := fun ds σ₃ => ∀ a, Φ (.obj a) ((a, .list ds) :: σ₃)) O hR hS h (fun Z' ds σ₃ a C m s' kz S' hp => ?_) B.hcl B.hfree B.hkind B.hn B.hd B.hcn B.hs hif
  obtain ⟨mm, N, _, _⟩ := S'.ns (.head _)
  exact ⟨mm, N, fun h' hs' => hQ _ _ ((a, .list ds) :: σ₃) _ _ kz (S'.dropC hs'.extBut s'.toks) (.obj _) (hp a)⟩
theorem ev_cpC {elt target iter : Expr} {ifs : List Expr} {scope : Scope} {cl : List (Str × Addr)} (O : EnvOK env L ks cs) (B : CompOKC env scope cs cl target iter)
    (h : EV G n env iter σ fun d σ₁ => ∃ xs, IterOf d xs ∧ xs.length ≤ 1000 ∧ ∀ cenv C, EnvOK cenv C scope.names (cellsFrom (C + 1) scope.names [] ++ cl) →
      CompL G n cenv target ifs elt (fun ds σ₂ => ∃ m σ₃, ((C, Cell.ns m) :: σ₃).Sublist σ₂ ∧ Φ (.lst ds) σ₃) xs [] ((C, .ns (compNs scope)) :: (cellsOf scope.names C [] ++ σ₁))) (hif : ifs.length ≤ 1 := by decide) :
    EV G n env (.ListComp elt [⟨target, iter, ifs, 0⟩] scope pos) σ Φ := by
  refine ev_freeze (ev_cpCO O B (h.mono fun d σ₁ ⟨xs, hi, hl, q⟩ => ⟨xs, hi, hl, fun cenv C O' => ?_⟩) hif)
  have e : (fun (ds : List D) (σ₂ : Led) => ∃ m σ₃, ((C, Cell.ns m) :: σ₃).Sublist σ₂ ∧ ∀ a, ∃ a_1 ds_1 σ₂, D.obj a = .obj a_1 ∧ (a, Cell.list ds) :: σ₃ = (a_1, Cell.list ds_1) :: σ₂ ∧ Φ (.lst ds_1) σ₂) = fun ds σ₂ => ∃ m σ₃, ((C, Cell.ns m) :: σ₃).Sublist σ₂ ∧ Φ (.lst ds) σ₃ := by
    funext ds σ₂
    refine propext ⟨fun ⟨m, σ₃, e, f⟩ => ?_, fun ⟨m, σ₃, e, f⟩ => ⟨m, σ₃, e, fun a => ⟨a, ds, σ₃, rfl, rfl, f⟩⟩⟩
    obtain ⟨a, ds', σ', e1, e2, f⟩ := f 0
    cases e2
    exact ⟨m, σ₃, e, f⟩
  rw [e]; exact q cenv C O'
end
end Mine
namespace Mine
section
variable {G : Gl} {n : Nat} {env : Env} {L : Addr} {σ : Led} {Φ : D → Led → Prop}
theorem co_in_ints {b : D} {i : Int} {ns : List Int} (hd : SeqIs σ b (ns.map D.int)) (h : Φ (.bool (ns.any (· == i))) σ) : CO G n .In (.int i) b σ Φ := by
  intro τ A s Z E Q v w hR hS hv hw hQ
  cases hv
  obtain ⟨a, ws, rfl, hl, r⟩ := hd.here hS hw
  exact in_list_ints hl (intsAre_of r) (hQ Z _ σ _ _ (str Z) hS (.bool _) h)
theorem co_notin_ints {b : D} {i : Int} {ns : List Int} (hd : SeqIs σ b (ns.map D.int)) (h : Φ (.bool (!(ns.any (· == i)))) σ) : CO G n .NotIn (.int i) b σ Φ := by
  intro τ A s Z E Q v w hR hS hv hw hQ
  cases hv
  obtain ⟨a, ws, rfl, hl, r⟩ := hd.here hS hw
  exact notin_list_ints hl (intsAre_of r) (hQ Z _ σ _ _ (str Z) hS (.bool _) h)
end
end Mine
namespace Mine
theorem W.freezeCell {α β : Type} {G : Gl} {n : Nat} {rel : Heap → β → α → Prop} {t : Sem α} {σ₁ σ₂ : Led} {a c : Addr} {ds : List D} {Φ : β → Led → Prop}
    (h : W G n rel t (σ₁ ++ (c, .cell (some (.lst ds))) :: σ₂) Φ) : W G n rel t ((a, .list ds) :: (σ₁ ++ (c, .cell (some (.obj a))) :: σ₂)) Φ := by
  intro τ A s Z E Q hR S hQ
  obtain ⟨o, eo, vs, m, rfl, r⟩ := S.cells _ (.head _)
  have S2 : St G Z ((σ₁ ++ (c, .cell (some (.obj a))) :: σ₂) ++ τ) s := S.sub (.cons _ (List.Sublist.refl _))
  have hn : a ∉ ((σ₁ ++ (c, Cell.cell (some (D.obj a))) :: σ₂) ++ τ).map (·.1) := (List.nodup_cons.mp S.nod).1
  have ez := hideAll_get _ eo hn
  have S3 := S2.refresh
  have fz := S2.frozen
  have ek : ((σ₁ ++ (c, Cell.cell (some (D.lst ds))) :: σ₂) ++ τ).map (·.1) = ((σ₁ ++ (c, Cell.cell (some (D.obj a))) :: σ₂) ++ τ).map (·.1) := by simp
  generalize hideAll s.heap (((σ₁ ++ (c, Cell.cell (some (D.obj a))) :: σ₂) ++ τ).map (·.1)) = Z2 at ez S3 fz
  have S4 : St G Z2 ((σ₁ ++ (c, .cell (some (.lst ds))) :: σ₂) ++ τ) s := {
    zin := S3.zin
    base := S3.base
    nod := by rw [ek]; exact S3.nod
    hid := fun p hp => by
      have : p.1 ∈ ((σ₁ ++ (c, Cell.cell (some (D.lst ds))) :: σ₂) ++ τ).map (·.1) := List.mem_map_of_mem hp
      rw [ek] at this
      obtain ⟨q, hq, e⟩ := List.mem_map.mp this
      rw [← e]; exact S3.hid q hq
    cells := fun p hp => by
      by_cases hc : p = (c, Cell.cell (some (D.lst ds)))
      · subst hc
        obtain ⟨o, e, v, hv, hr⟩ := S3.cells (c, .cell (some (.obj a))) (by simp)
        refine ⟨o, e, v, hv, ?_⟩
        cases hr with
        | some hr =>
          cases hr
          exact .some (.lst ⟨_, ez, rfl, _, rfl⟩ (r.mono fz))
      · refine S3.cells p ?_
        simp only [List.mem_append, List.mem_cons] at hp ⊢
        rcases hp with (hp | hp | hp) | hp
        · exact .inl (.inl hp)
        · exact absurd hp hc
        · exact .inl (.inr (.inr hp))
        · exact .inr hp
    os := S3.os
    gens := S3.gens
    pos := S3.pos }
  exact h τ A s Z2 E Q hR S4 fun Z' d σ' v s' k S' rr p => hQ Z' d σ' v s' (stt fz k) S' rr p
end Mine
namespace Mine
theorem W.freezeNs {α β : Type} {G : Gl} {n : Nat} {rel : Heap → β → α → Prop} {t : Sem α} {σ₁ σ₂ : Led} {a L : Addr} {x : Str} {m₁ m₂ : List (Str × Option D)} {ds : List D} {Φ : β → Led → Prop}
    (h : W G n rel t (σ₁ ++ (L, .ns (m₁ ++ (x, some (.lst ds)) :: m₂)) :: σ₂) Φ) : W G n rel t ((a, .list ds) :: (σ₁ ++ (L, .ns (m₁ ++ (x, some (.obj a)) :: m₂)) :: σ₂)) Φ := by
  intro τ A s Z E Q hR S hQ
  obtain ⟨o, eo, vs, m, rfl, r⟩ := S.cells _ (.head _)
  generalize hc₀ : Cell.ns (m₁ ++ (x, some (.obj a)) :: m₂) = c₀ at S
  generalize hc₁ : Cell.ns (m₁ ++ (x, some (.lst ds)) :: m₂) = c₁ at h
  have S2 : St G Z ((σ₁ ++ (L, c₀) :: σ₂) ++ τ) s := S.sub (.cons _ (List.Sublist.refl _))
  have hn : a ∉ ((σ₁ ++ (L, c₀) :: σ₂) ++ τ).map (·.1) := (List.nodup_cons.mp S.nod).1
  have ez := hideAll_get _ eo hn
  have S3 := S2.refresh
  have fz := S2.frozen
  have ek : ((σ₁ ++ (L, c₁) :: σ₂) ++ τ).map (·.1) = ((σ₁ ++ (L, c₀) :: σ₂) ++ τ).map (·.1) := by simp
  generalize hideAll s.heap (((σ₁ ++ (L, c₀) :: σ₂) ++ τ).map (·.1)) = Z2 at ez S3 fz
  have S4 : St G Z2 ((σ₁ ++ (L, c₁) :: σ₂) ++ τ) s := {
    zin := S3.zin
    base := S3.base
    nod := by rw [ek]; exact S3.nod
    hid := fun p hp => by
      have : p.1 ∈ ((σ₁ ++ (L, c₁) :: σ₂) ++ τ).map (·.1) := List.mem_map_of_mem hp
      rw [ek] at this
      obtain ⟨q, hq, e⟩ := List.mem_map.mp this
      rw [← e]; exact S3.hid q hq
    cells := fun p hp => by
      by_cases hc : p = (L, c₁)
      · subst hc
        obtain ⟨o, e, hr⟩ := S3.cells (L, c₀) (by simp)
        subst hc₀; subst hc₁
        obtain ⟨es, ep, h1, h2, h3, h4⟩ := hr
        refine ⟨o, e, es, ep, h1, h2, by simpa using h3, fun p hp => ?_⟩
        rcases List.mem_append.mp hp with hp | hp
        · exact h4 p (List.mem_append_left _ hp)
        rcases List.mem_cons.mp hp with rfl | hp
        · have h5 := h4 (x, some (.obj a)) (by simp)
          dsimp only at h5 ⊢
          generalize nsFind es x = v at h5 ⊢
          cases h5 with
          | some hr =>
            cases hr
            exact .some (.lst ⟨_, ez, rfl, _, rfl⟩ (r.mono fz))
        · exact h4 p (List.mem_append_right _ (.tail _ hp))
      · refine S3.cells p ?_
        simp only [List.mem_append, List.mem_cons] at hp ⊢
        rcases hp with (hp | hp | hp) | hp
        · exact .inl (.inl hp)
        · exact absurd hp hc
        · exact .inl (.inr (.inr hp))
        · exact .inr hp
    os := S3.os
    gens := S3.gens
    pos := S3.pos }
  exact h τ A s Z2 E Q hR S4 fun Z' d σ' v s' k S' rr p => hQ Z' d σ' v s' (stt fz k) S' rr p
section
variable {G : Gl} {n : Nat} {σ : Led} {Φ : D → Led → Prop}
theorem bo_pow2 {j : Int} (b : Nat) (hj : j = b) (h0 : 0 < b) (h1 : b < 1000) (h : Φ (.int (2 ^ b : Nat)) σ) : BO G n .Pow (.int 2) (.int j) σ Φ := by
  subst hj
  intro τ A s Z E Q v w hR hS ha hb hQ
  cases ha; cases hb
  with_reducible refine AutoIntOps.pow_4 (by kt_len) (by simp; omega) (by decide) (by decide) ?_ ?_
  · rw [show Builtin.Int.intBits 2 = 2 by decide +kernel]
    unfold Builtin.Int.intTooBig
    simp only [decide_eq_true_eq]
    rw [bitsLine_eq]
    omega
  · have e : (2 : Int) ^ ((b : Int)).toNat = ((2 ^ b : Nat) : Int) := by rw [Int.toNat_natCast, Int.natCast_pow]; rfl
    rw [e]
    exact (hQ Z _ σ _ _ (str Z) (hS.toks _) (.int _ _) h)
end
end Mine
set_option maxHeartbeats 8000000
namespace Mine
theorem PySem.W.holds_open {r : OpenRow} {q : Program} {loose : List Str} {Xt : Shared → Bool} {XP : (Str → Option Value) → Heap → Prop} {α : Type} {Yf : Shared → α} {Ya : World → α} {YP : World → Heap → Prop} {d : DefRec} {kwd : List (Str × PySem.Expr)} {N : Nat}
    (left : ∀ w, (openEnds treeTable r.prog w N).map (fun s => (openSeen q loose (importedModules r.prog.main.body) Xt true s, Yf s)) = some (openGood q loose, Ya w)) (hY : ∀ w s, Yf s = Ya w → YP w s.heap) (hYk : ∀ w h h', YP w h → (∀ b o, h.get? b = some o → h'.get? b = some o) → YP w h')
    (hX : ∀ s, Xt s = true → XP (s.heap.nsMap mainGlobals) s.heap) (hXk : ∀ mg h h', XP mg h → (∀ b o, h.get? b = some o → h'.get? b = some o) → XP mg h')
    (hdef : defOf q r.name = some (d, kwd)) (hp : r.prog.theDef r.name = some (d.params, d.body, d.scope)) (hk : kwWritten? d.params.kwonlyargs d.params.kw_defaults = some kwd) (hRf : ∀ s, Xt s = true → RecFacts r.records s.heap) (hwr : (!r.writes || r.records.isEmpty) = true)
    (k1 : r.wellSaid = true) (ok : (chainsOk q && opensWell r.prog && (frees r.toRowW && r.within.isEmpty)) = true) (hb : r.prog.bare) (hw : r.toRowW.promised)
    (call : WalkO q loose XP YP r.toRowW d kwd fun f vs => PySem.call f vs) : r.Holds :=
  _root_.PySem.W.holds_open left hY hYk hX hXk hdef hp hk hRf hwr k1 ok hb hw call
local macro_rules | `(tactic| o_law) => `(tactic| refine holds_law (by decide +kernel) fun said => ?_)
open_top hd for _root_.PySem.Challenge.rw_sc0081_02
end Mine
set_option maxHeartbeats 200000
namespace Mine
local macro_rules | `(tactic| kt_ors) => `(tactic| with_reducible (first
  | refine xs_cons ?_
  | refine nx_next ?_
  | refine nx_ret ?_
  | refine nx_cont ?_
  | refine xs_nil ?_
  | refine x_ret ?_
  | refine x_if ?_
  | (refine' x_expr ?k1 ?_ ?k2; (case k1 => assumption); (case k2 => with_unfolding_all rfl))
  | refine x_cont ?_
  | (refine' x_setitem ?_ ?k1; (case k1 => with_unfolding_all rfl))
  | (refine' x_aug ?_ ?k1; (case k1 => decide +kernel))
  | (refine' x_assign ?_ ?k1 ?k2 ?k3; (case k1 => with_unfolding_all rfl); (case k2 => with_unfolding_all rfl); (case k3 => with_unfolding_all rfl))
  | (refine' x_assign_cell ?k0 ?k1 ?_ ?k2 ?k3; (case k0 => assumption); (case k1 => (repeat (first | exact List.mem_cons_self .. | refine List.mem_cons_of_mem _ ?_))); (case k2 => with_unfolding_all rfl); (case k3 => with_unfolding_all rfl))
  | (refine' x_assign2 ?_ ?k1 ?k2; (case k1 => with_unfolding_all rfl); (case k2 => with_unfolding_all rfl))
  | (refine' as_local ?k1 ?k2 ?k3 ?k4 ?_; (case k1 => assumption); (case k2 => (repeat (first | exact List.mem_cons_self .. | refine List.mem_cons_of_mem _ ?_))); (case k3 => (repeat (first | exact UpdL.head _ | apply UpdL.tail))); (case k4 => (repeat (first | exact UpdN.head _ _ | apply UpdN.tail))))
  | (refine' as_cap ?k1 ?k2 ?k3 ?k4 ?_; (case k1 => assumption); (case k2 => (repeat (first | exact List.mem_cons_self .. | refine List.mem_cons_of_mem _ ?_))); (case k3 => (repeat (first | exact List.mem_cons_self .. | refine List.mem_cons_of_mem _ ?_))); (case k4 => (repeat (first | exact UpdL.head _ | apply UpdL.tail))))
  | (refine' ev_local ?k1 ?k2 ?k3 ?k4 ?_; (case k1 => assumption); (case k2 => (repeat (first | exact List.mem_cons_self .. | refine List.mem_cons_of_mem _ ?_))); (case k3 => (repeat (first | exact List.mem_cons_self .. | refine List.mem_cons_of_mem _ ?_))); (case k4 => (repeat (first | exact List.mem_cons_self .. | refine List.mem_cons_of_mem _ ?_))))
  | (refine' ev_cap (k := NameKind.free) ?k1 ?k2 (.inr rfl) ?k3 ?k4 ?_; (case k1 => assumption); (case k2 => (repeat (first | exact List.mem_cons_self .. | refine List.mem_cons_of_mem _ ?_))); (case k3 => (repeat (first | exact List.mem_cons_self .. | refine List.mem_cons_of_mem _ ?_))); (case k4 => (repeat (first | exact List.mem_cons_self .. | refine List.mem_cons_of_mem _ ?_))))
  | (refine' ev_cap (k := NameKind.cell) ?k1 ?k2 (.inl rfl) ?k3 ?k4 ?_; (case k1 => assumption); (case k2 => (repeat (first | exact List.mem_cons_self .. | refine List.mem_cons_of_mem _ ?_))); (case k3 => (repeat (first | exact List.mem_cons_self .. | refine List.mem_cons_of_mem _ ?_))); (case k4 => (repeat (first | exact List.mem_cons_self .. | refine List.mem_cons_of_mem _ ?_))))
  | (refine' ev_glob ?k1 ?k2 ?k3 ?_; (case k1 => assumption); (case k2 => (repeat (first | exact List.mem_cons_self .. | refine List.mem_cons_of_mem _ ?_))); (case k3 => assumption))
  | refine ev_int ?_
  | refine ev_str ?_
  | refine ev_float ?_
  | refine ev_none ?_
  | (refine' te_cmp ?_ ?k1; (case k1 => with_unfolding_all rfl))
  | refine te_not ?_
  | refine te_bool ?_
  | refine ta_and ?_
  | refine ta_or ?_
  | refine ta_nil_and ?_
  | refine ta_nil_or ?_
  | refine ev_bin ?_
  | (refine' ev_tuple ?_ ?k1; (case k1 => with_unfolding_all rfl))
  | (refine' ev_cmp ?_ ?k1; (case k1 => with_unfolding_all rfl))
  | refine ev_if ?_
  | refine ev_and ?_
  | refine ev_or ?_
  | (refine' ev_call ?_ ?k1; (case k1 => with_unfolding_all rfl))
  | (refine' ev_smeth m_join ?_ ?k1 ?k2 ?k3 ?k4; (case k1 => with_unfolding_all rfl); (case k2 => with_unfolding_all rfl); (case k3 => with_unfolding_all rfl); (case k4 => with_unfolding_all rfl))
  | (refine' ev_lmeth m_pop ?_ ?k1 ?k2 ?k3 ?k4; (case k1 => with_unfolding_all rfl); (case k2 => with_unfolding_all rfl); (case k3 => with_unfolding_all rfl); (case k4 => with_unfolding_all rfl))
  | (refine' ev_lmeth m_append ?_ ?k1 ?k2 ?k3 ?k4; (case k1 => with_unfolding_all rfl); (case k2 => with_unfolding_all rfl); (case k3 => with_unfolding_all rfl); (case k4 => with_unfolding_all rfl))
  | (refine' ev_lmeth m_insert ?_ ?k1 ?k2 ?k3 ?k4; (case k1 => with_unfolding_all rfl); (case k2 => with_unfolding_all rfl); (case k3 => with_unfolding_all rfl); (case k4 => with_unfolding_all rfl))
  | (refine' as_tuple ?_ ?k1 ?k2; (case k1 => with_unfolding_all rfl); (case k2 => with_unfolding_all rfl))
  | refine ass_nil ?_
  | refine ass_cons ?_
  | (refine' ev_attr ?_ ?k1 ?k2; (case k1 => with_unfolding_all rfl); (case k2 => (intro _ _; with_unfolding_all rfl)))
  | refine as_attr ?_
  | refine x_augattr ?_
  | (refine' ga_at ?k1 ?k2 ?k3 ?k4 ?k5 ?k6 ?k7 ?_; (case k1 => assumption); (case k2 => assumption); (case k3 => (repeat (first | exact List.mem_cons_self .. | refine List.mem_cons_of_mem _ ?_))); (case k4 => (repeat (first | exact List.mem_cons_self .. | refine List.mem_cons_of_mem _ ?_))); (case k5 => (repeat (first | exact List.mem_cons_self .. | refine List.mem_cons_of_mem _ ?_))); (case k6 => (repeat (first | exact List.mem_cons_self .. | refine List.mem_cons_of_mem _ ?_))); (case k7 => with_unfolding_all rfl))
  | (refine' sa_upd ?k1 ?k2 ?k3 ?k4 ?k5 ?k6 ?k7 ?k8 ?_; (case k1 => assumption); (case k2 => assumption); (case k3 => (repeat (first | exact List.mem_cons_self .. | refine List.mem_cons_of_mem _ ?_))); (case k4 => (repeat (first | exact List.mem_cons_self .. | refine List.mem_cons_of_mem _ ?_))); (case k5 => (repeat (first | exact UpdL.head _ | apply UpdL.tail))); (case k6 => (repeat (first | exact UpdN.head _ _ | apply UpdN.tail))); (case k7 => (repeat (first | exact List.mem_cons_self .. | refine List.mem_cons_of_mem _ ?_))); (case k8 => decide))
  | (refine' sa_new ?k1 ?k2 ?k3 ?k4 ?k5 ?k6 ?k8 ?_; (case k1 => assumption); (case k2 => assumption); (case k3 => (repeat (first | exact List.mem_cons_self .. | refine List.mem_cons_of_mem _ ?_))); (case k4 => (repeat (first | exact List.mem_cons_self .. | refine List.mem_cons_of_mem _ ?_))); (case k5 => (repeat (first | exact UpdL.head _ | apply UpdL.tail))); (case k6 => (repeat (first | exact UpdN.head _ _ | apply UpdN.tail))); (case k8 => decide))
  | refine callK_val ?_
  | refine kpcl_builtin ?_
  | refine kpcl_type ?_
  | refine evs_nil ?_
  | refine evs_cons ?_
  | refine ev_slice ?_
  | refine ep_none ?_
  | refine ep_some ?_
  | (refine' ev_sub ?_ ?k1; (case k1 => (intro _ _; with_unfolding_all rfl)))
  | (refine' te_val ?_ ?k1; (case k1 => with_unfolding_all rfl))
  | refine tr_bool ?_
  | refine tr_int ?_
  | refine bo_add ?_
  | refine bo_sub ?_
  | refine io_add ?_
  | refine io_sub ?_
  | refine bo_addf ?_
  | refine bo_subf ?_
  | refine bo_mulf ?_
  | refine co_eq ?_
  | refine co_ne ?_
  | refine co_lt ?_
  | refine co_le ?_
  | refine co_gt ?_
  | refine co_eqs ?_
  | refine co_ins ?_
  | refine co_eqf ?_
  | refine co_ltf ?_
  | refine co_ltif ?_
  | refine co_isnone ?_
  | refine co_isnone_val ?_))
local macro_rules | `(tactic| kt_at_notin) => `(tactic| first | kt_ors | with_reducible (refine' x_for ?_ ?k1 ?k2; (case k1 => (intro _; with_unfolding_all rfl)); (case k2 => (intro _ _; with_unfolding_all rfl))))
local macro_rules | `(tactic| kt_at_in) => `(tactic| repeat kt_at_notin)
local macro_rules | `(tactic| kt_at_get) => `(tactic| (repeat (first | exact List.mem_cons_self .. | refine List.mem_cons_of_mem _ ?_)))
local macro_rules | `(tactic| kt_at_item) => `(tactic| exact ⟨by with_unfolding_all rfl, by with_unfolding_all rfl, rfl, by decide +kernel, by decide +kernel, by decide +kernel, (by simp only [List.map_cons, List.map_nil]; decide +kernel), (fun _ => by with_unfolding_all rfl)⟩)
local macro_rules | `(tactic| kt_at_method) => `(tactic| (repeat (first | exact subp_nil _ | refine subp_cons (by (repeat (first | exact Pick.head _ | apply Pick.tail))) ?_)))
structure G1 (G : Gl) : Prop where
  hK : G.K = hd.heap_1 G.w.params
  cd : CodeHd G.h₀ 117 113
theorem g_move {G : Gl} (g : G1 G) : Has G "_MOVE_COST" (.int 2) := has_K (v := .int 2 328) (by rw [g.hK]; kernel_rfl) fun _ => .int _ _
theorem g_case {G : Gl} (g : G1 G) : Has G "_CASE_COST" (.int 1) := has_K (v := .int 1 330) (by rw [g.hK]; kernel_rfl) fun _ => .int _ _
theorem g_len {G : Gl} (g : G1 G) : Has G "len" (.val (.builtin "len")) := has_B (by rw [g.hK]; kernel_rfl) (by kernel_rfl) (by decide +kernel) fun _ => .val _
theorem g_range {G : Gl} (g : G1 G) : Has G "range" (.val (.type "range")) := has_B (by rw [g.hK]; kernel_rfl) (by kernel_rfl) (by decide +kernel) fun _ => .val _
theorem g_list {G : Gl} (g : G1 G) : Has G "list" (.val (.type "list")) := has_B (by rw [g.hK]; kernel_rfl) (by kernel_rfl) (by decide +kernel) fun _ => .val _
theorem g_min {G : Gl} (g : G1 G) : Has G "min" (.val (.builtin "min")) := has_B (by rw [g.hK]; kernel_rfl) (by kernel_rfl) (by decide +kernel) fun _ => .val _
theorem g_max {G : Gl} (g : G1 G) : Has G "_MAX_STRING_SIZE" (.int 40) := has_K (v := .int 40 326) (by rw [g.hK]; kernel_rfl) fun _ => .int _ _
theorem g_sub {G : Gl} (g : G1 G) : Has G "_substitution_cost" (.val (.ref 104)) := has_K (v := .ref 104) (by rw [g.hK]; kernel_rfl) fun _ => .val _
theorem k_28 {G : Gl} (g : G1 G) : keepIn G.K (.ref 104) = true := by rw [g.hK]; kernel_rfl
theorem g_br {G : Gl} (g : G1 G) : Has G "bisect_right" (.val (.ref 32)) := has_K (v := .ref 32) (by rw [g.hK]; kernel_rfl) fun _ => .val _
theorem k_53 {G : Gl} (g : G1 G) : keepIn G.K (.ref 32) = true := by rw [g.hK]; kernel_rfl
theorem g_int {G : Gl} (g : G1 G) : Has G "int" (.val (.type "int")) := has_B (by rw [g.hK]; kernel_rfl) (by kernel_rfl) (by decide +kernel) fun _ => .val _
theorem g_bmax {G : Gl} (g : G1 G) : Has G "max" (.val (.builtin "max")) := has_B (by rw [g.hK]; kernel_rfl) (by kernel_rfl) (by decide +kernel) fun _ => .val _
theorem t28 {G : Gl} (g : G1 G) {c d : Nat} (hc : isLet c = true) (hd : isLet d = true) :
    CL G 3 (.ref 104) [.str (sl [c]), .str (sl [d])] [] fun r σ' => r = .int (cN c d) ∧ σ' = [] := by
  have e := g.hK
  have h1 := g_move g
  have h2 := g_case g
  refine cl_def [("ch_a", .str (sl [c])), ("ch_b", .str (sl [d]))] [] (cs := []) (defOf_K (f := 104) (by rw [e]; rfl) (by rw [e]; kernel_rfl) (by rfl)) (by decide +kernel) (fun _ h => absurd h List.not_mem_nil) (by decide +kernel) (by decide +kernel) (by simp only [List.map_cons, List.map_nil, List.append_nil]; decide +kernel) (by rfl) (fun Z vs hv => ⟨vs, hv, ?_⟩) ?_
  · obtain ⟨v, w, rfl, _, _⟩ := vr2 hv
    exact fun M => Looks.of_pure rfl
  intro env L O
  dsimp only [fnX] at O
  simp only [nsStart, List.map_cons, List.map_nil, List.append_nil]
  kt_at_in
  refine ⟨fun hc' => ?_, fun hc' => ?_⟩
  · kt_at_in
    have q : c = d := by simpa [sl_beq] using hc'
    exact ret_pure (by rw [cN, if_pos q])
  · kt_at_in
    have q : ¬ c = d := by simpa [sl_beq] using hc'
    refine ev_lower ?_ ; kt_at_in
    refine ⟨_, rfl, fit1 c, ?_⟩
    refine ev_lower ?_ ; kt_at_in
    refine ⟨_, rfl, fit1 d, ?_⟩
    rw [lower_let hc, lower_let hd]
    kt_at_in
    refine ⟨fun h => ?_, fun h => ?_⟩ <;> kt_at_in
    · exact ret_pure (by rw [cN, if_neg q, if_pos (by simpa [sl_beq] using h)])
    · exact ret_pure (by rw [cN, if_neg q, if_neg (by simpa [sl_beq] using h)])
abbrev lns (L : Addr) (a b : List Nat) (mx : Int) (pre post row res bi bc di mi ix su ins : Option D) : List (Str × Option D) :=
  [("a", some (.str (sl a))), ("b", some (.str (sl b))), ("max_cost", some (.int mx)), ("pre", pre), ("post", post), ("row", row), ("result", res), ("bindex", bi), ("bchar", bc), ("distance", di), ("minimum", mi), ("index", ix), ("substitute", su), ("insert_delete", ins)]
set_option maxHeartbeats 4000000
theorem t35 {G : Gl} (g : G1 G) {a b : List Nat} {mx : Int} (ha : ∀ c ∈ a, isLet c = true) (hb : ∀ c ∈ b, isLet c = true) (la : a.length ≤ 40) (lb : b.length ≤ 40) :
    CL G 5 (.ref 111) [.str (sl a), .str (sl b), .int mx] [] fun d σ' => d = .int (lev a b mx) ∧ σ' = [] := by
  have e := g.hK
  have h1 := g_move g
  have h2 := g_max g
  have h3 := g_len g
  have h4 := g_range g
  have h5 := g_list g
  have h6 := g_min g
  have h7 := g_sub g
  refine cl_def [("a", .str (sl a)), ("b", .str (sl b)), ("max_cost", .int mx)] ["pre", "post", "row", "result", "bindex", "bchar", "distance", "minimum", "index", "substitute", "insert_delete"] (cs := []) (defOf_K (f := 111) (by rw [e]; rfl) (by rw [e]; kernel_rfl) (by rfl)) (by decide +kernel) (fun _ h => absurd h List.not_mem_nil) (by decide +kernel) (by decide +kernel) (by simp only [List.map_cons, List.map_nil, List.append_nil]; decide +kernel) (by rfl) (fun Z vs hv => ⟨vs, hv, ?_⟩) ?_
  · obtain ⟨u, v, w, rfl, _, _⟩ := vr3 hv
    exact fun M => Looks.of_pure rfl
  intro env L O
  dsimp only [fnX] at O
  simp only [nsStart, List.map_cons, List.map_nil, List.append_nil, List.cons_append, List.nil_append]
  kt_at_in
  refine ⟨fun hc' => ?_, fun hc' => ?_⟩
  · kt_at_in
    have q : a = b := by simpa [sl_beq] using hc'
    exact ret_pure (by rw [lev, if_pos q])
  have hab : ¬ a = b := by simpa [sl_beq] using hc'
  kt_at_in
  -- the common beginning
  refine x_while_to (fun k σ => ∃ p, p ≤ a.length ∧ p ≤ b.length ∧ p + cpl (a.drop p) (b.drop p) = cpl a b ∧ k = a.length - p ∧ σ = [(L, .ns (lns L a b mx (some (.int (p : Nat))) none none none none none none none none none none))])
    (fun σ => σ = [(L, .ns (lns L a b mx (some (.int (cpl a b : Nat))) none none none none none none none none none none))]) ?turn (a.length - 0) ⟨0, by kt_len, by kt_len, by simp, rfl, rfl⟩ ?after
  case turn =>
    rintro k σ ⟨p, hpa, hpb, hp, rfl, rfl⟩
    kt_at_in
    refine sl_drop hpa (by kt_len) ?_
    refine tr_sl (by simp; omega) ?_
    refine ⟨fun hc => ?_, fun hc => ⟨(by kt_eqs), fun _ => ?_⟩⟩
    · kt_at_in
      refine sl_drop hpb (by kt_len) ?_
      refine tr_sl (by simp; omega) ?_
      refine ⟨fun hd => ?_, fun hd => ⟨(by kt_eqs), fun _ => ?_⟩⟩
      · have h1' : p < a.length := by simp at hc; omega
        have h2' : p < b.length := by simp at hd; omega
        kt_at_in
        refine gi_at h1' (by kt_len) ?_
        kt_at_in
        refine gi_at h2' (by kt_len) ?_
        kt_at_in
        rw [cpl_step h1' h2'] at hp
        refine ⟨fun hh => ?_, fun hh => ⟨(by kt_eqs), fun _ => ?_⟩⟩
        · kt_at_in
          refine ⟨fun _ => ?_, (by kt_eqs)⟩
          have q : a.getD p 0 = b.getD p 0 := by simpa [sl_beq] using hh
          kt_at_in
          rw [if_pos q] at hp
          exact ⟨a.length - (p + 1), by kt_len, p + 1, by kt_len, by kt_len, by kt_len, rfl, rfl⟩
        · have q : ¬ a.getD p 0 = b.getD p 0 := by simpa [sl_beq] using hh
          rw [if_neg q] at hp
          rw [← hp]; rfl
      · rw [cpl_end (.inr (by simp at hd; omega))] at hp
        rw [← hp]; rfl
    · rw [cpl_end (.inl (by simp at hc; omega))] at hp
      rw [← hp]; rfl
  case after =>
  rintro σ rfl
  have hc1 := cpl_le a b
  kt_at_in
  refine sl_drop hc1.1 (by kt_len) ?_
  kt_at_in
  refine sl_drop hc1.2 (by kt_len) ?_
  kt_at_in
  generalize hx : a.drop (cpl a b) = x
  generalize hy : b.drop (cpl a b) = y
  have lx : x.length ≤ 40 := by rw [← hx]; simp; omega
  have ly : y.length ≤ 40 := by rw [← hy]; simp; omega
  have hx' : ∀ c ∈ x, isLet c = true := fun c h => ha c (List.mem_of_mem_drop (hx ▸ h))
  have hy' : ∀ c ∈ y, isLet c = true := fun c h => hb c (List.mem_of_mem_drop (hy ▸ h))
  -- the common end
  refine x_while_to (fun k σ => ∃ q, q ≤ x.length ∧ q ≤ y.length ∧ csl x y (x.length + 1 - q) q = csl x y (x.length + 1) 0 ∧ k = x.length - q ∧ σ = [(L, .ns (lns L x y mx (some (.int (cpl a b : Nat))) (some (.int (-(q : Int)))) none none none none none none none none none))])
    (fun σ => ∃ q, q = csl x y (x.length + 1) 0 ∧ q ≤ x.length ∧ q ≤ y.length ∧ σ = [(L, .ns (lns L x y mx (some (.int (cpl a b : Nat))) (some (.int (-(q : Int)))) none none none none none none none none none))]) ?turn2 (x.length - 0) ⟨0, by kt_len, by kt_len, by simp, rfl, rfl⟩ ?after2
  case turn2 =>
    rintro k σ ⟨q, hqa, hqb, hq, rfl, rfl⟩
    have hf : x.length + 1 - q = (x.length - q) + 1 := by kt_len
    rw [hf, csl] at hq
    refine te_bool (ta_and (te_val ?_))
    (refine' ev_post O ?k2 ?k3 ?k4 ?k5 ?k6 hqa (by kt_len) ?_; (case k2 => kt_at_get); (case k3 => kt_at_get); (case k4 => kt_at_get); (case k5 => kt_at_get); (case k6 => kt_at_get))
    refine tr_sl (by simp; omega) ?_
    refine ⟨fun hc => ?_, fun hc => ⟨(by kt_eqs), fun _ => ?_⟩⟩
    · refine ta_and (te_val (ev_post O (by kt_at_get) (by kt_at_get) (by kt_at_get) (by kt_at_get) (by kt_at_get) hqb (by kt_len) ?_))
      refine tr_sl (by simp; omega) ?_
      refine ⟨fun hd => ?_, fun hd => ⟨(by kt_eqs), fun _ => ?_⟩⟩
      · have h1' : q < x.length := by simp at hc; omega
        have h2' : q < y.length := by simp at hd; omega
        kt_at_in
        rw [show -(q : Int) - 1 = -((q + 1 : Nat) : Int) by kt_len]
        refine gi_back (by kt_len) (by kt_len) (by kt_len) ?_
        kt_at_in
        rw [show -(q : Int) - 1 = -((q + 1 : Nat) : Int) by kt_len]
        refine gi_back (by kt_len) (by kt_len) (by kt_len) ?_
        kt_at_in
        refine ⟨fun hh => ?_, fun hh => ⟨(by kt_eqs), fun _ => ?_⟩⟩
        · kt_at_in
          refine ⟨fun _ => ?_, (by kt_eqs)⟩
          have e1 : x.getD (x.length - (q + 1)) 0 = y.getD (y.length - (q + 1)) 0 := by simpa [sl_beq] using hh
          kt_at_in
          rw [show -(q : Int) - 1 = -((q + 1 : Nat) : Int) by kt_len]
          rw [if_pos ⟨h1', h2', e1⟩] at hq
          exact ⟨x.length - (q + 1), by kt_len, q + 1, by kt_len, by kt_len, by rw [← hq]; congr 1; omega, rfl, rfl⟩
        · have e1 : ¬ x.getD (x.length - (q + 1)) 0 = y.getD (y.length - (q + 1)) 0 := by simpa [sl_beq] using hh
          rw [if_neg fun h => e1 h.2.2] at hq
          exact ⟨q, hq, hqa, hqb, rfl⟩
      · have hz : ¬ q < y.length := by intro hlt; simp at hd; rcases hd with h | h; omega; (rw [h] at hlt; simp at hlt)
        simp only [hz, false_and, and_false, if_false] at hq
        exact ⟨q, hq, hqa, hqb, rfl⟩
    · have hz : ¬ q < x.length := by intro hlt; simp at hc; rcases hc with h | h; omega; (rw [h] at hlt; simp at hlt)
      simp only [hz, false_and, and_false, if_false] at hq
      exact ⟨q, hq, hqa, hqb, rfl⟩
  case after2 =>
  rintro σ ⟨q, hq, hqa, hqb, rfl⟩
  refine nx_next (xs_cons ?_)
  (refine' x_assign ?_ ?k1 ?k2 ?k3; (case k1 => with_unfolding_all rfl); (case k2 => with_unfolding_all rfl); (case k3 => with_unfolding_all rfl))
  (refine' ev_post O ?k2 ?k3 ?k4 ?k5 ?k6 hqa (by kt_len) ?_; (case k2 => kt_at_get); (case k3 => kt_at_get); (case k4 => kt_at_get); (case k5 => kt_at_get); (case k6 => kt_at_get))
  kt_at_notin; kt_at_notin; kt_at_notin; kt_at_notin
  (refine' ev_post O ?k2 ?k3 ?k4 ?k5 ?k6 hqb (by kt_len) ?_; (case k2 => kt_at_get); (case k3 => kt_at_get); (case k4 => kt_at_get); (case k5 => kt_at_get); (case k6 => kt_at_get))
  have hlev : lev a b mx = (if x.take (x.length - q) = [] ∨ y.take (y.length - q) = [] then 2 * (((x.take (x.length - q)).length : Int) + (y.take (y.length - q)).length) else if (y.take (y.length - q)).length < (x.take (x.length - q)).length then core (y.take (y.length - q)) (x.take (x.length - q)) mx else core (x.take (x.length - q)) (y.take (y.length - q)) mx) := by
    rw [lev, if_neg hab]; dsimp only; rw [hx, hy, ← hq]
  rw [hlev]
  generalize hu : x.take (x.length - q) = u
  generalize hv : y.take (y.length - q) = v
  have lu : u.length ≤ 40 := by rw [← hu]; simp; omega
  have lv : v.length ≤ 40 := by rw [← hv]; simp; omega
  have hu' : ∀ c ∈ u, isLet c = true := fun c h => hx' c (List.mem_of_mem_take (hu ▸ h))
  have hv' : ∀ c ∈ v, isLet c = true := fun c h => hy' c (List.mem_of_mem_take (hv ▸ h))
  clear hlev hu hv hx hy hx' hy' lx ly hq hqa hqb
  generalize hP : (some (D.int (cpl a b : Nat))) = pre
  generalize hQ : (some (D.int (-(q : Int)))) = post
  clear hP hQ hc1
  kt_at_in
  refine tr_sl (by kt_len) ?_
  refine ⟨fun hc => ⟨fun _ => ?_, (by kt_eqs)⟩, fun hc => ?_⟩
  · kt_at_in
    refine cl_len_sl (by kt_len) ?_
    kt_at_in
    refine cl_len_sl (by kt_len) ?_
    kt_at_in
    refine bo_mul (mulOk (by kt_len) (by kt_len)) ?_
    kt_at_in
    exact ret_pure (by rw [if_pos (.inl (by simpa using hc))])
  kt_at_in
  refine tr_sl (by kt_len) ?_
  refine ⟨fun hd => ⟨fun _ => ?_, (by kt_eqs)⟩, fun hd => ?_⟩
  · kt_at_in
    refine cl_len_sl (by kt_len) ?_
    kt_at_in
    refine cl_len_sl (by kt_len) ?_
    kt_at_in
    refine bo_mul (mulOk (by kt_len) (by kt_len)) ?_
    kt_at_in
    exact ret_pure (by rw [if_pos (.inr (by simpa using hd))])
  have hu0 : ¬ u = [] := by simpa using hc
  have hv0 : ¬ v = [] := by simpa using hd
  rw [if_neg (by simp [hu0, hv0])]
  have hu1 : 0 < u.length := List.length_pos_iff.mpr hu0
  have hv1 : 0 < v.length := List.length_pos_iff.mpr hv0
  kt_at_in
  refine ⟨(by kt_eqs), fun _ => ?_⟩
  kt_at_in
  refine cl_len_sl (by kt_len) ?_
  kt_at_in
  refine ⟨fun hh => by simp at hh; omega, fun _ => ?_⟩
  kt_at_in
  refine cl_len_sl (by kt_len) ?_
  kt_at_in
  refine ⟨fun hh => by simp at hh; omega, fun _ => ?_⟩
  kt_at_notin
  refine ⟨(by kt_eqs), fun _ => ?_⟩
  kt_at_notin
  refine nx_next (xs_cut (fun σ' => ∃ x y : List Nat, x.length ≤ y.length ∧ 0 < x.length ∧ x.length ≤ 40 ∧ y.length ≤ 40 ∧ (∀ c ∈ x, isLet c = true) ∧ (∀ c ∈ y, isLet c = true) ∧ (if v.length < u.length then core v u mx else core u v mx) = core x y mx ∧ σ' = [(L, .ns (lns L x y mx pre post none none none none none none none none none))]) ?_ ?_)
  · kt_at_in
    refine cl_len_sl (by kt_len) ?_
    kt_at_in
    refine cl_len_sl (by kt_len) ?_
    kt_at_in
    refine ⟨fun hh => ?_, fun hh => ?_⟩
    · have hlt : v.length < u.length := by simpa using hh
      kt_at_in
      (refine' x_swap O ?k1 ?k2 (by decide) rfl ?_; (case k1 => kt_at_get); (case k2 => kt_at_get))
      kt_at_in
      refine ⟨by simp, _, _, _, _, _, _, _, rfl, .head _, .tail _ (.head _ _), .head _, .head _ _, ?_⟩
      kt_at_in
      exact ⟨rfl, v, u, by kt_len, hv1, lv, lu, hv', hu', by rw [if_pos hlt], rfl⟩
    · have hlt : ¬ v.length < u.length := by simpa using hh
      kt_at_in
      exact ⟨rfl, u, v, by kt_len, hu1, lu, lv, hu', hv', by rw [if_neg hlt], rfl⟩
  rintro σ' ⟨x, y, hxy, hx1, lx, ly, hx', hy', hc', rfl⟩
  rw [hc']
  clear hc' hu' hv' lu lv hu1 hv1 hu0 hv0 hc hd
  kt_at_in
  refine cl_len_sl (by kt_len) ?_
  kt_at_in
  refine cl_len_sl (by kt_len) ?_
  kt_at_in
  refine bo_mul (mulOk (by kt_len) (by kt_len)) ?_
  kt_at_in
  refine ⟨fun hh => ?_, fun hh => ?_⟩
  · kt_at_in
    exact ret_pure (by rw [core, if_pos (by simpa using hh)])
  rw [core, if_neg (by simpa using hh)]
  clear hh
  kt_at_in
  refine cl_len_sl (by kt_len) ?_
  kt_at_in
  refine bo_mul (mulOk (by kt_len) (by kt_len)) ?_
  kt_at_in
  refine cl_range3 (by decide) (PyProof.noPylong_small (by decide)) ?_
  kt_at_in
  refine cl_list_range (k := x.length) (small_of (by kt_len) (by kt_len) (by kt_len) (by kt_len) (by kt_len) (by kt_len)) (by unfold Builtin.Range.rangeSize; (repeat' split) <;> omega) (by kt_len) fun ra => ?_
  rw [show ((List.range x.length).map fun (i : Nat) => D.int (2 + i * 2)) = ((List.range x.length).map fun (i : Nat) => (2 : Int) + i * 2).map D.int by simp]
  generalize hR : outer x mx y 0 ((List.range x.length).map fun (i : Nat) => (2 : Int) + i * 2) 0 = R
  have hrl : ((List.range x.length).map fun (i : Nat) => (2 : Int) + i * 2).length = x.length := by simp
  revert hR hrl
  generalize ((List.range x.length).map fun (i : Nat) => (2 : Int) + i * 2) = row
  intro hR hrl
  kt_at_in
  refine cl_len_sl (by kt_len) ?_
  kt_at_in
  refine cl_range1 ?_
  refine ⟨_, iter_upto (by kt_len), ?_⟩
  refine fork_upto (fun i σ => ∃ row res bi bc di mi ix su ins, row.length = x.length ∧ outer x mx (y.drop i) i row res = R ∧ σ = [(ra, .list (row.map .int)), (L, .ns (lns L x y mx pre post (some (.obj ra)) (some (.int res)) bi bc di mi ix su ins))]) ?fin ?turn ⟨row, 0, none, none, none, none, none, none, none, hrl, by simpa using hR, rfl⟩
  case fin =>
    rintro σ ⟨row, res, bi, bc, di, mi, ix, su, ins, hl, hr, rfl⟩
    rw [List.drop_length, outer] at hr
    kt_at_in
    exact ⟨[], by simp, by rw [hr], rfl⟩
  case turn =>
    rintro i σ hi ⟨row, res, bi, bc, di, mi, ix, su, ins, hl, hr, rfl⟩
    rw [List.drop_eq_getElem_cons hi, outer] at hr
    kt_at_in
    refine gi_at hi (by kt_len) ?_
    kt_at_in
    refine bo_mul (mulOk (by kt_len) (by kt_len)) ?_
    kt_at_in
    refine cl_len_sl (by kt_len) ?_
    kt_at_in
    refine cl_range1 ?_
    refine ⟨_, iter_upto (by kt_len), ?_⟩
    generalize hS : rowI x y[i] row i x.length = S at hr
    refine fork_upto (fun j σ => ∃ ix su ins, σ = [(ra, .list ((rowI x y[i] row i j).row.map .int)), (L, .ns (lns L x y mx pre post (some (.obj ra)) (some (.int (rowI x y[i] row i j).res)) (some (.int i)) (some (.str (sl [y[i]]))) (some (.int (rowI x y[i] row i j).dist)) (some (.int (rowI x y[i] row i j).mn)) ix su ins))]) ?fin2 ?turn2 ⟨ix, su, ins, by simp [rowI, hi]⟩
    case fin2 =>
      rintro σ ⟨ix, su, ins, rfl⟩
      rw [hS]
      kt_at_in
      refine ⟨fun hh => ?_, fun hh => ?_⟩
      · kt_at_in
        exact ret_pure (by rw [← hr, if_pos (by simpa using hh)])
      · kt_at_in
        exact ⟨S.row, S.res, _, _, _, _, _, _, _, by rw [← hS, rowI_len, hl], by rw [← hr, if_neg (by simpa using hh)], rfl⟩
    case turn2 =>
      rintro j σ hj ⟨ix, su, ins, rfl⟩
      have hjr : j < (rowI x y[i] row i j).row.length := by rw [rowI_len, hl]; exact hj
      rw [rowI_succ]
      kt_at_in
      refine gi_at hj (by kt_len) ?_
      kt_at_in
      refine kpcl_K (k_28 g) ?_
      rw [show x.getD j 0 = x[j] by simp [hj]]
      refine pure_use (t28 g (hy' _ (List.getElem_mem hi)) (hx' _ (List.getElem_mem hj))) (by kt_len) ?_
      kt_at_in
      refine gi_list (.obj (.head _)) (by kt_len) (x := .int ((rowI x y[i] row i j).row.getD j 0)) (by simp [hjr]) (by kt_len) ?_
      kt_at_in
      refine cl_min2 (.tail _ (.head _)) ?_
      kt_at_in
      refine cl_min2 (.tail _ (.head _)) ?_
      kt_at_in
      refine ⟨_, _, _, _, rfl, rfl, by kt_len, by kt_len, by simp [rowI_len, hl]; omega, .head _, ?_⟩
      kt_at_in
      have hxj : x.getD j 0 = x[j] := by simp [hj]
      refine ⟨fun hh => ?_, fun hh => ?_⟩
      · have hh' := of_decide_eq_true hh
        kt_at_in
        refine ⟨?_, ?_, ?_, ?eq⟩; case eq =>
          simp only [stI, mn2, hxj, List.map_set, Int.toNat_natCast, if_pos hh']
          rfl
      · have hh' := of_decide_eq_false hh
        kt_at_in
        refine ⟨?_, ?_, ?_, ?eq⟩; case eq =>
          simp only [stI, mn2, hxj, List.map_set, Int.toNat_natCast, if_neg hh']
          rfl
theorem t76 {G : Gl} (g : G1 G) {h s v : UInt64} {i : Int} (hi : iof (Float64.mul h F6) = some i) (hl : i.natAbs < 1000) : CL G 3 (.ref 55) [.float h, .float s, .float v] [] fun r σ' => r = d3 (hsvF h s v i) ∧ σ' = [] := by
  have e := g.hK
  have h1 := g_int g
  refine cl_def [("h", .float h), ("s", .float s), ("v", .float v)] ["i", "f", "p", "q", "t"] (cs := []) (defOf_K (f := 55) (by rw [e]; rfl) (by rw [e]; kernel_rfl) (by rfl)) (by decide +kernel) (fun _ h => absurd h List.not_mem_nil) (by decide +kernel) (by decide +kernel) (by simp only [List.map_cons, List.map_nil, List.append_nil]; decide +kernel) (by rfl) (fun Z vs hv => ⟨vs, hv, ?_⟩) ?_
  · obtain ⟨u, v, w, rfl, _, _⟩ := vr3 hv
    exact fun M => Looks.of_pure rfl
  intro env L O
  dsimp only [fnX] at O
  simp only [nsStart, List.map_cons, List.map_nil, List.append_nil, List.cons_append, List.nil_append]
  kt_at_in
  refine ⟨fun hc => ?_, fun hc => ?_⟩
  · kt_at_in
    refine ⟨by simp, ?_⟩
    kt_at_in
    exact ret_pure (by rw [hsvF, if_pos hc]; rfl)
  rw [hsvF, if_neg (by rw [hc]; decide)]
  kt_at_in
  refine cl_int_f hi ?_
  kt_at_in
  refine bo_subfi (Nat.lt_trans hl (by decide)) ?_
  kt_at_in
  refine bo_mod (by decide) ?_
  kt_at_in
  refine ⟨fun hj => ?_, fun hj0 => ?_⟩
  · kt_at_in
    refine ⟨by simp, ?_⟩
    kt_at_in
    have q : i.fmod 6 = 0 := by simpa using hj
    exact ret_pure (by simp [hsvC, q]; rfl)
  have q0 : ¬ i.fmod 6 = 0 := by simpa using hj0
  kt_at_in
  refine ⟨fun hj => ?_, fun hj1 => ?_⟩
  · kt_at_in
    refine ⟨by simp, ?_⟩
    kt_at_in
    have q : i.fmod 6 = 1 := by simpa using hj
    exact ret_pure (by simp [hsvC, q]; rfl)
  have q1 : ¬ i.fmod 6 = 1 := by simpa using hj1
  kt_at_in
  refine ⟨fun hj => ?_, fun hj2 => ?_⟩
  · kt_at_in
    refine ⟨by simp, ?_⟩
    kt_at_in
    have q : i.fmod 6 = 2 := by simpa using hj
    exact ret_pure (by simp [hsvC, q]; rfl)
  have q2 : ¬ i.fmod 6 = 2 := by simpa using hj2
  kt_at_in
  refine ⟨fun hj => ?_, fun hj3 => ?_⟩
  · kt_at_in
    refine ⟨by simp, ?_⟩
    kt_at_in
    have q : i.fmod 6 = 3 := by simpa using hj
    exact ret_pure (by simp [hsvC, q]; rfl)
  have q3 : ¬ i.fmod 6 = 3 := by simpa using hj3
  kt_at_in
  refine ⟨fun hj => ?_, fun hj4 => ?_⟩
  · kt_at_in
    refine ⟨by simp, ?_⟩
    kt_at_in
    have q : i.fmod 6 = 4 := by simpa using hj
    exact ret_pure (by simp [hsvC, q]; rfl)
  have q4 : ¬ i.fmod 6 = 4 := by simpa using hj4
  kt_at_in
  refine ⟨fun hj => ?_, fun hj5 => ?_⟩
  · kt_at_in
    refine ⟨by simp, ?_⟩
    kt_at_in
    have q : i.fmod 6 = 5 := by simpa using hj
    exact ret_pure (by simp [hsvC, q]; rfl)
  have q5 : ¬ i.fmod 6 = 5 := by simpa using hj5
  exfalso
  rw [Int.fmod_eq_emod_of_nonneg _ (by kt_len)] at q0 q1 q2 q3 q4 q5
  omega
theorem t69 {G : Gl} (gg : G1 G) {r g b : UInt64} (ok : rgbOk r g b = true) : CL G 3 (.ref 48) [.float r, .float g, .float b] [] fun d σ' => d = d3 (rgbF r g b) ∧ σ' = [] := by
  have e := gg.hK
  have h1 := g_bmax gg
  have h2 := g_min gg
  rw [rgbOk, Bool.and_eq_true] at ok
  have z1 : ¬ Float64.isZero (fmx (fmx r g) b) = true := by simpa using ok.1
  have z2 : ¬ Float64.isZero (Float64.sub (fmx (fmx r g) b) (fmn (fmn r g) b)) = true := by simpa using ok.2
  clear ok
  refine cl_def [("r", .float r), ("g", .float g), ("b", .float b)] ["maxc", "minc", "rangec", "v", "s", "rc", "gc", "bc", "h"] (cs := []) (defOf_K (f := 48) (by rw [e]; rfl) (by rw [e]; kernel_rfl) (by rfl)) (by decide +kernel) (fun _ h => absurd h List.not_mem_nil) (by decide +kernel) (by decide +kernel) (by simp only [List.map_cons, List.map_nil, List.append_nil]; decide +kernel) (by rfl) (fun Z vs hv => ⟨vs, hv, ?_⟩) ?_
  · obtain ⟨u, v, w, rfl, _, _⟩ := vr3 hv
    exact fun M => Looks.of_pure rfl
  intro env L O
  dsimp only [fnX] at O
  simp only [nsStart, List.map_cons, List.map_nil, List.append_nil, List.cons_append, List.nil_append]
  kt_at_in
  refine cl_max3f ?_
  kt_at_in
  refine cl_min3f ?_
  rw [rgbF]
  dsimp only
  generalize fmx (fmx r g) b = maxc at z1 z2 ⊢
  generalize fmn (fmn r g) b = minc at z2 ⊢
  kt_at_in
  refine ⟨fun hc => ?_, fun hc => ?_⟩
  · kt_at_in
    refine ⟨by simp, ?_⟩
    kt_at_in
    exact ret_pure (by rw [if_pos hc]; rfl)
  rw [if_neg (by rw [hc]; decide)]
  kt_at_in
  refine bo_divf z1 ?_
  kt_at_in
  refine bo_divf z2 ?_
  kt_at_in
  refine bo_divf z2 ?_
  kt_at_in
  refine bo_divf z2 ?_
  kt_at_in
  refine ⟨fun hj => ?_, fun hj => ?_⟩
  · kt_at_in
    refine bo_divf (by decide +kernel) ?_
    kt_at_in
    refine bo_modf (by decide +kernel) ?_
    kt_at_in
    refine ⟨by simp, ?_⟩
    kt_at_in
    exact ret_pure (by rw [if_pos hj]; rfl)
  rw [if_neg (by rw [hj]; decide)]
  kt_at_in
  refine ⟨fun hk => ?_, fun hk => ?_⟩
  · kt_at_in
    refine bo_divf (by decide +kernel) ?_
    kt_at_in
    refine bo_modf (by decide +kernel) ?_
    kt_at_in
    refine ⟨by simp, ?_⟩
    kt_at_in
    exact ret_pure (by rw [if_pos hk]; rfl)
  rw [if_neg (by rw [hk]; decide)]
  kt_at_in
  refine bo_divf (by decide +kernel) ?_
  kt_at_in
  refine bo_modf (by decide +kernel) ?_
  kt_at_in
  refine ⟨by simp, ?_⟩
  kt_at_in
  exact ret_pure rfl
def spell (m : Int) (w : List Nat) : List Nat := if m = 0 then w else if m = 1 then 34 :: w ++ [34] else (w.map fun c => [92, c]).flatten
theorem t130 {G : Gl} (g : G1 G) {w : List Nat} {m : Int} (hw : ∀ c ∈ w, c < 128) (hl : w.length ≤ 100) : CL G 4 (.ref 123) [.str (sl w), .int m] [] fun d σ' => d = .str (sl (spell m w)) ∧ σ' = [] := by
  have e := g.hK
  refine cl_def [("word", .str (sl w)), ("manner", .int m)] [] (cs := []) (defOf_K (f := 123) (by rw [e]; rfl) (by rw [e]; kernel_rfl) (by rfl)) (by decide +kernel) (fun _ h => absurd h List.not_mem_nil) (by decide +kernel) (by decide +kernel) (by simp only [List.map_cons, List.map_nil, List.append_nil]; decide +kernel) (by rfl) (fun Z vs hv => ⟨vs, hv, ?_⟩) ?_
  · obtain ⟨u, v, rfl, _, _⟩ := vr2 hv
    exact fun M => Looks.of_pure rfl
  intro env L O
  dsimp only [fnX] at O
  simp only [nsStart, List.map_cons, List.map_nil, List.append_nil, List.cons_append, List.nil_append]
  kt_at_in
  refine ⟨fun hc => ?_, fun hc => ?_⟩
  · kt_at_in
    exact ret_pure (by rw [spell, if_pos (by simpa using hc)])
  have hc0 : ¬ m = 0 := by simpa using hc
  kt_at_in
  refine ⟨fun hc => ?_, fun hc => ?_⟩
  · have hc1 : m = 1 := by simpa using hc
    kt_at_in
    rw [show Str.ofString "\"" = sl [34] by decide +kernel]
    refine bo_adds (by rw [sl_len, sl_len, sizeLine_eq]; simp; omega) ?_
    rw [sl_app]
    kt_at_in
    refine bo_adds (by rw [sl_len, sl_len, sizeLine_eq]; simp; omega) ?_
    rw [sl_app]
    kt_at_in
    exact ret_pure (by rw [spell, if_neg hc0, if_pos hc1]; rfl)
  have hc1 : ¬ m = 1 := by simpa using hc
  kt_at_in
  refine ⟨_, rfl, ?_⟩
  kt_at_in
  refine ev_cp (cl := []) O (by kt_at_item) ?_
  kt_at_in
  refine ⟨_, .str _ (by simp [sl, Array.all_toList]; simpa using hw), by simp [sl]; omega, fun cenv C O' => ?_⟩
  dsimp only at O'
  simp only [sl_toList]
  refine compL_map w _ (fun c => .str (sl [92, c])) (fun σ => ∃ o, σ = [(C, .ns [(Str.ofString ".0", none), (Str.ofString "sign", o)]), (L, .ns [(Str.ofString "word", some (.str (sl w))), (Str.ofString "manner", some (.int m))])]) ?turn ?fin ⟨none, rfl⟩
  case turn =>
    rintro c hc σ ⟨o, rfl⟩
    kt_at_in
    rw [show Str.ofString "\\" = sl [92] by decide +kernel, show (⟨#[c]⟩ : Str) = sl [c] from rfl]
    refine bo_adds (by rw [sl_len, sl_len, sizeLine_eq]; simp) ?_
    rw [sl_app]
    exact ⟨rfl, _, rfl⟩
  case fin =>
    rintro σ ⟨o, rfl⟩
    refine ⟨_, _, rfl, ?_⟩
    kt_at_in
    refine cl_join (xs := (w.map fun c => [92, c]).map sl) (by rw [List.map_map, List.map_map]; exact .lst _) (by rw [show Str.ofString "" = sl [] by decide +kernel, sl_len]; simp only [List.map_map, Function.comp_def, sl_len, List.length_cons, List.length_nil, List.map_const', List.sum_replicate_nat, Nat.mul_zero]; omega) ?_
    rw [join_sl]
    kt_at_in
    exact ⟨[], by simp, by rw [spell, if_neg hc0, if_neg hc1], rfl⟩
theorem plain114 {G : Gl} (g : G1 G) : PlainCls G.K 93 := by
  rw [g.hK]; exact ⟨by kernel_rfl, by kernel_rfl, by kernel_rfl, by kernel_rfl⟩
def attrs4 : List Str := ["lineno", "instream", "whitespace", "pushback", "read"]
theorem attrs114 {G : Gl} (g : G1 G) : Attrs G.K 93 ["lineno", "instream", "whitespace", "pushback", "read"] := by
  rw [g.hK]
  intro x hx
  simp only [List.mem_cons, List.not_mem_nil, or_false] at hx
  rcases hx with rfl | rfl | rfl | rfl | rfl <;> exact ⟨by kernel_rfl, by kernel_rfl⟩
abbrev nsLx (ln : Int) (tx : D) (pb : Addr) (rd : Option D) : List (Str × Option D) :=
  [(Str.ofString "lineno", some (.int ln)), (Str.ofString "instream", some tx), (Str.ofString "whitespace", some (.str (Str.ofString "\n\t\u000d "))), (Str.ofString "pushback", some (.obj pb)), (Str.ofString "_read_char", none), (Str.ofString "get_token", none), (Str.ofString "push_token", none), (Str.ofString "read", rd)]
theorem t90 {G : Gl} (g : G1 G) {x dx : Addr} {d : D} : CLc G 2 (.ref 69) [.obj x, d] [(x, .raw (instObj 93 dx)), (dx, .dct (([Str.ofString "lineno", Str.ofString "instream", Str.ofString "whitespace", Str.ofString "pushback", Str.ofString "_read_char", Str.ofString "get_token", Str.ofString "push_token", Str.ofString "read"] : List Str).map fun y => (y, none)) 0)]
    fun r σ' => r = .none ∧ ∃ pb, σ' = [(pb, .list []), (x, .raw (instObj 93 dx)), (dx, .dct (nsLx 1 d pb none) 4)] := by
  have e := g.hK
  have P := plain114 g
  have PA := attrs114 g
  refine clc_def [("self", .obj x), ("fp", d)] [] (cs := []) (defOf_K (f := 69) (by rw [e]; rfl) (by rw [e]; kernel_rfl) (by rfl)) (by decide +kernel) (fun _ h => absurd h List.not_mem_nil) (by decide +kernel) (by decide +kernel) (by simp only [List.map_cons, List.map_nil, List.append_nil]; decide +kernel) (by rfl) (fun Z vs hv => ⟨vs, hv, ?_⟩) ?_
  · obtain ⟨u, v, rfl, _, _⟩ := vr2 hv
    exact fun M => Looks.of_pure rfl
  intro env L O
  dsimp only [fnX] at O
  simp only [nsStart, List.map_cons, List.map_nil, List.append_nil, List.cons_append, List.nil_append]
  kt_at_in
  (refine' ev_own ?_ ?k1; (case k1 => with_unfolding_all rfl))
  kt_at_in
  refine ⟨by simp, fun pb => ?_⟩
  kt_at_in
  exact ⟨_, .cons_cons _ (.cons _ (.refl _)), rfl, pb, rfl⟩
structure LexA where
  lx : Addr
  ld : Addr
  pb : Addr
  tx : Addr
  td : Addr
  pt : Addr
  lam : Addr
  cp : Addr
  cc : Addr
  lf : Addr
  lamO : Obj
  oc : Obj
abbrev lamL (a : LexA) (left : List Nat) : Led := [(a.lam, .raw a.lamO), (a.cp, .raw a.oc), (a.cc, .cell (some (.obj a.lf))), (a.lf, .list (left.map fun c => .str (sl [c])))]
abbrev lexH (a : LexA) (ln : Int) (pbk : List D) : Led := [(a.lx, .raw (instObj 93 a.ld)), (a.ld, .dct (nsLx ln (.obj a.tx) a.pb none) 4), (a.pb, .list pbk), (a.tx, .raw (instObj 93 a.td)), (a.td, .dct (nsLx 1 .none a.pt (some (.obj a.lam))) 5)]
abbrev LexL (a : LexA) (left : List Nat) (ln : Int) (pbk : List D) : Led := [(a.lx, .raw (instObj 93 a.ld)), (a.ld, .dct (nsLx ln (.obj a.tx) a.pb none) 4), (a.pb, .list pbk), (a.tx, .raw (instObj 93 a.td)), (a.td, .dct (nsLx 1 .none a.pt (some (.obj a.lam))) 5), (a.lam, .raw a.lamO), (a.cp, .raw a.oc), (a.cc, .cell (some (.obj a.lf))), (a.lf, .list (left.map fun c => .str (sl [c])))]
def LexOK (G : Gl) (a : LexA) : Prop := (∃ fd, a.lamO.data = .func fd) ∧ ∀ left : List Nat, left.length ≤ 1000 → CLc G 3 (.ref a.lam) [.int 1] (lamL a left) fun d σ' => d = .str (sl (left.take 1)) ∧ σ' = lamL a (left.drop 1)
theorem g_list114 {G : Gl} (g : G1 G) : Has G "_netrclex" (.val (.ref 93)) := has_K (v := .ref 93) (by rw [g.hK]; kernel_rfl) fun _ => .val _
theorem k_114 {G : Gl} (g : G1 G) : keepIn G.K (.ref 93) = true := by rw [g.hK]; kernel_rfl
theorem new114 {G : Gl} (g : G1 G) {d : D} {σ : Led} {Φ : D → Led → Prop} (h : ∀ x dx pb, Φ (.obj x) ((pb, .list []) :: (x, .raw (instObj 93 dx)) :: (dx, .dct (nsLx 1 d pb none) 4) :: σ)) : CL G 3 (.ref 93) [d] σ Φ := by
  refine (clc_class (fI := 69) (n := 2) [Str.ofString "lineno", Str.ofString "instream", Str.ofString "whitespace", Str.ofString "pushback", Str.ofString "_read_char", Str.ofString "get_token", Str.ofString "push_token", Str.ofString "read"] (by decide +kernel)
    (by rw [g.hK]; kernel_rfl) (by rw [g.hK]; kernel_rfl) (by rw [g.hK]; kernel_rfl) fun x dx => ?_).cl
  refine CLc.frame (σ := [(x, .raw (instObj 93 dx)), (dx, _)]) (ρ := σ) ((t90 g).mono fun r σ' ⟨e, pb, e2⟩ => ⟨e, ?_⟩)
  subst e2
  exact h x dx pb
theorem t125 {G : Gl} (g : G1 G) {text : List Nat} (hl : text.length ≤ 1000) : CL G 5 (.ref 118) [.str (sl text)] [(113, .raw (tabObj #[]))] fun d σ' => ∃ a ps, LexOK G a ∧ d = .obj a.lx ∧ σ' = LexL a text 1 [] ++ [(113, .raw (tabObj ps))] := by
  have e := g.hK
  have P := plain114 g
  have PA := attrs114 g
  have h1 := g_list g
  have h2 := g_list114 g
  refine CL.permTo (Φ := fun d σ' => ∃ σ'', σ''.Perm σ' ∧ ∃ a ps, LexOK G a ∧ d = .obj a.lx ∧ σ'' = LexL a text 1 [] ++ [(113, .raw (tabObj ps))]) ?_ fun _ _ h => h
  refine (clc_defC [("text", .str (sl text))] (defOf_K (f := 118) (by rw [e]; rfl) (by rw [e]; kernel_rfl) (by rfl)) rfl (by decide +kernel) (by decide +kernel) (by simp only [List.map_cons, List.map_nil]; decide +kernel) (by rfl) (fun Z vs hv => ⟨vs, hv, ?_⟩) ?_).cl
  · obtain ⟨u, rfl, _⟩ := vr1 hv
    exact fun M => Looks.of_pure rfl
  intro env L O hcode
  dsimp only [fnX] at O hcode
  rw [show cellsFrom (L + 1) [(Str.ofString "text", NameKind.local), (Str.ofString "tape", NameKind.local), (Str.ofString "left", NameKind.cell), (Str.ofString "list", NameKind.globalImplicit), (Str.ofString "_netrclex", NameKind.globalImplicit)] [] = [(Str.ofString "left", L + 1)] from rfl] at O
  show XS G 4 env _ ((L, .ns [(Str.ofString "text", some (.str (sl text))), (Str.ofString "tape", none)]) :: [(L + 1, .cell none), (113, .raw (tabObj #[]))]) _
  kt_at_in
  refine cl_list_sl (by kt_len) fun lf => ?_
  kt_at_in
  refine kpcl_K (k_114 g) (WI.le (new114 g fun tx td pt => ?_) (by kt_len))
  kt_at_in
  refine ev_lambda (c := 117) (P := 113) (cl := [(Str.ofString "left", L + 1)]) O hcode g.cd rfl rfl rfl (fun ps => by (repeat (first | exact UpdL.head _ | apply UpdL.tail))) fun lam cp oc vs t qual pm ctv ps hoc hvs => ?_
  generalize hlo : kla_obj _ _ _ _ _ _ _ _ _ = lamO
  kt_at_in
  refine kpcl_K (k_114 g) (WI.le (new114 g fun lx ld pb => ?_) (by kt_len))
  kt_at_in
  refine retp (σ' := LexL { lx := lx, ld := ld, pb := pb, tx := tx, td := td, pt := pt, lam := lam, cp := cp, cc := L + 1, lf := lf, lamO := lamO, oc := oc } text 1 [] ++ [(113, .raw (tabObj ps))]) ?sub ⟨_, _, ?ok, rfl, rfl⟩
  case sub =>
    kt_at_method
  case ok =>
    refine ⟨⟨_, by rw [← hlo]⟩, fun left hll => ?_⟩
    show CLc G 3 (.ref lam) [.int 1] [(lam, .raw lamO), (cp, .raw oc), (L + 1, .cell (some (.obj lf))), (lf, .list (left.map fun c => .str (sl [c])))] fun d σ' => d = .str (sl (left.take 1)) ∧ σ' = [(lam, .raw lamO), (cp, .raw oc), (L + 1, .cell (some (.obj lf))), (lf, .list ((left.drop 1).map fun c => .str (sl [c])))]
    refine clc_lam' (cs := [(Str.ofString "left", L + 1)]) [("size", .int 1)] [] hlo (.head _) (.tail _ (.head _)) hoc hvs rfl rfl rfl (by decide +kernel) (fun p hp => by rcases List.mem_cons.mp hp with rfl | hp; rfl; cases hp) (by decide +kernel) (by decide +kernel) (by simp only [List.map_cons, List.map_nil, List.append_nil]; decide +kernel) (by rfl) (fun Z vs hv => ⟨vs, hv, ?_⟩) ?_
    · obtain ⟨u, rfl, _⟩ := vr1 hv
      exact fun M => Looks.of_pure rfl
    intro env L' O'
    simp only [nsStart, List.map_cons, List.map_nil, List.append_nil]
    kt_at_in
    refine tr_list (.obj (xs := left.map fun c => .str (sl [c])) (.tail _ (.tail _ (.tail _ (.tail _ (.head _)))))) (by simp; omega) ?_
    cases left with
    | nil =>
      refine ⟨(by kt_eqs), fun _ => ?_⟩
      kt_at_in
      exact ⟨_, .cons _ (.refl _), by rw [show Str.ofString "" = sl [] by decide +kernel]; rfl, rfl⟩
    | cons c r =>
      refine ⟨fun _ => ?_, (by kt_eqs)⟩
      kt_at_in
      refine ⟨_, _, rfl, .tail _ (.tail _ (.tail _ (.tail _ (.head _)))), ?_⟩
      kt_at_in
      refine cl_pop_at (i := 0) (d := .str (sl [c])) (σ' := [(L', .ns [(Str.ofString "size", some (.int 1))]), (lam, .raw lamO), (cp, .raw oc), (L + 1, .cell (some (.obj lf))), (lf, .list (r.map fun c => .str (sl [c])))]) (.tail _ _ (.tail _ _ (.tail _ _ (.tail _ _ (.head _))))) rfl (by simp at hll ⊢; omega) ?_
      exact ⟨_, .cons _ (.refl _), rfl, rfl⟩
def lnx (left : List Nat) (ln : Int) : Int := if left.head? = some 10 then ln + 1 else ln
theorem k_97 {G : Gl} (g : G1 G) : keepIn G.K (.ref 76) = true := by rw [g.hK]; kernel_rfl
theorem t97 {G : Gl} (g : G1 G) {a : LexA} (ha : LexOK G a) {left : List Nat} {ln : Int} {pbk : List D} (hl : left.length ≤ 1000) :
    CLc G 5 (.ref 76) [.obj a.lx] (LexL a left ln pbk) fun d σ' => d = .str (sl (left.take 1)) ∧ σ' = LexL a (left.drop 1) (lnx left ln) pbk := by
  have e := g.hK
  have P := plain114 g
  have PA := attrs114 g
  obtain ⟨lx, ld, pb, tx, td, pt, lam, cp, cc, lf, lamO, oc⟩ := a
  obtain ⟨hfd, hlam⟩ := ha
  dsimp only at hfd hlam
  show CLc G 5 (.ref 76) [.obj lx] [(lx, .raw (instObj 93 ld)), (ld, .dct (nsLx ln (.obj tx) pb none) 4), (pb, .list pbk), (tx, .raw (instObj 93 td)), (td, .dct (nsLx 1 .none pt (some (.obj lam))) 5), (lam, .raw lamO), (cp, .raw oc), (cc, .cell (some (.obj lf))), (lf, .list (left.map fun c => .str (sl [c])))] fun d σ' => d = .str (sl (left.take 1)) ∧
    σ' = [(lx, .raw (instObj 93 ld)), (ld, .dct (nsLx (lnx left ln) (.obj tx) pb none) 4), (pb, .list pbk), (tx, .raw (instObj 93 td)), (td, .dct (nsLx 1 .none pt (some (.obj lam))) 5), (lam, .raw lamO), (cp, .raw oc), (cc, .cell (some (.obj lf))), (lf, .list ((left.drop 1).map fun c => .str (sl [c])))]
  have hread : findIn G.K (.ref 93) (Str.ofString "read") = some none := by rw [e]; kernel_rfl
  refine clc_def [("self", .obj lx)] ["ch"] (cs := []) (defOf_K (f := 76) (by rw [e]; rfl) (by rw [e]; kernel_rfl) (by rfl)) (by decide +kernel) (fun _ h => absurd h List.not_mem_nil) (by decide +kernel) (by decide +kernel) (by simp only [List.map_cons, List.map_nil, List.append_nil]; decide +kernel) (by rfl) (fun Z vs hv => ⟨vs, hv, ?_⟩) ?_
  · obtain ⟨u, rfl, _⟩ := vr1 hv
    exact fun M => Looks.of_pure rfl
  intro env L O
  dsimp only [fnX] at O
  simp only [nsStart, List.map_cons, List.map_nil, List.cons_append, List.nil_append]
  kt_at_in
  (refine' ev_fmeth P hread ?_ ?k1 ?k2 ?k3 ?k4; (case k1 => with_unfolding_all rfl); (case k2 => with_unfolding_all rfl); (case k3 => with_unfolding_all rfl); (case k4 => with_unfolding_all rfl))
  kt_at_in
  refine ⟨tx, td, _, _, lam, lamO, rfl, by kt_at_get, by kt_at_get, by kt_at_get, ?_⟩
  kt_at_in
  refine ⟨by kt_at_get, hfd, ?_⟩
  refine WI.perm (ρ := [(lam, .raw lamO), (cp, .raw oc), (cc, .cell (some (.obj lf))), (lf, .list (left.map fun c => .str (sl [c])))] ++ [(L, .ns [(Str.ofString "self", some (.obj lx)), (Str.ofString "ch", none)]), (lx, .raw (instObj 93 ld)), (ld, .dct (nsLx ln (.obj tx) pb none) 4), (pb, .list pbk), (tx, .raw (instObj 93 td)), (td, .dct (nsLx 1 .none pt (some (.obj lam))) 5)]) (List.perm_append_comm (l₁ := [_, _, _, _]) (l₂ := [_, _, _, _, _, _])) (WI.frame (((hlam left hl).le (by kt_len)).cl.mono fun d σ' hd => ?_))
  obtain ⟨rfl, rfl⟩ := hd
  refine W1.perm (ρ := [(L, .ns [(Str.ofString "self", some (.obj lx)), (Str.ofString "ch", none)]), (lx, .raw (instObj 93 ld)), (ld, .dct (nsLx ln (.obj tx) pb none) 4), (pb, .list pbk), (tx, .raw (instObj 93 td)), (td, .dct (nsLx 1 .none pt (some (.obj lam))) 5), (lam, .raw lamO), (cp, .raw oc), (cc, .cell (some (.obj lf))), (lf, .list ((left.drop 1).map fun c => .str (sl [c])))]) (List.perm_append_comm (l₁ := [_, _, _, _, _, _]) (l₂ := [_, _, _, _])) ?_
  have e10 : Str.ofString "\n" = sl [10] := by decide +kernel
  kt_at_in
  rw [e10, sl_beq]
  cases left with
  | nil =>
    refine ⟨(by kt_eqs), fun _ => ?_⟩
    kt_at_in
    exact ⟨_, .cons _ (.refl _), rfl, rfl⟩
  | cons c r =>
    by_cases hc : c = 10
    · subst hc
      refine ⟨fun _ => ?_, (by kt_eqs)⟩
      kt_at_in
      exact ⟨_, .cons _ (.refl _), rfl, rfl⟩
    · refine ⟨fun h => by simp [hc] at h, fun _ => ?_⟩
      kt_at_in
      exact ⟨_, .cons _ (.refl _), rfl, by simp [lnx, hc]⟩
abbrev lnT (T : Int) (left : List Nat) : Int := T - (left.count 10 : Nat)
theorem lnT_step (T : Int) (left : List Nat) : lnx left (lnT T left) = lnT T (left.drop 1) := by
  cases left with
  | nil => rfl
  | cons c r =>
    simp only [lnx, lnT, List.head?_cons, List.drop_succ_cons, List.drop_zero, List.count_cons]
    by_cases h : c = 10
    · subst h; simp; omega
    · simp [h]
theorem rcCall {G : Gl} (g : G1 G) {a : LexA} (ha : LexOK G a) {left : List Nat} {T : Int} {pbk : List D} (hl : left.length ≤ 1000) (pre : Led) :
    CLc G 5 (.ref 76) [.obj a.lx] (pre ++ LexL a left (lnT T left) pbk) fun d σ' => d = .str (sl (left.take 1)) ∧ σ' = pre ++ LexL a (left.drop 1) (lnT T (left.drop 1)) pbk := by
  exact CLc.permTo (Φ := fun d σ' => d = .str (sl (left.take 1)) ∧ σ' = LexL a (left.drop 1) (lnT T (left.drop 1)) pbk ++ pre)
    (CLc.perm (ρ := LexL a left (lnT T left) pbk ++ pre) List.perm_append_comm (CLc.frame ((t97 g ha hl).mono fun d σ' ⟨e1, e2⟩ => ⟨e1, by rw [e2, lnT_step]⟩)))
    (fun d σ' ⟨e1, e2⟩ => ⟨pre ++ LexL a (left.drop 1) (lnT T (left.drop 1)) pbk, by rw [e2]; exact List.perm_append_comm, e1, rfl⟩)
theorem fn97 {G : Gl} (g : G1 G) : ∃ oc od fd sl, G.K.lookup 76 = some ⟨oc, od, .func fd, sl⟩ := by rw [g.hK]; exact ⟨_, _, _, _, rfl⟩
theorem g_iter {G : Gl} (g : G1 G) : Has G "iter" (.val (.builtin "iter")) := has_B (by rw [g.hK]; kernel_rfl) (by kernel_rfl) (by decide +kernel) fun _ => .val _
theorem t104 {G : Gl} (g : G1 G) {a : LexA} (ha : LexOK G a) {left rest tok : List Nat} {T : Int} (htok : tokF left = some (tok, rest)) (hl : left.length ≤ 1000) :
    CLc G 7 (.ref 83) [.obj a.lx] (LexL a left (lnT T left) []) fun d σ' => d = .str (sl tok) ∧ σ' = LexL a rest (lnT T rest) [] := by
  have e := g.hK
  have P := plain114 g
  have PA := attrs114 g
  have h1 := g_iter g
  have hrc : findIn G.K (.ref 93) (Str.ofString "_read_char") = some (some (.ref 76)) := by rw [e]; kernel_rfl
  have hrt : typeIn G.K (.ref 76) = some (.type "function") := by rw [e]; kernel_rfl
  have hrk := k_97 g
  have e34 : Str.ofString "\"" = sl [34] := by decide +kernel
  have e92 : Str.ofString "\\" = sl [92] := by decide +kernel
  obtain ⟨oc9, od9, fd9, sl9, hf97⟩ := fn97 g
  have rc := fun (left : List Nat) (hl : left.length ≤ 1000) (pre : Led) => rcCall g ha (left := left) (T := T) (pbk := []) hl pre
  obtain ⟨lx, ld, pb, tx, td, pt, lam, cp, cc, lf, lamO, oc⟩ := a
  refine clc_def [("self", .obj lx)] ["token", "fiter", "ch"] (cs := []) (defOf_K (f := 83) (by rw [e]; rfl) (by rw [e]; kernel_rfl) (by rfl)) (by decide +kernel) (fun _ h => absurd h List.not_mem_nil) (by decide +kernel) (by decide +kernel) (by simp only [List.map_cons, List.map_nil, List.append_nil]; decide +kernel) (by rfl) (fun Z vs hv => ⟨vs, hv, ?_⟩) ?_
  · obtain ⟨u, rfl, _⟩ := vr1 hv
    exact fun M => Looks.of_pure rfl
  intro env L O
  dsimp only [fnX] at O
  simp only [nsStart, List.map_cons, List.map_nil, List.cons_append, List.nil_append]
  kt_at_in
  refine tr_list (.obj (xs := []) (by kt_at_get)) (by simp) ⟨(by kt_eqs), fun _ => ?_⟩
  kt_at_in
  refine ga_bound (f := 76) P (by rw [e]; kernel_rfl) (by rw [e]; kernel_rfl) (by rw [e]; kernel_rfl) (by rw [e]; kernel_rfl) (by decide +kernel) (x := lx) (dx := ld) (m := nsLx (lnT T left) (.obj tx) pb none) (k := 4) (by kt_at_get) (by kt_at_get) (by kt_at_get) fun q => ?_
  kt_at_in
  refine cl_iter2 (q := q) (y := lx) (f := .ref 76) (by kt_at_get) fun it t => ?_
  rw [show Str.ofString "" = sl [] by decide +kernel]
  repeat kt_ors
  refine x_for_ci (n := 5) (it := it) (q := q) (f := 76) (y := lx) (x := sl []) (tk := t) (fun k σ => ∃ left ch, tokF left = some (tok, rest) ∧ k = left.length ∧ left.length ≤ 1000 ∧
    σ = [(it, .raw (ciObj (.ref q) (.str (sl []) t))), (q, .raw (methodObj (.ref 76) (.ref lx))), (L, .ns [(Str.ofString "self", some (.obj lx)), (Str.ofString "token", some (.str (sl []))), (Str.ofString "fiter", some (.obj it)), (Str.ofString "ch", ch)])] ++ LexL ⟨lx, ld, pb, tx, td, pt, lam, cp, cc, lf, lamO, oc⟩ left (lnT T left) []) hf97 ?iter ?turn (by intro _; with_unfolding_all rfl) (by intro _ _; with_unfolding_all rfl)
  case iter =>
    repeat kt_ors
    exact ⟨rfl, _, left, _, htok, rfl, hl, rfl⟩
  case turn =>
    clear htok hl left
    rintro k σ ⟨left, ch, htok, rfl, hl, rfl⟩
    refine ⟨.head _, .tail _ (.head _), (rc left hl _).mono fun d σ' ⟨e1, e2⟩ => ?_⟩
    subst e1; subst e2
    refine ⟨.head _, .tail _ (.head _), _, rfl, fun hne => ?_, fun heq => ?_⟩
    · cases left with
      | nil => exact absurd rfl hne
      | cons c r =>
        dsimp only [List.take_succ_cons, List.take_zero, List.drop_succ_cons, List.drop_zero, LexL, List.cons_append, List.nil_append]
        repeat kt_ors
        rw [ws_contains]
        refine ⟨fun hw => ?_, fun hw => ?_⟩
        · repeat kt_ors
          rw [tokF_cons, if_pos hw] at htok
          exact ⟨r.length, by simp, r, _, htok, rfl, by simp at hl; omega, rfl⟩
        rw [tokF_cons, if_neg (by simp [hw])] at htok
        repeat kt_ors
        (try rw [e34]); rw [sl_beq]
        refine ⟨fun hq => ?_, fun hq => ?_⟩
        · rw [if_pos (by simpa using hq)] at htok
          have htok' := htok
          repeat kt_ors
          refine x_for_ci (n := 5) (it := it) (q := q) (f := 76) (y := lx) (x := sl []) (tk := t) (fun k σ => ∃ left acc ch, quo acc left = some (tok, rest) ∧ k = left.length ∧ left.length ≤ 1000 ∧ acc.length + left.length ≤ 2000 ∧
            σ = [(it, .raw (ciObj (.ref q) (.str (sl []) t))), (q, .raw (methodObj (.ref 76) (.ref lx))), (L, .ns [(Str.ofString "self", some (.obj lx)), (Str.ofString "token", some (.str (sl acc))), (Str.ofString "fiter", some (.obj it)), (Str.ofString "ch", ch)])] ++ LexL ⟨lx, ld, pb, tx, td, pt, lam, cp, cc, lf, lamO, oc⟩ left (lnT T left) []) hf97 ?iterQ ?turnQ (by intro _; with_unfolding_all rfl) (by intro _ _; with_unfolding_all rfl)
          case iterQ =>
            repeat kt_ors
            exact ⟨rfl, _, _, _, _, htok', rfl, by first | omega | (simp only [List.length_cons, List.length_nil] at hl ⊢; omega) | (simp only [List.length_cons, List.length_nil]; omega), by first | omega | (simp only [List.length_cons, List.length_nil] at hl ⊢; omega) | (simp only [List.length_cons, List.length_nil]; omega), rfl⟩
          case turnQ =>
            clear htok' htok hl
            rintro k σ ⟨left, acc, ch, htok, rfl, hl, hl2, rfl⟩
            refine ⟨.head _, .tail _ (.head _), (rc left hl _).mono fun d σ' hd => ?_⟩
            obtain ⟨rfl, rfl⟩ := hd
            refine ⟨.head _, .tail _ (.head _), _, rfl, fun hne => ?_, fun heq => ?_⟩
            · cases left with
              | nil => exact absurd rfl hne
              | cons c r =>
                rw [quo_cons] at htok
                simp only [List.length_cons] at hl hl2
                dsimp only [List.take_succ_cons, List.take_zero, List.drop_succ_cons, List.drop_zero, LexL, List.cons_append, List.nil_append]
                repeat kt_ors
                (try rw [e34]); rw [sl_beq]
                refine ⟨fun hw => ?_, fun hw => ?_⟩
                · repeat kt_ors
                  rw [if_pos (by simpa using hw)] at htok
                  cases htok
                  exact ⟨_, .cons _ (.cons _ (.cons _ (.refl _))), rfl, rfl⟩
                · repeat kt_ors
                  (try rw [e92]); rw [sl_beq]
                  rw [if_neg (by simpa using hw)] at htok
                  refine ⟨fun hb => ?_, fun hb => ?_⟩
                  · have hb' : c = 92 := by simpa using hb
                    rw [if_pos hb'] at htok
                    repeat kt_ors
                    (refine' ev_imeth (f := 76) P hrc hrt hrk ?_ ?k1 ?k2 ?k3 ?k4; (case k1 => with_unfolding_all rfl); (case k2 => with_unfolding_all rfl); (case k3 => with_unfolding_all rfl); (case k4 => with_unfolding_all rfl))
                    repeat kt_ors
                    refine ⟨lx, ld, _, _, rfl, by kt_at_get, by kt_at_get, by kt_at_get, ?_⟩
                    repeat kt_ors
                    refine WI.mono (WI.le (rc r (by kt_len) [(it, .raw (ciObj (.ref q) (.str (sl []) t))), (q, .raw (methodObj (.ref 76) (.ref lx))), (L, .ns [(Str.ofString "self", some (.obj lx)), (Str.ofString "token", some (.str (sl acc))), (Str.ofString "fiter", some (.obj it)), (Str.ofString "ch", some (.str (sl [c])))])]).cl (by kt_len)) fun d σ' hd => ?_
                    obtain ⟨rfl, rfl⟩ := hd
                    cases r with
                    | nil => cases htok
                    | cons c' r' =>
                      dsimp only at htok
                      simp only [List.length_cons] at hl hl2
                      dsimp only [List.take_succ_cons, List.take_zero, List.drop_succ_cons, List.drop_zero, LexL, List.cons_append, List.nil_append]
                      repeat kt_ors
                      refine io_sl (by simp; omega) ?_
                      repeat kt_ors
                      exact ⟨r'.length, by simp only [List.length_cons]; omega, r', acc ++ [c'], _, htok, rfl, by kt_len, by simp; omega, rfl⟩
                  · have hb' : ¬ c = 92 := by simpa using hb
                    rw [if_neg hb'] at htok
                    repeat kt_ors
                    refine io_sl (by simp; omega) ?_
                    repeat kt_ors
                    exact ⟨r.length, by simp, r, acc ++ [c], _, htok, rfl, by kt_len, by simp; omega, rfl⟩
            · cases left with
              | nil => rw [quo_nil] at htok; cases htok
              | cons c r => exact absurd (sl_inj.mp heq) (by simp)
        · rw [if_neg (by simpa using hq)] at htok
          repeat kt_ors
          (try rw [e92]); rw [sl_beq]
          refine ⟨fun hb => ?_, fun hb => ?_⟩
          · have hb' : c = 92 := by simpa using hb
            rw [if_pos hb'] at htok
            simp only [List.length_cons] at hl
            repeat kt_ors
            (refine' ev_imeth (f := 76) P hrc hrt hrk ?_ ?k1 ?k2 ?k3 ?k4; (case k1 => with_unfolding_all rfl); (case k2 => with_unfolding_all rfl); (case k3 => with_unfolding_all rfl); (case k4 => with_unfolding_all rfl))
            repeat kt_ors
            refine ⟨lx, ld, _, _, rfl, by kt_at_get, by kt_at_get, by kt_at_get, ?_⟩
            repeat kt_ors
            refine WI.mono (WI.le (rc r (by kt_len) [(it, .raw (ciObj (.ref q) (.str (sl []) t))), (q, .raw (methodObj (.ref 76) (.ref lx))), (L, .ns [(Str.ofString "self", some (.obj lx)), (Str.ofString "token", some (.str (sl []))), (Str.ofString "fiter", some (.obj it)), (Str.ofString "ch", some (.str (sl [c])))])]).cl (by kt_len)) fun d σ' hd => ?_
            obtain ⟨rfl, rfl⟩ := hd
            cases r with
            | nil => cases htok
            | cons c' r' =>
              dsimp only at htok
              simp only [List.length_cons] at hl
              dsimp only [List.take_succ_cons, List.take_zero, List.drop_succ_cons, List.drop_zero, LexL, List.cons_append, List.nil_append]
              repeat kt_ors
              refine io_sl (by simp) ?_
              repeat kt_ors
              have htok' := htok
              refine x_for_ci (n := 5) (it := it) (q := q) (f := 76) (y := lx) (x := sl []) (tk := t) (fun k σ => ∃ left acc ch, unq acc left = some (tok, rest) ∧ k = left.length ∧ left.length ≤ 1000 ∧ acc.length + left.length ≤ 2000 ∧
                σ = [(it, .raw (ciObj (.ref q) (.str (sl []) t))), (q, .raw (methodObj (.ref 76) (.ref lx))), (L, .ns [(Str.ofString "self", some (.obj lx)), (Str.ofString "token", some (.str (sl acc))), (Str.ofString "fiter", some (.obj it)), (Str.ofString "ch", ch)])] ++ LexL ⟨lx, ld, pb, tx, td, pt, lam, cp, cc, lf, lamO, oc⟩ left (lnT T left) []) hf97 ?iterU ?turnU (by intro _; with_unfolding_all rfl) (by intro _ _; with_unfolding_all rfl)
              case iterU =>
                repeat kt_ors
                exact ⟨rfl, _, _, _, _, htok', rfl, by first | omega | (simp only [List.length_cons, List.length_nil] at hl ⊢; omega) | (simp only [List.length_cons, List.length_nil]; omega), by first | omega | (simp only [List.length_cons, List.length_nil] at hl ⊢; omega) | (simp only [List.length_cons, List.length_nil]; omega), rfl⟩
              case turnU =>
                clear htok' htok hl
                rintro k σ ⟨left, acc, ch, htok, rfl, hl, hl2, rfl⟩
                refine ⟨.head _, .tail _ (.head _), (rc left hl _).mono fun d σ' hd => ?_⟩
                obtain ⟨rfl, rfl⟩ := hd
                refine ⟨.head _, .tail _ (.head _), _, rfl, fun hne => ?_, fun heq => ?_⟩
                · cases left with
                  | nil => exact absurd rfl hne
                  | cons c r =>
                    rw [unq_cons] at htok
                    simp only [List.length_cons] at hl hl2
                    dsimp only [List.take_succ_cons, List.take_zero, List.drop_succ_cons, List.drop_zero, LexL, List.cons_append, List.nil_append]
                    repeat kt_ors
                    rw [ws_contains]
                    refine ⟨fun hw => ?_, fun hw => ?_⟩
                    · repeat kt_ors
                      rw [if_pos hw] at htok
                      cases htok
                      exact ⟨_, .cons _ (.cons _ (.cons _ (.refl _))), rfl, rfl⟩
                    · repeat kt_ors
                      (try rw [e92]); rw [sl_beq]
                      rw [if_neg (by simp [hw])] at htok
                      refine ⟨fun hb => ?_, fun hb => ?_⟩
                      · have hb' : c = 92 := by simpa using hb
                        rw [if_pos hb'] at htok
                        repeat kt_ors
                        (refine' ev_imeth (f := 76) P hrc hrt hrk ?_ ?k1 ?k2 ?k3 ?k4; (case k1 => with_unfolding_all rfl); (case k2 => with_unfolding_all rfl); (case k3 => with_unfolding_all rfl); (case k4 => with_unfolding_all rfl))
                        repeat kt_ors
                        refine ⟨lx, ld, _, _, rfl, by kt_at_get, by kt_at_get, by kt_at_get, ?_⟩
                        repeat kt_ors
                        refine WI.mono (WI.le (rc r (by kt_len) [(it, .raw (ciObj (.ref q) (.str (sl []) t))), (q, .raw (methodObj (.ref 76) (.ref lx))), (L, .ns [(Str.ofString "self", some (.obj lx)), (Str.ofString "token", some (.str (sl acc))), (Str.ofString "fiter", some (.obj it)), (Str.ofString "ch", some (.str (sl [c])))])]).cl (by kt_len)) fun d σ' hd => ?_
                        obtain ⟨rfl, rfl⟩ := hd
                        cases r with
                        | nil => cases htok
                        | cons c' r' =>
                          dsimp only at htok
                          simp only [List.length_cons] at hl hl2
                          dsimp only [List.take_succ_cons, List.take_zero, List.drop_succ_cons, List.drop_zero, LexL, List.cons_append, List.nil_append]
                          repeat kt_ors
                          refine io_sl (by simp; omega) ?_
                          repeat kt_ors
                          exact ⟨r'.length, by simp only [List.length_cons]; omega, r', acc ++ [c'], _, htok, rfl, by kt_len, by simp; omega, rfl⟩
                      · have hb' : ¬ c = 92 := by simpa using hb
                        rw [if_neg hb'] at htok
                        repeat kt_ors
                        refine io_sl (by simp; omega) ?_
                        repeat kt_ors
                        exact ⟨r.length, by simp, r, acc ++ [c], _, htok, rfl, by kt_len, by simp; omega, rfl⟩
                · cases left with
                  | nil => rw [unq_nil] at htok; cases htok
                  | cons c r => exact absurd (sl_inj.mp heq) (by simp)
          · have hb' : ¬ c = 92 := by simpa using hb
            rw [if_neg hb'] at htok
            simp only [List.length_cons] at hl
            repeat kt_ors
            refine io_sl (by simp) ?_
            repeat kt_ors
            have htok' := htok
            refine x_for_ci (n := 5) (it := it) (q := q) (f := 76) (y := lx) (x := sl []) (tk := t) (fun k σ => ∃ left acc ch, unq acc left = some (tok, rest) ∧ k = left.length ∧ left.length ≤ 1000 ∧ acc.length + left.length ≤ 2000 ∧
              σ = [(it, .raw (ciObj (.ref q) (.str (sl []) t))), (q, .raw (methodObj (.ref 76) (.ref lx))), (L, .ns [(Str.ofString "self", some (.obj lx)), (Str.ofString "token", some (.str (sl acc))), (Str.ofString "fiter", some (.obj it)), (Str.ofString "ch", ch)])] ++ LexL ⟨lx, ld, pb, tx, td, pt, lam, cp, cc, lf, lamO, oc⟩ left (lnT T left) []) hf97 ?iterV ?turnV (by intro _; with_unfolding_all rfl) (by intro _ _; with_unfolding_all rfl)
            case iterV =>
              repeat kt_ors
              exact ⟨rfl, _, _, _, _, htok', rfl, by first | omega | (simp only [List.length_cons, List.length_nil] at hl ⊢; omega) | (simp only [List.length_cons, List.length_nil]; omega), by first | omega | (simp only [List.length_cons, List.length_nil] at hl ⊢; omega) | (simp only [List.length_cons, List.length_nil]; omega), rfl⟩
            case turnV =>
              clear htok' htok hl
              rintro k σ ⟨left, acc, ch, htok, rfl, hl, hl2, rfl⟩
              refine ⟨.head _, .tail _ (.head _), (rc left hl _).mono fun d σ' hd => ?_⟩
              obtain ⟨rfl, rfl⟩ := hd
              refine ⟨.head _, .tail _ (.head _), _, rfl, fun hne => ?_, fun heq => ?_⟩
              · cases left with
                | nil => exact absurd rfl hne
                | cons c r =>
                  rw [unq_cons] at htok
                  simp only [List.length_cons] at hl hl2
                  dsimp only [List.take_succ_cons, List.take_zero, List.drop_succ_cons, List.drop_zero, LexL, List.cons_append, List.nil_append]
                  repeat kt_ors
                  rw [ws_contains]
                  refine ⟨fun hw => ?_, fun hw => ?_⟩
                  · repeat kt_ors
                    rw [if_pos hw] at htok
                    cases htok
                    exact ⟨_, .cons _ (.cons _ (.cons _ (.refl _))), rfl, rfl⟩
                  · repeat kt_ors
                    (try rw [e92]); rw [sl_beq]
                    rw [if_neg (by simp [hw])] at htok
                    refine ⟨fun hb => ?_, fun hb => ?_⟩
                    · have hb' : c = 92 := by simpa using hb
                      rw [if_pos hb'] at htok
                      repeat kt_ors
                      (refine' ev_imeth (f := 76) P hrc hrt hrk ?_ ?k1 ?k2 ?k3 ?k4; (case k1 => with_unfolding_all rfl); (case k2 => with_unfolding_all rfl); (case k3 => with_unfolding_all rfl); (case k4 => with_unfolding_all rfl))
                      repeat kt_ors
                      refine ⟨lx, ld, _, _, rfl, by kt_at_get, by kt_at_get, by kt_at_get, ?_⟩
                      repeat kt_ors
                      refine WI.mono (WI.le (rc r (by kt_len) [(it, .raw (ciObj (.ref q) (.str (sl []) t))), (q, .raw (methodObj (.ref 76) (.ref lx))), (L, .ns [(Str.ofString "self", some (.obj lx)), (Str.ofString "token", some (.str (sl acc))), (Str.ofString "fiter", some (.obj it)), (Str.ofString "ch", some (.str (sl [c])))])]).cl (by kt_len)) fun d σ' hd => ?_
                      obtain ⟨rfl, rfl⟩ := hd
                      cases r with
                      | nil => cases htok
                      | cons c' r' =>
                        dsimp only at htok
                        simp only [List.length_cons] at hl hl2
                        dsimp only [List.take_succ_cons, List.take_zero, List.drop_succ_cons, List.drop_zero, LexL, List.cons_append, List.nil_append]
                        repeat kt_ors
                        refine io_sl (by simp; omega) ?_
                        repeat kt_ors
                        exact ⟨r'.length, by simp only [List.length_cons]; omega, r', acc ++ [c'], _, htok, rfl, by kt_len, by simp; omega, rfl⟩
                    · have hb' : ¬ c = 92 := by simpa using hb
                      rw [if_neg hb'] at htok
                      repeat kt_ors
                      refine io_sl (by simp; omega) ?_
                      repeat kt_ors
                      exact ⟨r.length, by simp, r, acc ++ [c], _, htok, rfl, by kt_len, by simp; omega, rfl⟩
              · cases left with
                | nil => rw [unq_nil] at htok; cases htok
                | cons c r => exact absurd (sl_inj.mp heq) (by simp)
    · cases left with
      | nil =>
        rw [tokF_nil] at htok
        cases htok
        dsimp only [List.take_nil, List.drop_nil, LexL, List.cons_append, List.nil_append]
        refine ⟨_, .head _, ?_⟩
        repeat kt_ors
        exact ⟨_, .cons _ (.cons _ (.cons _ (.refl _))), rfl, rfl⟩
      | cons c r => exact absurd (sl_inj.mp heq) (by simp)
theorem gtCall {G : Gl} (g : G1 G) {a : LexA} (ha : LexOK G a) {left rest tok : List Nat} {T : Int} (htok : tokF left = some (tok, rest)) (hl : left.length ≤ 1000) (pre : Led) :
    CLc G 7 (.ref 83) [.obj a.lx] (pre ++ LexL a left (lnT T left) []) fun d σ' => d = .str (sl tok) ∧ σ' = pre ++ LexL a rest (lnT T rest) [] :=
  CLc.permTo (Φ := fun d σ' => d = .str (sl tok) ∧ σ' = LexL a rest (lnT T rest) [] ++ pre)
    (CLc.perm (ρ := LexL a left (lnT T left) [] ++ pre) List.perm_append_comm (CLc.frame ((t104 g ha htok hl).mono fun d σ' ⟨e1, e2⟩ => ⟨e1, by rw [e2]⟩)))
    (fun d σ' ⟨e1, e2⟩ => ⟨pre ++ LexL a rest (lnT T rest) [], by rw [e2]; exact List.perm_append_comm, e1, rfl⟩)
theorem k_104 {G : Gl} (g : G1 G) : keepIn G.K (.ref 83) = true := by rw [g.hK]; kernel_rfl
theorem f_104 {G : Gl} (g : G1 G) : findIn G.K (.ref 93) (Str.ofString "get_token") = some (some (.ref 83)) := by rw [g.hK]; kernel_rfl
theorem ty_104 {G : Gl} (g : G1 G) : typeIn G.K (.ref 83) = some (.type "function") := by rw [g.hK]; kernel_rfl
theorem hue {G : Gl} (g : G1 G) {h : UInt64} {r : List D} : CL G 2 (.ref 144) [.tup (.float h :: r)] [] fun d σ' => d = .float h ∧ σ' = [] := by
  have e := g.hK
  refine cl_def [("shade", .tup (.float h :: r))] [] (cs := []) (defOf_K (f := 144) (by rw [e]; rfl) (by rw [e]; kernel_rfl) (by rfl)) (by decide +kernel) (fun _ h => absurd h List.not_mem_nil) (by decide +kernel) (by decide +kernel) (by simp only [List.map_cons, List.map_nil, List.append_nil]; decide +kernel) (by rfl) (fun Z vs hv => ⟨vs, hv, ?_⟩) ?_
  · obtain ⟨u, rfl, _⟩ := vr1 hv
    exact fun M => Looks.of_pure rfl
  intro env L O
  dsimp only [fnX] at O
  simp only [nsStart, List.map_cons, List.map_nil, List.append_nil, List.cons_append, List.nil_append]
  kt_at_in
  refine gi_tup (i := 0) rfl (by decide) ?_
  kt_at_in
  exact ret_pure rfl
theorem kp_144 {G : Gl} (g : G1 G) : keepIn G.K (.ref 144) = true := by rw [g.hK]; kernel_rfl
abbrev fltB (a b : UInt64) : Bool := Float64.cmp a b == some .lt
abbrev eD (p : UInt64 × List D) : D := .tup (.float p.1 :: p.2)
def bis (p : Nat → Bool) : Nat → Nat → Nat → Nat
  | 0, lo, _ => lo
  | f + 1, lo, hi => if lo < hi then (if p ((lo + hi) / 2) then bis p f lo ((lo + hi) / 2) else bis p f ((lo + hi) / 2 + 1) hi) else lo
theorem bis_le (p : Nat → Bool) : ∀ f lo hi, lo ≤ hi → bis p f lo hi ≤ hi
  | 0, lo, hi, h => h
  | f + 1, lo, hi, h => by
    rw [bis]
    split
    · split
      · have := bis_le p f lo ((lo + hi) / 2) (by kt_len); omega
      · exact bis_le p f ((lo + hi) / 2 + 1) hi (by kt_len)
    · exact h
abbrev bns (a x lo hi key mid : Option D) : List (Str × Option D) := [("a", a), ("x", x), ("lo", lo), ("hi", hi), ("key", key), ("mid", mid)]
theorem mid_of (lo hi : Nat) : ((lo : Int) + hi).fdiv 2 = ((lo + hi) / 2 : Nat) := by
  rw [Int.fdiv_eq_ediv_of_nonneg _ (by kt_len)]; omega
theorem bisk_r {G : Gl} (g : G1 G) {dA : D} {x : UInt64} {ws : List (UInt64 × List D)} (hl : ws.length ≤ 1000) {σ₀ : Led} (hmem : ∀ q, SeqIs (q :: σ₀) dA (ws.map eD)) {ds : List D} (hds : ds = [dA, .float x, .int 0, .none] ∨ ds = [dA, .float x]) :
    CLkw G 4 (.ref 32) ds "key" (.val (.ref 144)) σ₀ fun r σ' => r = .int (bis (fun m => fltB x (ws.getD m (0, [])).1) ws.length 0 ws.length : Nat) ∧ σ' = σ₀ := by
  have e := g.hK
  have h3 := g_len g
  refine cl_def_kw [("a", dA), ("x", .float x), ("lo", .int 0), ("hi", .none), ("key", .val (.ref 144))] ["mid"] (cs := []) (defOf_K (f := 32) (by rw [e]; rfl) (by rw [e]; kernel_rfl) (by rfl)) (by decide +kernel) (fun _ h => absurd h List.not_mem_nil) (by decide +kernel) (by decide +kernel) (by simp only [List.map_cons, List.map_nil, List.append_nil]; decide +kernel) (by rfl) (fun Z vs k hv hk => ?_) ?_
  · rcases hds with rfl | rfl
    · obtain ⟨u, v, w, x, rfl, h1, h2, h3, h4⟩ := vr4 hv
      refine ⟨[u, v, w, x, k], .cons h1 (.cons h2 (.cons h3 (.cons h4 (.cons hk .nil)))), fun M => Looks.of_peek G.kin ?_⟩
      rw [e]; exact rfl
    · obtain ⟨u, v, rfl, h1, h2⟩ := vr2 hv
      refine ⟨[u, v, .int 0 202, .none, k], .cons h1 (.cons h2 (.cons (.int _ _) (.cons .none (.cons hk .nil)))), fun M => Looks.of_peek G.kin ?_⟩
      rw [e]; exact rfl
  intro env L O
  clear hds
  dsimp only [fnX] at O
  simp only [nsStart, List.map_cons, List.map_nil, List.append_nil, List.cons_append, List.nil_append]
  generalize hxs : (ws.map eD) = xs at hmem
  have hxl : xs.length = ws.length := by rw [← hxs]; simp
  generalize hR : bis (fun m => fltB x (ws.getD m (0, [])).1) ws.length 0 ws.length = R
  kt_at_in
  refine ⟨fun h => by simp at h, fun _ => ?_⟩
  kt_at_in
  refine ⟨fun _ => ?_, (by kt_eqs)⟩
  kt_at_in
  refine cl_len_list (xs := xs) (hmem _) (by kt_len) ?_
  kt_at_in
  refine ⟨(by kt_eqs), fun _ => ?_⟩
  kt_at_notin
  refine x_while_to (fun k σ => ∃ lo hi mid, lo ≤ hi ∧ hi ≤ ws.length ∧ hi - lo ≤ k ∧ bis (fun m => fltB x (ws.getD m (0, [])).1) k lo hi = R ∧ σ = [(L, .ns (bns (some (dA)) (some (.float x)) (some (.int (lo : Nat))) (some (.int (hi : Nat))) (some (.val (.ref 144))) mid))] ++ σ₀)
    (fun σ => ∃ hi mid, σ = [(L, .ns (bns (some (dA)) (some (.float x)) (some (.int (R : Nat))) (some (.int (hi : Nat))) (some (.val (.ref 144))) mid))] ++ σ₀) ?turn ws.length ⟨0, ws.length, none, by kt_len, by kt_len, by kt_len, hR, by rw [hxl]; rfl⟩ ?after
  case turn =>
    rintro k σ ⟨lo, hi, mid, h1, h2, h3, hr, rfl⟩
    simp only [List.cons_append, List.nil_append]
    kt_at_in
    refine ⟨fun hc => ?_, fun hc => ?_⟩
    · have hlt : lo < hi := by simpa using hc
      obtain ⟨k, rfl⟩ : ∃ j, k = j + 1 := ⟨k - 1, by kt_len⟩
      rw [bis, if_pos hlt] at hr
      kt_at_in
      refine bo_fdiv (by decide) (PyProof.noPylong_small (by decide)) ?_
      rw [mid_of]
      generalize hm : (lo + hi) / 2 = m at hr ⊢
      have hm1 : m < hi := by kt_len
      have hm2 : lo ≤ m := by kt_len
      have hg : xs[((m : Nat) : Int).toNat]? = some (eD (ws.getD m (0, []))) := by
        rw [← hxs]; simp [show m < ws.length by kt_len]
      kt_at_in
      refine gi_list (hmem _) (by kt_len) hg (by kt_len) ?_
      kt_at_in
      refine kpcl_K (kp_144 g) (pure_use (hue g) (by kt_len) ?_)
      kt_at_in
      refine ⟨fun hh => ?_, fun hh => ?_⟩
      · rw [if_pos hh] at hr
        kt_at_in
        exact ⟨k, by kt_len, lo, m, _, by kt_len, by kt_len, by kt_len, hr, rfl⟩
      · rw [if_neg (fun q => by rw [show fltB x (ws.getD m (0, [])).1 = false from hh] at q; cases q)] at hr
        kt_at_in
        exact ⟨k, by kt_len, m + 1, hi, _, by kt_len, by kt_len, by kt_len, hr, rfl⟩
    · have hge : ¬ lo < hi := by simpa using hc
      refine ⟨hi, mid, ?_⟩
      cases k with
      | zero => rw [bis] at hr; subst hr; rfl
      | succ k => rw [bis, if_neg hge] at hr; subst hr; rfl
  case after =>
  rintro σ ⟨hi, mid, rfl⟩
  simp only [List.cons_append, List.nil_append]
  kt_at_in
  exact ⟨σ₀, .cons _ (List.Sublist.refl _), rfl, rfl⟩
theorem bisk_l {G : Gl} (g : G1 G) {dA : D} {x : UInt64} {ws : List (UInt64 × List D)} (hl : ws.length ≤ 1000) {σ₀ : Led} (hmem : ∀ q, SeqIs (q :: σ₀) dA (ws.map eD)) {ds : List D} (hds : ds = [dA, .float x, .int 0, .none] ∨ ds = [dA, .float x]) :
    CLkw G 4 (.ref 41) ds "key" (.val (.ref 144)) σ₀ fun r σ' => r = .int (bis (fun m => !fltB (ws.getD m (0, [])).1 x) ws.length 0 ws.length : Nat) ∧ σ' = σ₀ := by
  have e := g.hK
  have h3 := g_len g
  refine cl_def_kw [("a", dA), ("x", .float x), ("lo", .int 0), ("hi", .none), ("key", .val (.ref 144))] ["mid"] (cs := []) (defOf_K (f := 41) (by rw [e]; rfl) (by rw [e]; kernel_rfl) (by rfl)) (by decide +kernel) (fun _ h => absurd h List.not_mem_nil) (by decide +kernel) (by decide +kernel) (by simp only [List.map_cons, List.map_nil, List.append_nil]; decide +kernel) (by rfl) (fun Z vs k hv hk => ?_) ?_
  · rcases hds with rfl | rfl
    · obtain ⟨u, v, w, x, rfl, h1, h2, h3, h4⟩ := vr4 hv
      refine ⟨[u, v, w, x, k], .cons h1 (.cons h2 (.cons h3 (.cons h4 (.cons hk .nil)))), fun M => Looks.of_peek G.kin ?_⟩
      rw [e]; exact rfl
    · obtain ⟨u, v, rfl, h1, h2⟩ := vr2 hv
      refine ⟨[u, v, .int 0 216, .none, k], .cons h1 (.cons h2 (.cons (.int _ _) (.cons .none (.cons hk .nil)))), fun M => Looks.of_peek G.kin ?_⟩
      rw [e]; exact rfl
  intro env L O
  clear hds
  dsimp only [fnX] at O
  simp only [nsStart, List.map_cons, List.map_nil, List.append_nil, List.cons_append, List.nil_append]
  generalize hxs : (ws.map eD) = xs at hmem
  have hxl : xs.length = ws.length := by rw [← hxs]; simp
  generalize hR : bis (fun m => !fltB (ws.getD m (0, [])).1 x) ws.length 0 ws.length = R
  kt_at_in
  refine ⟨fun h => by simp at h, fun _ => ?_⟩
  kt_at_in
  refine ⟨fun _ => ?_, (by kt_eqs)⟩
  kt_at_in
  refine cl_len_list (xs := xs) (hmem _) (by kt_len) ?_
  kt_at_in
  refine ⟨(by kt_eqs), fun _ => ?_⟩
  kt_at_notin
  refine x_while_to (fun k σ => ∃ lo hi mid, lo ≤ hi ∧ hi ≤ ws.length ∧ hi - lo ≤ k ∧ bis (fun m => !fltB (ws.getD m (0, [])).1 x) k lo hi = R ∧ σ = [(L, .ns (bns (some (dA)) (some (.float x)) (some (.int (lo : Nat))) (some (.int (hi : Nat))) (some (.val (.ref 144))) mid))] ++ σ₀)
    (fun σ => ∃ hi mid, σ = [(L, .ns (bns (some (dA)) (some (.float x)) (some (.int (R : Nat))) (some (.int (hi : Nat))) (some (.val (.ref 144))) mid))] ++ σ₀) ?turn ws.length ⟨0, ws.length, none, by kt_len, by kt_len, by kt_len, hR, by rw [hxl]; rfl⟩ ?after
  case turn =>
    rintro k σ ⟨lo, hi, mid, h1, h2, h3, hr, rfl⟩
    simp only [List.cons_append, List.nil_append]
    kt_at_in
    refine ⟨fun hc => ?_, fun hc => ?_⟩
    · have hlt : lo < hi := by simpa using hc
      obtain ⟨k, rfl⟩ : ∃ j, k = j + 1 := ⟨k - 1, by kt_len⟩
      rw [bis, if_pos hlt] at hr
      kt_at_in
      refine bo_fdiv (by decide) (PyProof.noPylong_small (by decide)) ?_
      rw [mid_of]
      generalize hm : (lo + hi) / 2 = m at hr ⊢
      have hm1 : m < hi := by kt_len
      have hm2 : lo ≤ m := by kt_len
      have hg : xs[((m : Nat) : Int).toNat]? = some (eD (ws.getD m (0, []))) := by
        rw [← hxs]; simp [show m < ws.length by kt_len]
      kt_at_in
      refine gi_list (hmem _) (by kt_len) hg (by kt_len) ?_
      kt_at_in
      refine kpcl_K (kp_144 g) (pure_use (hue g) (by kt_len) ?_)
      kt_at_in
      refine ⟨fun hh => ?_, fun hh => ?_⟩
      · rw [if_neg (fun q => by rw [show fltB (ws.getD m (0, [])).1 x = true from hh] at q; cases q)] at hr
        kt_at_in
        exact ⟨k, by kt_len, m + 1, hi, _, by kt_len, by kt_len, by kt_len, hr, rfl⟩
      · rw [if_pos (by rw [show fltB (ws.getD m (0, [])).1 x = false from hh]; rfl)] at hr
        kt_at_in
        exact ⟨k, by kt_len, lo, m, _, by kt_len, by kt_len, by kt_len, hr, rfl⟩
    · have hge : ¬ lo < hi := by simpa using hc
      refine ⟨hi, mid, ?_⟩
      cases k with
      | zero => rw [bis] at hr; subst hr; rfl
      | succ k => rw [bis, if_neg hge] at hr; subst hr; rfl
  case after =>
  rintro σ ⟨hi, mid, rfl⟩
  simp only [List.cons_append, List.nil_append]
  kt_at_in
  exact ⟨σ₀, .cons _ (List.Sublist.refl _), rfl, rfl⟩
theorem insortk {G : Gl} (g : G1 G) {a : Addr} {p : UInt64 × List D} {ws : List (UInt64 × List D)} (hl : ws.length ≤ 1000) {σ₀ σ₁ : Led} {k : Nat} (hk : bis (fun m => fltB p.1 (ws.getD m (0, [])).1) ws.length 0 ws.length = k)
    (U : UpdL a (.list (ws.map eD)) (.list ((ws.take k ++ p :: ws.drop k).map eD)) σ₀ σ₁) :
    CLkw G 6 (.ref 23) [.obj a, eD p] "key" (.val (.ref 144)) σ₀ fun r σ' => r = .none ∧ σ' = σ₁ := by
  have e := g.hK
  have h3 := g_br g
  refine cl_def_kw [("a", .obj a), ("x", eD p), ("lo", .int 0), ("hi", .none), ("key", .val (.ref 144))] [] (cs := []) (defOf_K (f := 23) (by rw [e]; rfl) (by rw [e]; kernel_rfl) (by rfl)) (by decide +kernel) (fun _ h => absurd h List.not_mem_nil) (by decide +kernel) (by decide +kernel) (by simp only [List.map_cons, List.map_nil, List.append_nil]; decide +kernel) (by rfl) (fun Z vs kv hv hkv => ?_) ?_
  · obtain ⟨u, v, rfl, h1, h2⟩ := vr2 hv
    refine ⟨[u, v, .int 0 189, .none, kv], .cons h1 (.cons h2 (.cons (.int _ _) (.cons .none (.cons hkv .nil)))), fun M => Looks.of_peek G.kin ?_⟩
    rw [e]; exact rfl
  intro env L O
  dsimp only [fnX] at O
  simp only [nsStart, List.map_cons, List.map_nil, List.append_nil, List.cons_append, List.nil_append]
  kt_at_in
  refine ⟨(by kt_eqs), fun _ => ?_⟩
  kt_at_notin
  (refine' x_assign ?_ ?k1 ?k2 ?k3; (case k1 => with_unfolding_all rfl); (case k2 => with_unfolding_all rfl); (case k3 => with_unfolding_all rfl))
  refine ev_call_kw ?_
  kt_at_in
  refine ⟨_, rfl, ?_⟩
  kt_at_in
  refine kpcl_K (kp_144 g) (pure_use (hue g) (by kt_len) ?_)
  kt_at_in
  refine ⟨kp_K (k_53 g), ?_⟩
  refine ((bisk_r g hl (fun _ => .obj (.tail _ (.tail _ U.mem))) (.inl rfl)).le (by kt_len)).mono fun d σ' hd => ?_
  obtain ⟨rfl, rfl⟩ := hd
  rw [hk]
  kt_at_in
  kt_at_in
  refine ⟨_, _, rfl, .tail _ U.mem, ?_⟩
  kt_at_in
  rw [List.map_append, List.map_cons, List.map_take, List.map_drop] at U
  have hkl : k ≤ ws.length := hk ▸ bis_le _ _ _ _ (Nat.zero_le _)
  refine cl_insert (.tail _ _ U) (by simpa using hkl) (by simpa using hl) ?_
  kt_at_in
  exact ⟨σ₁, .cons _ (List.Sublist.refl _), rfl, rfl⟩
theorem g_hsv {G : Gl} (g : G1 G) : Has G "hsv_to_rgb" (.val (.ref 55)) := has_K (v := .ref 55) (by rw [g.hK]; kernel_rfl) fun _ => .val _
theorem g_rgb {G : Gl} (g : G1 G) : Has G "rgb_to_hsv" (.val (.ref 48)) := has_K (v := .ref 48) (by rw [g.hK]; kernel_rfl) fun _ => .val _
theorem k_76 {G : Gl} (g : G1 G) : keepIn G.K (.ref 55) = true := by rw [g.hK]; kernel_rfl
theorem k_69 {G : Gl} (g : G1 G) : keepIn G.K (.ref 48) = true := by rw [g.hK]; kernel_rfl
theorem t_seen {G : Gl} (g : G1 G) {x : Nat} (hx : x < 864) : CL G 6 (.ref 130) [.int x] [] fun d σ' => d = d3 (fracF (x % 9) 16, fracF (x / 18 % 4 + 1) 4, fracF (x / 72 % 4 + 1) 4) ∧ σ' = [] := by
  have e := g.hK
  have h2 := g_hsv g
  have h3 := g_rgb g
  refine cl_def [("number", .int x)] ["hue", "red", "green", "blue"] (cs := []) (defOf_K (f := 130) (by rw [e]; rfl) (by rw [e]; kernel_rfl) (by rfl)) (by decide +kernel) (fun _ h => absurd h List.not_mem_nil) (by decide +kernel) (by decide +kernel) (by simp only [List.map_cons, List.map_nil, List.append_nil]; decide +kernel) (by rfl) (fun Z vs hv => ⟨vs, hv, ?_⟩) ?_
  · obtain ⟨u, rfl, _⟩ := vr1 hv
    exact fun M => Looks.of_pure rfl
  intro env L O
  dsimp only [fnX] at O
  simp only [nsStart, List.map_cons, List.map_nil, List.append_nil, List.cons_append, List.nil_append]
  kt_at_in
  refine bo_fdivN x 9 rfl rfl (by kt_len) ?_
  kt_at_in
  refine bo_modN (x / 9) 2 rfl rfl (by kt_len) ?_
  kt_at_in
  refine bo_modN x 9 rfl rfl (by kt_len) ?_
  kt_at_in
  refine bo_divN (x % 9) 16 rfl rfl (by kt_len) (by kt_len) ?_
  kt_at_in
  refine bo_addif (Nat.lt_trans (show (((x / 9 % 2 : Nat) : Int)).natAbs < 2 by kt_len) (by decide)) ?_
  kt_at_in
  refine bo_fdivN x 18 rfl rfl (by kt_len) ?_
  kt_at_in
  refine bo_modN (x / 18) 4 rfl rfl (by kt_len) ?_
  kt_at_in
  refine bo_divN (x / 18 % 4 + 1) 4 (by kt_len) rfl (by kt_len) (by kt_len) ?_
  kt_at_in
  refine bo_fdivN x 72 rfl rfl (by kt_len) ?_
  kt_at_in
  refine bo_modN (x / 72) 4 rfl rfl (by kt_len) ?_
  kt_at_in
  refine bo_divN (x / 72 % 4 + 1) 4 (by kt_len) rfl (by kt_len) (by kt_len) ?_
  kt_at_in
  refine kpcl_K (k_76 g) ?_
  obtain ⟨q, hq, hql, c1, c2, c3, hc, hok, hrt⟩ := rt3_of (t := x / 9 % 2) (e := x % 9) (a := x / 18 % 4) (b := x / 72 % 4) (by kt_len) (by kt_len) (by kt_len) (by kt_len)
  unfold hF at hq hc
  refine pure_use (t76 g hq hql) (by kt_len) ?_
  rw [hc, d3]
  kt_at_in
  refine kpcl_K (k_69 g) ?_
  refine pure_use (t69 g hok) (by kt_len) ?_
  rw [hrt]
  kt_at_in
  exact ret_pure rfl
def wW (p : Nat) : List Nat := (List.range 8).map fun i => if i < p then 65 + i else 97 + i
theorem t_word {G : Gl} (g : G1 G) {p : Nat} (hp : p ≤ 8) : CL G 3 (.ref 137) [.int p] [] fun d σ' => d = .str (sl (wW p)) ∧ σ' = [] := by
  have e := g.hK
  refine cl_def [("place", .int p)] [] (cs := []) (defOf_K (f := 137) (by rw [e]; rfl) (by rw [e]; kernel_rfl) (by rfl)) (by decide +kernel) (fun _ h => absurd h List.not_mem_nil) (by decide +kernel) (by decide +kernel) (by simp only [List.map_cons, List.map_nil, List.append_nil]; decide +kernel) (by rfl) (fun Z vs hv => ⟨vs, hv, ?_⟩) ?_
  · obtain ⟨u, rfl, _⟩ := vr1 hv
    exact fun M => Looks.of_pure rfl
  intro env L O
  dsimp only [fnX] at O
  simp only [nsStart, List.map_cons, List.map_nil, List.append_nil, List.cons_append, List.nil_append]
  kt_at_in
  rw [show Str.ofString "ABCDEFGH" = sl ((List.range 8).map (65 + ·)) by decide +kernel, show Str.ofString "abcdefgh" = sl ((List.range 8).map (97 + ·)) by decide +kernel]
  refine sl_take (by simpa using hp) (by simp) ?_
  kt_at_in
  refine sl_drop (by simpa using hp) (by simp) ?_
  kt_at_in
  refine bo_sl (by simp; omega) ?_
  kt_at_in
  have hw : ∀ p, p < 9 → List.take p ((List.range 8).map (65 + ·)) ++ List.drop p ((List.range 8).map (97 + ·)) = wW p := by decide +kernel
  rw [hw p (by kt_len)]
  exact ret_pure rfl
theorem t_pop {G : Gl} (g : G1 G) {a : LexA} {left : List Nat} {ln : Int} {d : D} {pbk : List D} (hl : pbk.length ≤ 900) :
    CLc G 7 (.ref 83) [.obj a.lx] (LexL a left ln (d :: pbk)) fun r σ' => r = d ∧ σ' = LexL a left ln pbk := by
  have e := g.hK
  have P := plain114 g
  have PA := attrs114 g
  obtain ⟨lx, ld, pb, tx, td, pt, lam, cp, cc, lf, lamO, oc⟩ := a
  refine clc_def [("self", .obj lx)] ["token", "fiter", "ch"] (cs := []) (defOf_K (f := 83) (by rw [e]; rfl) (by rw [e]; kernel_rfl) (by rfl)) (by decide +kernel) (fun _ h => absurd h List.not_mem_nil) (by decide +kernel) (by decide +kernel) (by simp only [List.map_cons, List.map_nil, List.append_nil]; decide +kernel) (by rfl) (fun Z vs hv => ⟨vs, hv, ?_⟩) ?_
  · obtain ⟨u, rfl, _⟩ := vr1 hv
    exact fun M => Looks.of_pure rfl
  intro env L O
  dsimp only [fnX] at O
  simp only [nsStart, List.map_cons, List.map_nil, List.cons_append, List.nil_append]
  kt_at_in
  refine tr_list (.obj (xs := d :: pbk) (by kt_at_get)) (by simp; omega) ⟨fun _ => ?_, (by kt_eqs)⟩
  kt_at_in
  refine ⟨pb, d :: pbk, rfl, by kt_at_get, ?_⟩
  kt_at_in
  refine cl_pop_at (i := 0) (xs := d :: pbk) (by (repeat (first | exact UpdL.head _ | apply UpdL.tail))) rfl (by simp; omega) ?_
  kt_at_in
  exact ⟨_, .cons _ (List.Sublist.refl _), rfl, rfl⟩
theorem t_push {G : Gl} (g : G1 G) {a : LexA} {left : List Nat} {ln : Int} {w : Str} {pbk : List D} (hl : pbk.length ≤ 900) :
    CLc G 7 (.ref 90) [.obj a.lx, .str w] (LexL a left ln pbk) fun r σ' => r = .none ∧ σ' = LexL a left ln (pbk ++ [.str w]) := by
  have e := g.hK
  have P := plain114 g
  have PA := attrs114 g
  obtain ⟨lx, ld, pb, tx, td, pt, lam, cp, cc, lf, lamO, oc⟩ := a
  refine clc_def [("self", .obj lx), ("token", .str w)] [] (cs := []) (defOf_K (f := 90) (by rw [e]; rfl) (by rw [e]; kernel_rfl) (by rfl)) (by decide +kernel) (fun _ h => absurd h List.not_mem_nil) (by decide +kernel) (by decide +kernel) (by simp only [List.map_cons, List.map_nil, List.append_nil]; decide +kernel) (by rfl) (fun Z vs hv => ⟨vs, hv, ?_⟩) ?_
  · obtain ⟨u, v, rfl, _⟩ := vr2 hv
    exact fun M => Looks.of_pure rfl
  intro env L O
  dsimp only [fnX] at O
  simp only [nsStart, List.map_cons, List.map_nil, List.append_nil, List.cons_append, List.nil_append]
  kt_at_in
  refine ⟨pb, pbk, rfl, by kt_at_get, ?_⟩
  kt_at_in
  refine cl_append (by (repeat (first | exact UpdL.head _ | apply UpdL.tail))) (by kt_len) ?_
  kt_at_in
  exact ⟨_, .cons _ (List.Sublist.refl _), rfl, rfl⟩
theorem k_111 {G : Gl} (g : G1 G) : keepIn G.K (.ref 90) = true := by rw [g.hK]; kernel_rfl
theorem f_111 {G : Gl} (g : G1 G) : findIn G.K (.ref 93) (Str.ofString "push_token") = some (some (.ref 90)) := by rw [g.hK]; kernel_rfl
theorem ty_111 {G : Gl} (g : G1 G) : typeIn G.K (.ref 90) = some (.type "function") := by rw [g.hK]; kernel_rfl
theorem popCall {G : Gl} (g : G1 G) {a : LexA} {left : List Nat} {ln : Int} {d : D} {pbk : List D} (hl : pbk.length ≤ 900) (pre : Led) :
    CLc G 7 (.ref 83) [.obj a.lx] (pre ++ LexL a left ln (d :: pbk)) fun r σ' => r = d ∧ σ' = pre ++ LexL a left ln pbk :=
  CLc.permTo (Φ := fun r σ' => r = d ∧ σ' = LexL a left ln pbk ++ pre)
    (CLc.perm (ρ := LexL a left ln (d :: pbk) ++ pre) List.perm_append_comm (CLc.frame ((t_pop g hl).mono fun d σ' ⟨e1, e2⟩ => ⟨e1, by rw [e2]⟩)))
    (fun r σ' ⟨e1, e2⟩ => ⟨pre ++ LexL a left ln pbk, by rw [e2]; exact List.perm_append_comm, e1, rfl⟩)
theorem pushCall {G : Gl} (g : G1 G) {a : LexA} {left : List Nat} {ln : Int} {w : Str} {pbk : List D} (hl : pbk.length ≤ 900) (pre : Led) :
    CLc G 7 (.ref 90) [.obj a.lx, .str w] (pre ++ LexL a left ln pbk) fun r σ' => r = .none ∧ σ' = pre ++ LexL a left ln (pbk ++ [.str w]) :=
  CLc.permTo (Φ := fun r σ' => r = .none ∧ σ' = LexL a left ln (pbk ++ [.str w]) ++ pre)
    (CLc.perm (ρ := LexL a left ln pbk ++ pre) List.perm_append_comm (CLc.frame ((t_push g hl).mono fun d σ' ⟨e1, e2⟩ => ⟨e1, by rw [e2]⟩)))
    (fun r σ' ⟨e1, e2⟩ => ⟨pre ++ LexL a left ln (pbk ++ [.str w]), by rw [e2]; exact List.perm_append_comm, e1, rfl⟩)
def okC (c : Nat) : Bool := !isWs c && c != 34 && c != 92 && decide (c < 128)
theorem let_not {c : Nat} (h : okC c = true) : isWs c = false ∧ c ≠ 34 ∧ c ≠ 92 ∧ c ≠ 10 ∧ c < 128 := by
  unfold okC at h
  simp only [Bool.and_eq_true, Bool.not_eq_true', bne_iff_ne, decide_eq_true_eq] at h
  refine ⟨h.1.1.1, h.1.1.2, h.1.2, fun e => ?_, h.2⟩
  subst e
  exact absurd h.1.1.1 (by decide)
theorem unq_word : ∀ (w acc r : List Nat), (∀ c ∈ w, okC c = true) → unq acc (w ++ 10 :: r) = some (acc ++ w, r)
  | [], acc, r, _ => by rw [List.nil_append, unq_cons, if_pos (by decide), List.append_nil]
  | c :: w, acc, r, h => by
    obtain ⟨h1, _, h3, _⟩ := let_not (h c (.head _))
    rw [List.cons_append, unq_cons, if_neg (by simp [h1]), if_neg h3, unq_word w _ r fun d hd => h d (.tail _ hd)]
    simp
theorem unq_esc : ∀ (w acc r : List Nat), unq acc ((w.map fun c => [92, c]).flatten ++ 10 :: r) = some (acc ++ w, r)
  | [], acc, r => by
    show unq acc (10 :: r) = _
    rw [unq_cons, if_pos (by decide), List.append_nil]
  | c :: w, acc, r => by
    show unq acc (92 :: c :: ((w.map fun c => [92, c]).flatten ++ 10 :: r)) = _
    rw [unq_cons, if_neg (by decide), if_pos rfl]
    dsimp only
    rw [unq_esc w]
    simp
theorem quo_word : ∀ (w acc r : List Nat), (∀ c ∈ w, okC c = true) → quo acc (w ++ 34 :: r) = some (acc ++ w, r)
  | [], acc, r, _ => by rw [List.nil_append, quo_cons, if_pos rfl, List.append_nil]
  | c :: w, acc, r, h => by
    obtain ⟨_, h1, h3, _⟩ := let_not (h c (.head _))
    rw [List.cons_append, quo_cons, if_neg h1, if_neg h3, quo_word w _ r fun d hd => h d (.tail _ hd)]
    simp
theorem tok_row {w r : List Nat} {m : Nat} (hm : m < 3) (hw : ∀ c ∈ w, okC c = true) (hne : w ≠ []) : tokF (spell (m : Int) w ++ 10 :: r) = some (w, if m = 1 then 10 :: r else r) := by
  obtain ⟨c, w, rfl⟩ := List.exists_cons_of_ne_nil hne
  obtain ⟨h1, h2, h3, _⟩ := let_not (hw c (.head _))
  rcases (show m = 0 ∨ m = 1 ∨ m = 2 by kt_len) with rfl | rfl | rfl
  · rw [show spell ((0 : Nat) : Int) (c :: w) = c :: w from rfl, List.cons_append, tokF_cons, if_neg (by simp [h1]), if_neg h2, if_neg h3, unq_word w _ r fun d hd => hw d (.tail _ hd)]
    simp
  · rw [show spell ((1 : Nat) : Int) (c :: w) = 34 :: ((c :: w) ++ [34]) from rfl, List.cons_append, tokF_cons, if_neg (by decide), if_pos rfl, List.append_assoc, List.singleton_append, quo_word (c :: w) _ _ hw]
    simp
  · rw [show spell ((2 : Nat) : Int) (c :: w) = 92 :: c :: (w.map fun c => [92, c]).flatten from rfl, List.cons_append, tokF_cons, if_neg (by decide), if_neg (by decide), if_pos rfl]
    show unq [c] ((w.map fun c => [92, c]).flatten ++ 10 :: r) = _
    rw [unq_esc]; rfl
abbrev Row := Nat × List Nat
def textOf (rs : List Row) : List Nat := (rs.map fun r => spell (r.1 : Int) r.2 ++ [10]).flatten
def RR (rs : List Row) (i : Nat) : List Nat := (match i with | 0 => [] | j + 1 => if (rs.getD j (0, [])).1 = 1 then [10] else []) ++ textOf (rs.drop i)
def RowOK (r : Row) : Prop := r.1 < 3 ∧ (∀ c ∈ r.2, okC c = true) ∧ r.2 ≠ [] ∧ r.2.length ≤ 8
theorem tok_ws (b : Bool) (r : List Nat) : tokF ((if b = true then [10] else []) ++ r) = tokF r := by
  cases b with
  | false => rfl
  | true => rw [if_pos rfl, List.singleton_append, tokF_cons, if_pos (by decide)]
theorem RR_pre (rs : List Row) (i : Nat) : ∃ b : Bool, RR rs i = (if b = true then [10] else []) ++ textOf (rs.drop i) := by
  cases i with
  | zero => exact ⟨false, rfl⟩
  | succ j =>
    by_cases h : (rs.getD j (0, [])).1 = 1
    · exact ⟨true, by simp only [RR, if_pos h, if_true]⟩
    · exact ⟨false, by simp only [RR, if_neg h, Bool.false_eq_true, if_false]⟩
theorem RR_step {rs : List Row} (hr : ∀ r ∈ rs, RowOK r) {i : Nat} (hi : i < rs.length) : tokF (RR rs i) = some ((rs.getD i (0, [])).2, RR rs (i + 1)) := by
  obtain ⟨b, e⟩ := RR_pre rs i
  have hg : rs.getD i (0, []) = rs[i] := by simp [hi]
  obtain ⟨h1, h2, h3, _⟩ := hr rs[i] (List.getElem_mem hi)
  rw [e, tok_ws, List.drop_eq_getElem_cons hi]
  show tokF ((spell (rs[i].1 : Int) rs[i].2 ++ [10]) ++ textOf (rs.drop (i + 1))) = _
  rw [List.append_assoc, List.singleton_append, tok_row h1 h2 h3]
  simp only [RR, hg]
  split <;> rfl
theorem RR_end {rs : List Row} : tokF (RR rs rs.length) = some ([], []) := by
  obtain ⟨b, e⟩ := RR_pre rs rs.length
  rw [e, tok_ws, List.drop_length]
  exact tokF_nil
theorem spell_len {m : Nat} {w : List Nat} : (spell (m : Int) w).length ≤ 2 * w.length + 2 := by
  unfold spell
  split
  · omega
  split
  · simp; omega
  · simp only [List.length_flatten, List.map_map, Function.comp_def, List.length_cons, List.length_nil, List.map_const', List.sum_replicate_nat]; omega
theorem spell_count {m : Nat} {w : List Nat} (hw : ∀ c ∈ w, okC c = true) : (spell (m : Int) w).count 10 = 0 := by
  have h0 : ∀ c ∈ w, c ≠ 10 := fun c hc => (let_not (hw c hc)).2.2.2.1
  rw [List.count_eq_zero]
  unfold spell
  split
  · exact fun h => h0 _ h rfl
  split
  · intro h
    simp only [List.mem_append, List.mem_cons, List.not_mem_nil, or_false] at h
    rcases h with (h | h) | h
    · omega
    · exact h0 _ h rfl
    · omega
  · intro h
    simp only [List.mem_flatten, List.mem_map] at h
    obtain ⟨l, ⟨c, hc, rfl⟩, hm⟩ := h
    simp only [List.mem_cons, List.not_mem_nil, or_false] at hm
    rcases hm with hm | hm
    · omega
    · exact h0 c hc hm.symm
theorem text_count : ∀ {rs : List Row}, (∀ r ∈ rs, RowOK r) → (textOf rs).count 10 = rs.length
  | [], _ => rfl
  | r :: rs, h => by
    have ih := text_count (rs := rs) fun r' hr' => h r' (.tail _ hr')
    have e : textOf (r :: rs) = (spell (r.1 : Int) r.2 ++ [10]) ++ textOf rs := rfl
    rw [e, List.count_append, List.count_append, spell_count (h r (.head _)).2.1, ih]
    simp; omega
theorem text_len : ∀ {rs : List Row}, (∀ r ∈ rs, RowOK r) → (textOf rs).length ≤ 19 * rs.length
  | [], _ => Nat.zero_le _
  | r :: rs, h => by
    have ih := text_len (rs := rs) fun r' hr' => h r' (.tail _ hr')
    have e : textOf (r :: rs) = (spell (r.1 : Int) r.2 ++ [10]) ++ textOf rs := rfl
    have h8 := (h r (.head _)).2.2.2
    have := spell_len (m := r.1) (w := r.2)
    rw [e]; simp; omega
theorem RR_len {rs : List Row} (h : ∀ r ∈ rs, RowOK r) (i : Nat) : (RR rs i).length ≤ 19 * rs.length + 1 := by
  obtain ⟨b, e⟩ := RR_pre rs i
  have h2 := text_len (rs := rs.drop i) fun r hr => h r (List.mem_of_mem_drop hr)
  rw [e]
  simp only [List.length_append, List.length_drop] at *
  split <;> simp <;> omega
def wordsOf (rs : List Row) : List (List Nat) := rs.map fun r => r.2
def RT (rs : List Row) (i : Nat) : List Nat := if i ≤ rs.length then RR rs i else []
theorem RT_len {rs : List Row} (h : ∀ r ∈ rs, RowOK r) (i : Nat) : (RT rs i).length ≤ 19 * rs.length + 1 := by
  unfold RT; split
  · exact RR_len h i
  · simp
theorem RT_zero (rs : List Row) : RT rs 0 = textOf rs := by rw [RT, if_pos (Nat.zero_le _)]; rfl
theorem RT_last (rs : List Row) : RT rs (rs.length + 1) = [] := by rw [RT, if_neg (by kt_len)]
theorem RT_step {rs : List Row} (hr : ∀ r ∈ rs, RowOK r) {i : Nat} (hi : i < rs.length + 1) : tokF (RT rs i) = some ((wordsOf rs ++ [[]]).getD i [], RT rs (i + 1)) := by
  have h0 : RT rs i = RR rs i := by rw [RT, if_pos (by kt_len)]
  rw [h0]
  by_cases h5 : i < rs.length
  · rw [RT, if_pos (by kt_len), RR_step hr h5]
    have h6 : i < (List.map (fun r : Row => r.2) rs).length := by simpa using h5
    simp only [wordsOf, List.getD_eq_getElem?_getD]
    rw [List.getElem?_append_left h6]
    simp [h5]
  · have h1 : i = rs.length := by kt_len
    subst h1
    rw [RR_end, RT_last]
    simp [wordsOf]
theorem range_getD {α : Type} (l : List α) (d : α) {n : Nat} (hn : l.length = n) : (List.range n).map (fun i => l.getD i d) = l := by
  subst hn
  refine List.ext_getElem (by simp) fun i h1 h2 => ?_
  simp [h2]
abbrev seenD (x : Nat) : D := .tup [.float (fracF (x % 9) 16), .float (fracF (x / 18 % 4 + 1) 4), .float (fracF (x / 72 % 4 + 1) 4)]
def wch (e i : Nat) : Nat := if i < e then 65 + i else 97 + i
theorem wW_eq (e : Nat) : wW e = (((List.range 8).map fun i => [wch e i])).flatten := by simp [wW, wch, List.range_succ]
theorem seen_plain (x : Nat) : Plain 50 (seenD x) := by
  refine .tup 49 _ fun d hd => ?_
  rcases List.mem_cons.mp hd with rfl | hd
  · exact plain_frac (by kt_len) (by kt_len)
  rcases List.mem_cons.mp hd with rfl | hd
  · exact plain_frac (by kt_len) (by kt_len)
  rcases List.mem_cons.mp hd with rfl | hd
  · exact plain_frac (by kt_len) (by kt_len)
  · cases hd
theorem num_tab : ∀ e, e < 9 → ∀ n, n < 8 → (Float64.cmpInt (Float64.mul (Float64.ofInt 16) (fracF e 16)) (n : Nat) == some .gt) = decide (n < e) := by decide +kernel
theorem flt_tab {x y : Nat} (hx : x < 9) (hy : y < 9) : fltB (fracF x 16) (fracF y 16) = decide (x < y) := by
  have h : ∀ x, x < 9 → ∀ y, y < 9 → fltB (fracF x 16) (fracF y 16) = decide (x < y) := by decide +kernel
  exact h x hx y hy
theorem bis_congr {p q : Nat → Bool} : ∀ (f lo hi : Nat), (∀ m, m < hi → p m = q m) → bis p f lo hi = bis q f lo hi
  | 0, _, _, _ => rfl
  | f + 1, lo, hi, h => by
    rw [bis, bis]
    by_cases hl : lo < hi
    · rw [if_pos hl, if_pos hl, h _ (by kt_len)]
      split
      · exact bis_congr f _ _ fun m hm => h m (by kt_len)
      · exact bis_congr f _ _ h
    · rw [if_neg hl, if_neg hl]
theorem bis_spec {p : Nat → Bool} {N : Nat} (hm : ∀ i j, i ≤ j → j < N → p i = true → p j = true) : ∀ (f lo hi : Nat), hi - lo ≤ f → lo ≤ hi → hi ≤ N → (∀ m, m < lo → p m = false) → (∀ m, hi ≤ m → m < N → p m = true) →
    bis p f lo hi ≤ hi ∧ (∀ m, m < bis p f lo hi → p m = false) ∧ (∀ m, bis p f lo hi ≤ m → m < N → p m = true)
  | 0, lo, hi, hf, hl, hN, h1, h2 => by
    have : lo = hi := by kt_len
    subst this
    exact ⟨Nat.le_refl _, h1, h2⟩
  | f + 1, lo, hi, hf, hl, hN, h1, h2 => by
    rw [bis]
    by_cases hlt : lo < hi
    · rw [if_pos hlt]
      by_cases hp : p ((lo + hi) / 2) = true
      · rw [if_pos hp]
        have ih := bis_spec hm f lo ((lo + hi) / 2) (by kt_len) (by kt_len) (by kt_len) h1 (fun m a b => hm _ _ a b hp)
        exact ⟨by have := ih.1; omega, ih.2⟩
      · rw [if_neg hp]
        refine bis_spec hm f ((lo + hi) / 2 + 1) hi (by kt_len) (by kt_len) hN (fun m a => ?_) h2
        cases hq : p m with
        | false => rfl
        | true => exact absurd (hm m _ (by kt_len) (by kt_len) hq) hp
    · rw [if_neg hlt]
      have : lo = hi := by kt_len
      subst this
      exact ⟨Nat.le_refl _, h1, h2⟩
def insN (es : List Nat) (x : Nat) : List Nat := let k := bis (fun m => decide (x < es.getD m 0)) es.length 0 es.length; es.take k ++ x :: es.drop k
theorem insN_perm (es : List Nat) (x : Nat) : (insN es x).Perm (x :: es) := by
  unfold insN
  refine List.perm_middle.trans ?_
  rw [List.take_append_drop]
theorem insN_sorted {es : List Nat} (h : es.Pairwise (· ≤ ·)) (x : Nat) : (insN es x).Pairwise (· ≤ ·) := by
  have hg : ∀ i j, i ≤ j → j < es.length → es.getD i 0 ≤ es.getD j 0 := fun i j hij hj => by
    have hi : i < es.length := by kt_len
    simp only [List.getD_eq_getElem?_getD, List.getElem?_eq_getElem hi, List.getElem?_eq_getElem hj, Option.getD_some]
    rcases Nat.lt_or_eq_of_le hij with hlt | rfl
    · exact List.pairwise_iff_getElem.mp h i j hi hj hlt
    · exact Nat.le_refl _
  have sp := bis_spec (p := fun m => decide (x < es.getD m 0)) (N := es.length) (fun i j hij hj hp => by
    have h1 := of_decide_eq_true hp
    have h2 := hg i j hij hj
    exact decide_eq_true (by kt_len)) es.length 0 es.length (by kt_len) (by kt_len) (by kt_len) (fun m hm => absurd hm (Nat.not_lt_zero _)) (fun m a b => absurd a (by kt_len))
  unfold insN
  dsimp only
  generalize bis (fun m => decide (x < es.getD m 0)) es.length 0 es.length = k at sp ⊢
  obtain ⟨hk, hb, ha⟩ := sp
  have ma : ∀ y ∈ es.drop k, x < y := fun y hy => by
    obtain ⟨i, hi, rfl⟩ := List.getElem_of_mem hy
    have hi' : k + i < es.length := by simpa [Nat.lt_sub_iff_add_lt'] using hi
    have := of_decide_eq_true (ha (k + i) (by kt_len) hi')
    simpa [List.getD_eq_getElem?_getD, hi'] using this
  have mb : ∀ y ∈ es.take k, y ≤ x := fun y hy => by
    obtain ⟨i, hi, rfl⟩ := List.getElem_of_mem hy
    have hi1 : i < k := by simp at hi; omega
    have hi2 : i < es.length := by kt_len
    have := of_decide_eq_false (hb i hi1)
    simpa [List.getD_eq_getElem?_getD, hi2] using this
  rw [List.pairwise_append]
  refine ⟨h.sublist (List.take_sublist _ _), List.pairwise_cons.mpr ⟨fun y hy => Nat.le_of_lt (ma y hy), h.sublist (List.drop_sublist _ _)⟩, fun a haa b hbb => ?_⟩
  rcases List.mem_cons.mp hbb with rfl | hbb
  · exact mb a haa
  · exact Nat.le_trans (mb a haa) (Nat.le_of_lt (ma b hbb))
abbrev qe (x : Nat) : UInt64 × List D := (fracF x 16, [D.str (sl (wW x))])
theorem bis_q {es : List Nat} {x : Nat} (hx : x < 9) (hes : ∀ y ∈ es, y < 9) : bis (fun m => fltB (qe x).1 ((es.map qe).getD m (0, [])).1) (es.map qe).length 0 (es.map qe).length = bis (fun m => decide (x < es.getD m 0)) es.length 0 es.length := by
  rw [List.length_map]
  refine bis_congr _ _ _ fun m hm => ?_
  have e : (es.map qe).getD m (0, []) = qe (es.getD m 0) := by simp [hm]
  rw [e]
  refine flt_tab hx (hes _ ?_)
  have : es.getD m 0 = es[m] := by simp [hm]
  rw [this]; exact List.getElem_mem hm
theorem foldl_ins {xs : List Nat} : ∀ {es : List Nat}, es.Pairwise (· ≤ ·) → (xs.foldl insN es).Pairwise (· ≤ ·) ∧ (xs.foldl insN es).Perm (xs ++ es) := by
  induction xs with
  | nil => exact fun h => ⟨h, List.Perm.refl _⟩
  | cons x xs ih =>
    intro es h
    obtain ⟨a, b⟩ := ih (insN_sorted h x)
    exact ⟨a, b.trans ((List.Perm.append_left xs (insN_perm es x)).trans List.perm_middle)⟩
theorem iter_from {a b : Nat} (h : a ≤ b) (hb : b ≤ 1000) : IterOf (.rng (a : Nat) (b : Nat) 1) ((List.range (b - a)).map fun i => D.int ((a + i : Nat) : Int)) := by
  have := IterOf.rng (a : Nat) (b : Nat) 1 (small_of (by kt_len) (by kt_len) (by kt_len) (by kt_len) (by kt_len) (by kt_len))
  have e : (Builtin.Range.rangeSize (a : Nat) (b : Nat) 1).toNat = b - a := by
    unfold Builtin.Range.rangeSize
    (repeat' split) <;> omega
  rw [e] at this
  have e2 : (List.range (b - a)).map (fun (k : Nat) => D.int (((a : Nat) : Int) + (k : Int) * 1)) = (List.range (b - a)).map fun i => D.int ((a + i : Nat) : Int) := List.map_congr_left fun i _ => by simp
  rw [e2] at this
  exact this
def rowW (E : Nat → Nat) (i : Nat) : List Nat := ((List.range i).map E).foldl insN []
theorem rowW_step (E : Nat → Nat) (i : Nat) : rowW E (i + 1) = insN (rowW E i) (E i) := by
  unfold rowW
  rw [List.range_succ, List.map_append, List.foldl_append]; rfl
theorem rowW_facts (E : Nat → Nat) (i : Nat) : (rowW E i).Pairwise (· ≤ ·) ∧ (rowW E i).Perm ((List.range i).map E) := by
  have h := foldl_ins (xs := (List.range i).map E) (es := []) .nil
  rw [List.append_nil] at h
  exact h
theorem rowW_lt {E : Nat → Nat} {i : Nat} (h : ∀ j, j < i → E j < 9) : ∀ y ∈ rowW E i, y < 9 := fun y hy => by
  have := (rowW_facts E i).2.mem_iff.mp hy
  obtain ⟨j, hj, rfl⟩ := List.mem_map.mp this
  exact h j (List.mem_range.mp hj)
theorem rowW_len (E : Nat → Nat) (i : Nat) : (rowW E i).length = i := by rw [(rowW_facts E i).2.length_eq]; simp
theorem ins_map (es : List Nat) (x : Nat) : (es.map qe).take (bis (fun m => decide (x < es.getD m 0)) es.length 0 es.length) ++ qe x :: (es.map qe).drop (bis (fun m => decide (x < es.getD m 0)) es.length 0 es.length) = (insN es x).map qe := by
  simp only [insN, List.map_append, List.map_cons, List.map_take, List.map_drop]
theorem getD_mem {ps : List Nat} {m : Nat} (h : m < ps.length) : ps.getD m 0 ∈ ps := by
  have : ps.getD m 0 = ps[m] := by simp [h]
  rw [this]; exact List.getElem_mem h
theorem sorted_unique : ∀ {l m : List Int}, l.Perm m → l.Pairwise (· ≤ ·) → m.Pairwise (· ≤ ·) → l = m
  | [], m, p, _, _ => by rw [List.Perm.nil_eq p]
  | x :: l, [], p, _, _ => by have := p.length_eq; simp at this
  | x :: l, y :: m, p, h1, h2 => by
    have e : x = y := by
      have hx : x ∈ y :: m := p.mem_iff.mp (.head _)
      have hy : y ∈ x :: l := p.mem_iff.mpr (.head _)
      rcases List.mem_cons.mp hx with rfl | hx
      · rfl
      rcases List.mem_cons.mp hy with rfl | hy
      · rfl
      have a := (List.pairwise_cons.mp h1).1 y hy
      have b := (List.pairwise_cons.mp h2).1 x hx
      omega
    subst e
    rw [sorted_unique (List.Perm.cons_inv p) (List.pairwise_cons.mp h1).2 (List.pairwise_cons.mp h2).2]
theorem sorted_row {es : List Nat} {ns : List Int} (hp : ns.Perm (es.map fun (x : Nat) => (x : Int))) (hs : ns.Pairwise (· ≤ ·)) {r : List Nat} (h1 : r.Pairwise (· ≤ ·)) (h2 : r.Perm es) : ns = r.map fun (x : Nat) => (x : Int) := by
  refine sorted_unique (hp.trans (h2.map _).symm) hs ?_
  rw [List.pairwise_map]
  exact h1.imp fun h => by kt_len
abbrev ql (ss : List Nat) (j : Nat) : UInt64 × List D := (fracF (ss.getD j 0) 16, [D.str (sl (wW (ss.getD j 0))), D.int (j : Nat)])
section
variable {G : Gl} {n : Nat} {env : Env} {L : Addr} {ks : List (Str × NameKind)} {cs : List (Str × Addr)} {σ : Led} {Φ : AF → Led → Prop} {pos : Pos}
theorem x_cpO {elt target iter : Expr} {ifs : List Expr} {scope : Scope} {cl : List (Str × Addr)} {t : Str} {tp cp : Pos} (O : EnvOK env L ks cs) (B : CompOK env scope cs cl target iter) (hx : (t, NameKind.local) ∈ ks)
    (h : EV G n env iter σ fun d σ₁ => ∃ xs, IterOf d xs ∧ xs.length ≤ 1000 ∧ ∀ cenv C, EnvOK cenv C scope.names cl →
      CompL G n cenv target ifs elt (fun ds σ₂ => ∃ m σ₃, σ₂ = (C, .ns m) :: σ₃ ∧ ∀ a, AS G n env (.Name t tp) (.obj a) ((a, .list ds) :: σ₃) (Φ .next)) xs [] ((C, .ns (compNs scope)) :: σ₁))
    (hl : tp.line = cp.line) (hst : (scope.names.any fun p => p.1 == t && (p.2 == .local || p.2 == .cell)) = false) (hif : ifs.length ≤ 1 := by decide) :
    X1 G n env (.Assign [.Name t tp] (.ListComp elt [⟨target, iter, ifs, 0⟩] scope cp) pos) σ Φ :=
  x_compO O h hx hl hst B.hcl B.hfree B.hkind B.hcell B.hn B.hd B.hcn B.hs hif
end
def chkL (w s r : Nat) : Bool := min (lev (wW w) (wW s) (r : Nat)) ((r : Int) + 1) == ((min (w - s + (s - w)) (r + 1) : Nat) : Int)
theorem chkL_all : ((List.range 9).all fun w => (List.range 9).all fun s => (List.range 3).all fun r => chkL w s r) = true := by decide +kernel
def loN (ss : List Nat) (w r : Nat) : Nat := (ss.filter fun s => decide (s + r < w)).length
def hiN (ss : List Nat) (w r : Nat) : Nat := (ss.filter fun s => decide (s ≤ w + r)).length
theorem lo_tab : ∀ s, s < 9 → ∀ w, w < 9 → ∀ r, r < 3 → fltB (fracF s 16) (Float64.sub (fracF w 16) (fracF r 16)) = decide (s + r < w) := by decide +kernel
theorem hi_tab : ∀ s, s < 9 → ∀ w, w < 9 → ∀ r, r < 3 → fltB (Float64.add (fracF w 16) (fracF r 16)) (fracF s 16) = decide (w + r < s) := by decide +kernel
theorem way_of {w s r : Nat} (hw : w < 9) (hs : s < 9) (hr : r < 3) : min (lev (wW w) (wW s) (r : Nat)) ((r : Int) + 1) = ((min (w - s + (s - w)) (r + 1) : Nat) : Int) := by
  have h := chkL_all
  simp only [List.all_eq_true, List.mem_range] at h
  exact beq_iff_eq.mp (h w hw s hs r hr)
theorem bis_fun {p q : Nat → Bool} {N : Nat} (h : ∀ m, m < N → p m = q m) : bis p N 0 N = bis q N 0 N := bis_congr _ _ _ h
theorem bis_count {N : Nat} {p : Nat → Bool} (hm : ∀ i j, i ≤ j → j < N → p i = true → p j = true) : bis p N 0 N = ((List.range N).filter fun i => !p i).length := by
  obtain ⟨h1, h2, h3⟩ := bis_spec hm N 0 N (by kt_len) (by kt_len) (by kt_len) (fun m h => absurd h (Nat.not_lt_zero _)) (fun m a b => absurd a (by kt_len))
  generalize bis p N 0 N = k at *
  have e : (List.range N).filter (fun i => !p i) = List.range k := by
    have hN : N = k + (N - k) := by kt_len
    rw [hN, List.range_add, List.filter_append, List.filter_eq_self.mpr (fun a ha => by rw [h2 a (List.mem_range.mp ha)]; rfl), List.filter_eq_nil_iff.mpr (fun a ha => ?_), List.append_nil]
    obtain ⟨i, hi, rfl⟩ := List.mem_map.mp ha
    have hi := List.mem_range.mp hi
    rw [h3 (k + i) (by kt_len) (by kt_len)]; decide
  rw [e, List.length_range]
theorem getD9 {ss : List Nat} (h9 : ∀ y ∈ ss, y < 9) {m : Nat} (h : m < ss.length) : ss.getD m 0 < 9 := h9 _ (getD_mem h)
theorem sorted_getD {es : List Nat} (h : es.Pairwise (· ≤ ·)) (i j : Nat) (hij : i ≤ j) (hj : j < es.length) : es.getD i 0 ≤ es.getD j 0 := by
  have hi : i < es.length := by kt_len
  simp only [List.getD_eq_getElem?_getD, List.getElem?_eq_getElem hi, List.getElem?_eq_getElem hj, Option.getD_some]
  rcases Nat.lt_or_eq_of_le hij with hlt | rfl
  · exact List.pairwise_iff_getElem.mp h i j hi hj hlt
  · exact Nat.le_refl _
def loI (ss : List Nat) (w r : Nat) : Nat := bis (fun m => !decide (ss.getD m 0 + r < w)) 5 0 5
def hiI (ss : List Nat) (w r : Nat) : Nat := bis (fun m => decide (w + r < ss.getD m 0)) 5 0 5
theorem loI_spec {ss : List Nat} (h5 : ss.length = 5) (hs : ss.Pairwise (· ≤ ·)) (w r : Nat) : loI ss w r ≤ 5 ∧ ∀ m, m < 5 → (ss.getD m 0 + r < w ↔ m < loI ss w r) := by
  obtain ⟨h1, h2, h3⟩ := bis_spec (p := fun m => !decide (ss.getD m 0 + r < w)) (N := 5) (fun i j hij hj hp => by
    have := sorted_getD hs i j hij (by kt_len)
    simp only [Bool.not_eq_true', decide_eq_false_iff_not] at hp ⊢
    omega) 5 0 5 (by kt_len) (by kt_len) (by kt_len) (fun m h => absurd h (Nat.not_lt_zero _)) (fun m a b => absurd a (by kt_len))
  refine ⟨h1, fun m hm => ⟨fun h => ?_, fun h => ?_⟩⟩
  · apply Nat.lt_of_not_le
    intro hle
    have := h3 m hle hm
    simp only [Bool.not_eq_true', decide_eq_false_iff_not] at this
    exact this h
  · have := h2 m h
    simp only [Bool.not_eq_false', decide_eq_true_eq] at this
    exact this
theorem hiI_spec {ss : List Nat} (h5 : ss.length = 5) (hs : ss.Pairwise (· ≤ ·)) (w r : Nat) : hiI ss w r ≤ 5 ∧ ∀ m, m < 5 → (ss.getD m 0 ≤ w + r ↔ m < hiI ss w r) := by
  obtain ⟨h1, h2, h3⟩ := bis_spec (p := fun m => decide (w + r < ss.getD m 0)) (N := 5) (fun i j hij hj hp => by
    have := sorted_getD hs i j hij (by kt_len)
    have := of_decide_eq_true hp
    exact decide_eq_true (by kt_len)) 5 0 5 (by kt_len) (by kt_len) (by kt_len) (fun m h => absurd h (Nat.not_lt_zero _)) (fun m a b => absurd a (by kt_len))
  refine ⟨h1, fun m hm => ⟨fun h => ?_, fun h => ?_⟩⟩
  · apply Nat.lt_of_not_le
    intro hle
    have := of_decide_eq_true (h3 m hle hm)
    omega
  · have := of_decide_eq_false (h2 m h)
    omega
def pcj (m j : Nat) : Nat := let m := m % 2 ^ j; m % 2 + m / 2 % 2 + m / 4 % 2 + m / 8 % 2 + m / 16
def imN (lo hi : Nat) : Nat := 2 ^ hi - 2 ^ lo
def chStep (lo hi : Nat) (ch : List (Nat × Nat)) : List (Nat × Nat) := ch.map (fun p => (p.1 + 1, p.2)) ++ ch.map fun p => (p.1, p.2 ||| imN lo hi)
def spotN (lo : Nat) (lf : List Nat) : Nat := (lf.filter fun j => Nat.blt j lo).length
def hitN (lo hi : Nat) (lf : List Nat) : Bool := Nat.blt (spotN lo lf) lf.length && (Nat.ble lo (lf.getD (spotN lo lf) 9) && Nat.blt (lf.getD (spotN lo lf) 9) hi)
def under (tk : List Nat) (j : Nat) : Nat := (tk.filter fun b => Nat.blt b j).length
def nxLf (lo hi : Nat) (lf : List Nat) : List Nat := if hitN lo hi lf = true then lf.eraseIdx (spotN lo lf) else lf
def nxTk (lo hi : Nat) (lf tk : List Nat) : List Nat := if hitN lo hi lf = true then tk ++ [lf.getD (spotN lo lf) 9] else tk
def lfR (lo hi : Nat → Nat) : Nat → List Nat
  | 0 => [0, 1, 2, 3, 4]
  | i + 1 => nxLf (lo i) (hi i) (lfR lo hi i)
def tkR (lo hi : Nat → Nat) : Nat → List Nat
  | 0 => []
  | i + 1 => nxTk (lo i) (hi i) (lfR lo hi i) (tkR lo hi i)
def chR (lo hi : Nat → Nat) : Nat → List (Nat × Nat)
  | 0 => [(0, 0)]
  | i + 1 => chStep (lo i) (hi i) (chR lo hi i)
def lfM (m : Nat) : List Nat := (List.range 5).filter fun j => !m.testBit j
def wN (m lo hi j : Nat) : Nat := if j ≤ lo then pcj m j else pcj m lo + (min j hi - lo)
def chkU (lo hi m : Nat) : Bool := Nat.blt (m ||| imN lo hi) (2 ^ hi) && (List.range 6).all fun j => Nat.beq (pcj (m ||| imN lo hi) j) (wN m lo hi j)
def chkH (lo hi m : Nat) : Bool :=
  if hitN lo hi (lfM m) = true then
    (fun x => (lfM m).eraseIdx (spotN lo (lfM m)) == lfM (m ||| 2 ^ x) && (Nat.blt (m ||| 2 ^ x) (2 ^ hi) &&
      (List.range 6).all fun j => Nat.beq (pcj (m ||| 2 ^ x) j) (pcj m j + (if Nat.blt x j = true then 1 else 0)) && Nat.beq (pcj (m ||| 2 ^ x) j) (min (pcj m j + 1) (wN m lo hi j)))) ((lfM m).getD (spotN lo (lfM m)) 9)
  else (List.range 6).all fun j => Nat.beq (pcj m j) (min (pcj m j + 1) (wN m lo hi j))
theorem chk_all : ((List.range 6).all fun hi => (List.range (hi + 1)).all fun lo => (List.range (2 ^ hi)).all fun m => chkU lo hi m && chkH lo hi m) = true := by decide +kernel
theorem chk_of {lo hi m : Nat} (h1 : lo ≤ hi) (h2 : hi ≤ 5) (h3 : m < 2 ^ hi) : chkU lo hi m = true ∧ chkH lo hi m = true := by
  have h := List.all_eq_true.mp chk_all hi (List.mem_range.mpr (by kt_len))
  have h := List.all_eq_true.mp h lo (List.mem_range.mpr (by kt_len))
  have h := List.all_eq_true.mp h m (List.mem_range.mpr h3)
  exact Bool.and_eq_true_iff.mp h
theorem union_is {lo hi m : Nat} (h1 : lo ≤ hi) (h2 : hi ≤ 5) (h3 : m < 2 ^ hi) : m ||| imN lo hi < 2 ^ hi ∧ ∀ j, j ≤ 5 → pcj (m ||| imN lo hi) j = wN m lo hi j := by
  have h := (chk_of h1 h2 h3).1
  unfold chkU at h
  rw [Bool.and_eq_true, List.all_eq_true] at h
  exact ⟨Nat.blt_eq.mp h.1, fun j hj => Nat.eq_of_beq_eq_true (h.2 j (List.mem_range.mpr (by kt_len)))⟩
def hbN (hi : Nat → Nat) : Nat → Nat
  | 0 => 0
  | i + 1 => hi i
def LeastAt (ch : List (Nat × Nat)) (j v : Nat) : Prop := (∃ p ∈ ch, p.1 + pcj p.2 j = v) ∧ ∀ p ∈ ch, v ≤ p.1 + pcj p.2 j
theorem least_step {lo hi m : Nat} {ch : List (Nat × Nat)} (h1 : lo ≤ hi) (h2 : hi ≤ 5) (hc : ∀ p ∈ ch, p.2 < 2 ^ hi) (hl : ∀ j, j ≤ 5 → LeastAt ch j (pcj m j)) {j : Nat} (hj : j ≤ 5) :
    LeastAt (chStep lo hi ch) j (min (pcj m j + 1) (wN m lo hi j)) := by
  have hw : ∃ p ∈ ch, p.1 + wN p.2 lo hi j = wN m lo hi j := by
    unfold wN
    by_cases h : j ≤ lo
    · obtain ⟨p, hp, e⟩ := (hl j hj).1
      refine ⟨p, hp, ?_⟩
      rw [if_pos h, if_pos h]; exact e
    · obtain ⟨p, hp, e⟩ := (hl lo (by kt_len)).1
      refine ⟨p, hp, ?_⟩
      rw [if_neg h, if_neg h]; omega
  have hwl : ∀ p ∈ ch, wN m lo hi j ≤ p.1 + wN p.2 lo hi j := fun p hp => by
    unfold wN
    by_cases h : j ≤ lo
    · rw [if_pos h, if_pos h]; exact (hl j hj).2 p hp
    · rw [if_neg h, if_neg h]
      have := (hl lo (by kt_len)).2 p hp
      omega
  refine ⟨?_, fun q hq => ?_⟩
  · rcases Nat.le_total (pcj m j + 1) (wN m lo hi j) with h | h
    · rw [Nat.min_eq_left h]
      obtain ⟨p, hp, e⟩ := (hl j hj).1
      exact ⟨(p.1 + 1, p.2), List.mem_append_left _ (List.mem_map.mpr ⟨p, hp, rfl⟩), by dsimp only; omega⟩
    · rw [Nat.min_eq_right h]
      obtain ⟨p, hp, e⟩ := hw
      refine ⟨(p.1, p.2 ||| imN lo hi), List.mem_append_right _ (List.mem_map.mpr ⟨p, hp, rfl⟩), ?_⟩
      dsimp only
      rw [(union_is h1 h2 (hc p hp)).2 j hj]; exact e
  · rcases List.mem_append.mp hq with hq | hq
    · obtain ⟨p, hp, rfl⟩ := List.mem_map.mp hq
      have := (hl j hj).2 p hp
      have h := Nat.min_le_left (pcj m j + 1) (wN m lo hi j)
      dsimp only; omega
    · obtain ⟨p, hp, rfl⟩ := List.mem_map.mp hq
      have h := Nat.min_le_right (pcj m j + 1) (wN m lo hi j)
      dsimp only
      rw [(union_is h1 h2 (hc p hp)).2 j hj]
      exact Nat.le_trans h (hwl p hp)
theorem run_inv {lo hi : Nat → Nat} (h2 : ∀ i, i < 3 → hi i ≤ hi (i + 1)) (h3 : ∀ i, lo i ≤ hi i) (h4 : ∀ i, hi i ≤ 5) : ∀ i, i ≤ 4 → ∃ m, m < 2 ^ hbN hi i ∧ lfR lo hi i = lfM m ∧ (∀ j, j ≤ 5 → under (tkR lo hi i) j = pcj m j) ∧
    (∀ p ∈ chR lo hi i, p.2 < 2 ^ hbN hi i) ∧ ∀ j, j ≤ 5 → LeastAt (chR lo hi i) j (pcj m j)
  | 0, _ => by
    have e0 : ∀ j, pcj 0 j = 0 := fun j => by unfold pcj; simp
    refine ⟨0, (by decide : 0 < 2 ^ 0), (by decide : [0, 1, 2, 3, 4] = lfM 0), fun j hj => by rw [e0]; rfl, fun p hp => ?_, fun j hj => ⟨⟨(0, 0), .head _, by rw [e0]⟩, fun p hp => ?_⟩⟩
    · rcases List.mem_cons.mp hp with rfl | hp
      · exact (by decide : 0 < 2 ^ 0)
      · cases hp
    · rw [e0]; exact Nat.zero_le _
  | i + 1, hi4 => by
    obtain ⟨m, a1, a2, a3, a4, a5⟩ := run_inv h2 h3 h4 i (by kt_len)
    have hb : hbN hi i ≤ hi i := by
      cases i with
      | zero => exact Nat.zero_le _
      | succ i => exact h2 i (by kt_len)
    have hp : 2 ^ hbN hi i ≤ 2 ^ hi i := Nat.pow_le_pow_right (by decide) hb
    have hm : m < 2 ^ hi i := by kt_len
    have hc : ∀ p ∈ chR lo hi i, p.2 < 2 ^ hi i := fun p hp => by have := a4 p hp; omega
    have hH := (chk_of (h3 i) (h4 i) hm).2
    have hcs : ∀ p ∈ chR lo hi (i + 1), p.2 < 2 ^ hi i := fun p hp => by
      rcases List.mem_append.mp hp with hp | hp
      · obtain ⟨q, hq, rfl⟩ := List.mem_map.mp hp
        exact hc q hq
      · obtain ⟨q, hq, rfl⟩ := List.mem_map.mp hp
        exact (union_is (h3 i) (h4 i) (hc q hq)).1
    have hls : ∀ j, j ≤ 5 → LeastAt (chR lo hi (i + 1)) j (min (pcj m j + 1) (wN m (lo i) (hi i) j)) := fun j hj => least_step (h3 i) (h4 i) hc a5 hj
    unfold chkH at hH
    rw [← a2] at hH
    by_cases hh : hitN (lo i) (hi i) (lfR lo hi i) = true
    · rw [if_pos hh] at hH
      rw [Bool.and_eq_true, Bool.and_eq_true, List.all_eq_true] at hH
      obtain ⟨b1, b2, b3⟩ := hH
      have b3' : ∀ j, j ≤ 5 → _ := fun j hj => Bool.and_eq_true_iff.mp (b3 j (List.mem_range.mpr (by kt_len)))
      generalize hx : (lfR lo hi i).getD (spotN (lo i) (lfR lo hi i)) 9 = x at b1 b2 b3 b3'
      refine ⟨m ||| 2 ^ x, Nat.blt_eq.mp b2, ?_, fun j hj => ?_, hcs, fun j hj => ?_⟩
      · rw [lfR, nxLf, if_pos hh]; exact eq_of_beq b1
      · rw [tkR, nxTk, if_pos hh, under, List.filter_append, List.length_append]
        rw [Nat.eq_of_beq_eq_true (b3' j hj).1, ← a3 j hj, under, hx]
        congr 1
        cases hb : Nat.blt x j with
        | true => simp [hb]
        | false => simp [hb]
      · rw [Nat.eq_of_beq_eq_true (b3' j hj).2]; exact hls j hj
    · rw [if_neg hh, List.all_eq_true] at hH
      refine ⟨m, hm, ?_, fun j hj => ?_, hcs, fun j hj => ?_⟩
      · rw [lfR, nxLf, if_neg hh]; exact a2
      · rw [tkR, nxTk, if_neg hh]; exact a3 j hj
      · rw [Nat.eq_of_beq_eq_true (hH j (List.mem_range.mpr (by kt_len)))]; exact hls j hj
def hM (m : Nat) : List Nat := (List.range 5).filter fun j => m.testBit j
theorem hM_step {m lo hi : Nat} (hm : m < 32) (hl : lo ≤ 5) (hh : hi ≤ 5) : ((List.range 5).filter fun j => (hM m).any (· == j) || (decide (lo ≤ j) && decide (j < hi))) = hM (m ||| imN lo hi) := by
  have h : ((List.range 32).all fun m => (List.range 6).all fun lo => (List.range 6).all fun hi => ((List.range 5).filter fun j => (hM m).any (· == j) || (decide (lo ≤ j) && decide (j < hi))) == hM (m ||| imN lo hi)) = true := by decide +kernel
  simp only [List.all_eq_true, List.mem_range] at h
  exact eq_of_beq (h m hm lo (by kt_len) hi (by kt_len))
theorem hM_count {m j : Nat} (hm : m < 32) (hj : j ≤ 5) : ((hM m).filter fun x => decide (x < j)).length = pcj m j := by
  have h : ((List.range 32).all fun m => (List.range 6).all fun j => ((hM m).filter fun x => decide (x < j)).length == pcj m j) = true := by decide +kernel
  simp only [List.all_eq_true, List.mem_range] at h
  exact eq_of_beq (h m hm j (by kt_len))
theorem im_lt {lo hi : Nat} (hh : hi ≤ 5) : imN lo hi < 32 := by
  have : 2 ^ hi ≤ 2 ^ 5 := Nat.pow_le_pow_right (by decide) hh
  have h2 : 0 < 2 ^ lo := Nat.two_pow_pos lo
  have h3 : 0 < 2 ^ hi := Nat.two_pow_pos hi
  unfold imN
  omega
def chW (lo hi : Nat → Nat) : Nat → List (Nat × Nat)
  | 0 => [(0, 0)]
  | i + 1 => chW lo hi i ++ (chW lo hi i).map fun p => (p.1 + 1, p.2 ||| imN (lo i) (hi i))
theorem chW_facts (lo hi : Nat → Nat) : ∀ i, i ≤ 4 → (∀ j, j < i → hi j ≤ 5) → (chW lo hi i).length = 2 ^ i ∧ ∀ p ∈ chW lo hi i, p.1 ≤ i ∧ p.2 < 32
  | 0, _, _ => ⟨rfl, fun p hp => by rcases List.mem_cons.mp hp with rfl | hp; exact ⟨Nat.le_refl _, by decide⟩; cases hp⟩
  | i + 1, h4, h => by
    obtain ⟨a, b⟩ := chW_facts lo hi i (by kt_len) fun j hj => h j (by kt_len)
    refine ⟨?_, fun p hp => ?_⟩
    · rw [chW, List.length_append, List.length_map, a, Nat.pow_succ]; omega
    · rcases List.mem_append.mp hp with hp | hp
      · exact ⟨by have := (b p hp).1; omega, (b p hp).2⟩
      · obtain ⟨q, hq, rfl⟩ := List.mem_map.mp hp
        exact ⟨Nat.succ_le_succ (b q hq).1, Nat.or_lt_two_pow (n := 5) (b q hq).2 (im_lt (h i (by kt_len)))⟩
theorem chR_of (lo hi : Nat → Nat) : ∀ i, i ≤ 4 → (∀ j, j < i → hi j ≤ 5) → chR lo hi i = (chW lo hi i).map fun p => (i - p.1, p.2)
  | 0, _, _ => rfl
  | i + 1, h4, h => by
    have hf := chW_facts lo hi i (by kt_len) fun j hj => h j (by kt_len)
    rw [chR, chR_of lo hi i (by kt_len) fun j hj => h j (by kt_len), chW, chStep, List.map_append, List.map_map, List.map_map, List.map_map]
    congr 1
    · refine List.map_congr_left fun p hp => ?_
      have := (hf.2 p hp).1
      exact Prod.ext (by dsimp only [Function.comp]; omega) rfl
    · refine List.map_congr_left fun p hp => ?_
      have := (hf.2 p hp).1
      exact Prod.ext (by dsimp only [Function.comp]; omega) rfl
def prR (lo hi : Nat → Nat) : Nat → List (Nat × Nat)
  | 0 => []
  | i + 1 => if hitN (lo i) (hi i) (lfR lo hi i) = true then prR lo hi i ++ [(i, (lfR lo hi i).getD (spotN (lo i) (lfR lo hi i)) 9)] else prR lo hi i
def puR (lo hi : Nat → Nat) : Nat → List Nat
  | 0 => []
  | i + 1 => if hitN (lo i) (hi i) (lfR lo hi i) = true then puR lo hi i else puR lo hi i ++ [i]
theorem min_if (a b : Int) : (if b < a then b else a) = min a b := by
  rw [Int.min_def]
  split <;> split <;> omega
theorem way_if {w s r : Nat} (hw : w < 9) (hs : s < 9) (hr : r < 3) : (if (r : Int) + 1 < lev (wW w) (wW s) (r : Nat) then (r : Int) + 1 else lev (wW w) (wW s) (r : Nat)) = ((min (w - s + (s - w)) (r + 1) : Nat) : Int) := by
  rw [min_if, way_of hw hs hr]
theorem abs_if (s w r : Nat) : (if (r : Int) + 1 < (if (s : Int) - (w : Int) < 0 then -((s : Int) - (w : Int)) else (s : Int) - (w : Int)) then (r : Int) + 1 else (if (s : Int) - (w : Int) < 0 then -((s : Int) - (w : Int)) else (s : Int) - (w : Int))) = ((min (w - s + (s - w)) (r + 1) : Nat) : Int) := by
  have e : (if (s : Int) - (w : Int) < 0 then -((s : Int) - (w : Int)) else (s : Int) - (w : Int)) = ((w - s + (s - w) : Nat) : Int) := by
    split <;> omega
  rw [e, min_if, Int.min_def, Nat.min_def]
  split <;> split <;> omega
theorem abs_near (s w r : Nat) : decide ((if (s : Int) - (w : Int) < 0 then -((s : Int) - (w : Int)) else (s : Int) - (w : Int)) ≤ (r : Int)) = (!decide (s + r < w) && decide (s ≤ w + r)) := by
  have e : (if (s : Int) - (w : Int) < 0 then -((s : Int) - (w : Int)) else (s : Int) - (w : Int)) = ((w - s + (s - w) : Nat) : Int) := by
    split <;> omega
  rw [e]
  by_cases h1 : s + r < w
  · rw [decide_eq_true h1, Bool.not_true, Bool.false_and]; exact decide_eq_false (by kt_len)
  · rw [decide_eq_false h1, Bool.not_false, Bool.true_and]; exact decide_eq_decide.mpr (by kt_len)
theorem way_near {w s r : Nat} (hw : w < 9) (hs : s < 9) (hr : r < 3) : decide (lev (wW w) (wW s) (r : Nat) ≤ (r : Int)) = (!decide (s + r < w) && decide (s ≤ w + r)) := by
  have h := way_of hw hs hr
  rw [Int.min_def, Nat.min_def] at h
  by_cases h1 : s + r < w
  · rw [decide_eq_true h1, Bool.not_true, Bool.false_and]; refine decide_eq_false ?_; split at h <;> split at h <;> omega
  · rw [decide_eq_false h1, Bool.not_false, Bool.true_and]; refine decide_eq_decide.mpr ?_; split at h <;> split at h <;> omega
theorem loI_hiI {ss : List Nat} (h5 : ss.length = 5) (hs : ss.Pairwise (· ≤ ·)) (w r m : Nat) (hm : m < 5) : (!decide (ss.getD m 0 + r < w) && decide (ss.getD m 0 ≤ w + r)) = (decide (loI ss w r ≤ m) && decide (m < hiI ss w r)) := by
  have h1 := (loI_spec h5 hs w r).2 m hm
  have h2 := (hiI_spec h5 hs w r).2 m hm
  rw [decide_eq_decide.mpr h1, decide_eq_decide.mpr h2]
  congr 1
  by_cases h : m < loI ss w r
  · rw [decide_eq_true h]; exact (decide_eq_false (by kt_len)).symm
  · rw [decide_eq_false h]; exact (decide_eq_true (by kt_len)).symm
theorem qe_getD {es : List Nat} {m : Nat} (h : m < es.length) : (es.map qe).getD m (0, []) = qe (es.getD m 0) := by simp [h]
theorem bis_lo {ss : List Nat} (h5 : ss.length = 5) (h9 : ∀ y ∈ ss, y < 9) {w r : Nat} (hw : w < 9) (hr : r < 3) :
    bis (fun m => !fltB ((ss.map qe).getD m (0, [])).1 (Float64.sub (fracF w 16) (fracF r 16))) (ss.map qe).length 0 (ss.map qe).length = loI ss w r := by
  rw [List.length_map, h5, loI]
  refine bis_fun fun m hm => ?_
  have hm' : m < ss.length := by kt_len
  rw [qe_getD hm']
  exact congrArg _ (lo_tab _ (getD9 h9 hm') w hw r hr)
theorem bis_hi {ss : List Nat} (h5 : ss.length = 5) (h9 : ∀ y ∈ ss, y < 9) {w r : Nat} (hw : w < 9) (hr : r < 3) :
    bis (fun m => fltB (Float64.add (fracF w 16) (fracF r 16)) ((ss.map qe).getD m (0, [])).1) (ss.map qe).length 0 (ss.map qe).length = hiI ss w r := by
  rw [List.length_map, h5, hiI]
  refine bis_fun fun m hm => ?_
  have hm' : m < ss.length := by kt_len
  rw [qe_getD hm']
  exact hi_tab _ (getD9 h9 hm') w hw r hr
theorem lfR_sub (lo hi : Nat → Nat) : ∀ i, (lfR lo hi i).Sublist [0, 1, 2, 3, 4]
  | 0 => List.Sublist.refl _
  | i + 1 => by
    rw [lfR, nxLf]
    split
    · exact (List.eraseIdx_sublist _ _).trans (lfR_sub lo hi i)
    · exact lfR_sub lo hi i
theorem lfR_lt (lo hi : Nat → Nat) (i : Nat) : ∀ j ∈ lfR lo hi i, j < 5 := fun j hj => by
  have := (lfR_sub lo hi i).subset hj
  simp only [List.mem_cons, List.not_mem_nil, or_false] at this
  omega
theorem lfR_len (lo hi : Nat → Nat) (i : Nat) : (lfR lo hi i).length ≤ 5 := (lfR_sub lo hi i).length_le
theorem lfR_sorted (lo hi : Nat → Nat) (i : Nat) : (lfR lo hi i).Pairwise (· ≤ ·) := by
  refine List.Pairwise.sublist (lfR_sub lo hi i) ?_
  decide
theorem filter_range_getD {p : Nat → Bool} : ∀ (l : List Nat), ((List.range l.length).filter fun i => p (l.getD i 0)).length = (l.filter p).length
  | [] => rfl
  | x :: l => by
    rw [List.length_cons, List.range_succ_eq_map, List.filter_cons, List.filter_cons]
    have ih := filter_range_getD (p := p) l
    have e : ((List.map Nat.succ (List.range l.length)).filter fun i => p ((x :: l).getD i 0)).length = (l.filter p).length := by
      rw [List.filter_map, List.length_map, ← ih]; rfl
    show (if p x = true then _ else _ : List Nat).length = _
    split
    · rw [List.length_cons, List.length_cons, e]
    · exact e
theorem bis_left {ss lf : List Nat} (h5 : ss.length = 5) (hs : ss.Pairwise (· ≤ ·)) (h9 : ∀ y ∈ ss, y < 9) (hl : ∀ j ∈ lf, j < 5) (hls : lf.Pairwise (· ≤ ·)) {w r : Nat} (hw : w < 9) (hr : r < 3) :
    bis (fun m => !fltB ((lf.map (ql ss)).getD m (0, [])).1 (Float64.sub (fracF w 16) (fracF r 16))) (lf.map (ql ss)).length 0 (lf.map (ql ss)).length = spotN (loI ss w r) lf := by
  rw [List.length_map]
  have hp : ∀ m, m < lf.length → (!fltB ((lf.map (ql ss)).getD m (0, [])).1 (Float64.sub (fracF w 16) (fracF r 16))) = !Nat.blt (lf.getD m 0) (loI ss w r) := fun m hm => by
    have e : (lf.map (ql ss)).getD m (0, []) = ql ss (lf.getD m 0) := by simp [hm]
    rw [e]
    have hj : lf.getD m 0 < 5 := hl _ (getD_mem hm)
    have h1 := (loI_spec h5 hs w r).2 _ hj
    refine congrArg _ ((lo_tab _ (getD9 h9 (by kt_len)) w hw r hr).trans ?_)
    rw [decide_eq_decide.mpr h1]
    by_cases h : lf.getD m 0 < loI ss w r
    · rw [decide_eq_true h]; exact (Nat.blt_eq.mpr h).symm
    · rw [decide_eq_false h]
      cases hb : Nat.blt (lf.getD m 0) (loI ss w r) with
      | true => exact absurd (Nat.blt_eq.mp hb) h
      | false => rfl
  rw [bis_fun hp, bis_count (fun i j hij hj h => ?_), spotN, ← filter_range_getD (p := fun j => Nat.blt j (loI ss w r))]
  · simp only [Bool.not_not]
  · have h2 := sorted_getD hls i j hij hj
    cases hb : Nat.blt (lf.getD j 0) (loI ss w r) with
    | true =>
      have h3 := Nat.blt_eq.mp hb
      have h4 : Nat.blt (lf.getD i 0) (loI ss w r) = true := Nat.blt_eq.mpr (by kt_len)
      rw [h4] at h; cases h
    | false => rfl
abbrev nearN (lo hi : Nat) : List Nat := (List.range 5).filter fun j => decide (lo ≤ j) && decide (j < hi)
theorem near_range {lo hi : Nat} (h1 : lo ≤ hi) (h2 : hi ≤ 5) : nearN lo hi = (List.range (hi - lo)).map fun i => lo + i := by
  have h : ((List.range 6).all fun lo => (List.range 6).all fun hi => Nat.blt hi lo || nearN lo hi == (List.range (hi - lo)).map fun i => lo + i) = true := by decide +kernel
  simp only [List.all_eq_true, List.mem_range] at h
  have := h lo (by kt_len) hi (by kt_len)
  have hb : Nat.blt hi lo = false := by rw [Bool.eq_false_iff]; intro q; have := Nat.blt_eq.mp q; omega
  rw [hb, Bool.false_or] at this
  exact eq_of_beq this
theorem near_any {lo hi x : Nat} (hx : x < 5) : ((nearN lo hi).map fun (j : Nat) => (j : Int)).any (· == (x : Int)) = (decide (lo ≤ x) && decide (x < hi)) := by
  rw [List.any_map, List.any_filter]
  cases hb : (decide (lo ≤ x) && decide (x < hi)) with
  | true =>
    rw [List.any_eq_true]
    refine ⟨x, List.mem_range.mpr hx, ?_⟩
    rw [hb, Bool.true_and]; simp
  | false =>
    rw [List.any_eq_false]
    intro y _
    by_cases hy : y = x
    · subst hy; rw [hb]; simp
    · simp [Function.comp, show ¬ ((y : Int) = (x : Int)) by kt_len]
theorem hM_any {m x : Nat} : ((hM m).map fun (j : Nat) => (j : Int)).any (· == (x : Int)) = (hM m).any (· == x) := by
  rw [List.any_map]
  congr 1
  funext y
  simp only [Function.comp]
  by_cases hy : y = x
  · subst hy; simp
  · have h1 : (y == x) = false := beq_eq_false_iff_ne.mpr hy
    rw [h1, beq_eq_false_iff_ne]; omega
theorem hit_true {lo hi : Nat} {lf : List Nat} (h : hitN lo hi lf = true) : spotN lo lf < lf.length ∧ lo ≤ lf.getD (spotN lo lf) 9 ∧ lf.getD (spotN lo lf) 9 < hi := by
  unfold hitN at h
  simp only [Bool.and_eq_true] at h
  exact ⟨Nat.blt_eq.mp h.1, Nat.ble_eq.mp h.2.1, Nat.blt_eq.mp h.2.2⟩
theorem hit_of {lo hi : Nat} {lf : List Nat} (h1 : spotN lo lf < lf.length) (h2 : lo ≤ lf.getD (spotN lo lf) 9) (h3 : lf.getD (spotN lo lf) 9 < hi) : hitN lo hi lf = true := by
  unfold hitN
  rw [Nat.blt_eq.mpr h1, Nat.ble_eq.mpr h2, Nat.blt_eq.mpr h3]; rfl
theorem hit_not {lo hi : Nat} {lf : List Nat} (h : ¬ (spotN lo lf < lf.length ∧ lo ≤ lf.getD (spotN lo lf) 9 ∧ lf.getD (spotN lo lf) 9 < hi)) : hitN lo hi lf = false := by
  rw [Bool.eq_false_iff]; exact fun q => h (hit_true q)
theorem loI_mono {ss : List Nat} (h5 : ss.length = 5) (hs : ss.Pairwise (· ≤ ·)) {w w' : Nat} (r : Nat) (h : w ≤ w') : loI ss w r ≤ loI ss w' r := by
  apply Nat.le_of_not_lt
  intro hlt
  have h1 := (loI_spec h5 hs w r).1
  have h2 := ((loI_spec h5 hs w r).2 (loI ss w' r) (by kt_len)).mpr hlt
  have h3 := ((loI_spec h5 hs w' r).2 (loI ss w' r) (by kt_len)).mp (by kt_len)
  omega
theorem hiI_mono {ss : List Nat} (h5 : ss.length = 5) (hs : ss.Pairwise (· ≤ ·)) {w w' : Nat} (r : Nat) (h : w ≤ w') : hiI ss w r ≤ hiI ss w' r := by
  apply Nat.le_of_not_lt
  intro hlt
  have h1 := (hiI_spec h5 hs w r).1
  have h2 := ((hiI_spec h5 hs w r).2 (hiI ss w' r) (by kt_len)).mpr hlt
  have h3 := ((hiI_spec h5 hs w' r).2 (hiI ss w' r) (by kt_len)).mp (by kt_len)
  omega
theorem lo_le_hi {ss : List Nat} (h5 : ss.length = 5) (hs : ss.Pairwise (· ≤ ·)) (w r : Nat) : loI ss w r ≤ hiI ss w r := by
  apply Nat.le_of_not_lt
  intro hlt
  have h1 := (loI_spec h5 hs w r).1
  have h2 := ((loI_spec h5 hs w r).2 (hiI ss w r) (by kt_len)).mpr hlt
  have h3 := ((hiI_spec h5 hs w r).2 (hiI ss w r) (by kt_len)).mp (by kt_len)
  omega
theorem rng_size {lo hi : Nat} (h : lo ≤ hi) : Builtin.Range.rangeSize (lo : Nat) (hi : Nat) 1 = ((hi - lo : Nat) : Int) := by
  unfold Builtin.Range.rangeSize
  (repeat' split) <;> omega
theorem near_rng {lo hi : Nat} (h1 : lo ≤ hi) (h2 : hi ≤ 5) : ((List.range (hi - lo)).map fun (q : Nat) => D.int ((lo : Nat) + (q : Int) * 1)) = (nearN lo hi).map fun (j : Nat) => D.int j := by
  rw [near_range h1 h2, List.map_map]
  refine List.map_congr_left fun q _ => ?_
  exact congrArg D.int (by simp)
theorem lfR_at {lo hi : Nat → Nat} {ss : List Nat} {i k : Nat} (h : k < (lfR lo hi i).length) : (((lfR lo hi i).map (ql ss)).map eD)[k]? = some (eD (ql ss ((lfR lo hi i).getD k 9))) := by
  simp [h, List.getD_eq_getElem?_getD]
theorem lfR_get {lo hi : Nat → Nat} {i k : Nat} (h : k < (lfR lo hi i).length) : (lfR lo hi i).getD k 9 < 5 := by
  have e : (lfR lo hi i).getD k 9 = (lfR lo hi i)[k] := by simp [h]
  rw [e]; exact lfR_lt lo hi i _ (List.getElem_mem h)
theorem map_erase {α β : Type} (f : α → β) : ∀ (l : List α) (k : Nat), (l.map f).eraseIdx k = (l.eraseIdx k).map f
  | [], _ => rfl
  | _ :: _, 0 => rfl
  | x :: l, k + 1 => congrArg (f x :: ·) (map_erase f l k)
theorem erase_map {ss lf : List Nat} (k : Nat) : ((lf.map (ql ss)).map eD).eraseIdx k = ((lf.eraseIdx k).map (ql ss)).map eD := by
  rw [map_erase, map_erase]
theorem step_hit {lo hi : Nat → Nat} {i : Nat} (h : hitN (lo i) (hi i) (lfR lo hi i) = true) : lfR lo hi (i + 1) = (lfR lo hi i).eraseIdx (spotN (lo i) (lfR lo hi i)) ∧ prR lo hi (i + 1) = prR lo hi i ++ [(i, (lfR lo hi i).getD (spotN (lo i) (lfR lo hi i)) 9)] ∧ puR lo hi (i + 1) = puR lo hi i := by
  rw [lfR, nxLf, prR, puR, if_pos h, if_pos h, if_pos h]
  exact ⟨rfl, rfl, rfl⟩
theorem step_miss {lo hi : Nat → Nat} {i : Nat} (h : hitN (lo i) (hi i) (lfR lo hi i) = false) : lfR lo hi (i + 1) = lfR lo hi i ∧ prR lo hi (i + 1) = prR lo hi i ∧ puR lo hi (i + 1) = puR lo hi i ++ [i] := by
  have h' : ¬ hitN (lo i) (hi i) (lfR lo hi i) = true := fun q => by rw [h] at q; cases q
  rw [lfR, nxLf, prR, puR, if_neg h', if_neg h', if_neg h']
  exact ⟨rfl, rfl, rfl⟩
theorem prR_len (lo hi : Nat → Nat) : ∀ i, (prR lo hi i).length ≤ i
  | 0 => Nat.le_refl _
  | i + 1 => by
    have ih := prR_len lo hi i
    rw [prR]
    split
    · rw [List.length_append]; simp; omega
    · omega
theorem puR_len (lo hi : Nat → Nat) : ∀ i, (puR lo hi i).length ≤ i
  | 0 => Nat.le_refl _
  | i + 1 => by
    have ih := puR_len lo hi i
    rw [puR]
    split
    · omega
    · rw [List.length_append]; simp; omega
theorem ints_map (l : List Nat) : (l.map fun (j : Nat) => D.int j) = (l.map fun (j : Nat) => (j : Int)).map D.int := by rw [List.map_map]; rfl
theorem seq_ints {σ : Led} (l : List Nat) : SeqIs σ (.lst (l.map fun (j : Nat) => D.int j)) ((l.map fun (j : Nat) => (j : Int)).map D.int) := by rw [← ints_map]; exact .lst _
theorem seq_mapI {α : Type} {σ : Led} (f : α → Int) (l : List α) : SeqIs σ (.lst (l.map fun a => D.int (f a))) ((l.map f).map D.int) := by
  have e : (l.map fun a => D.int (f a)) = (l.map f).map D.int := by rw [List.map_map]; rfl
  rw [← e]; exact .lst _
abbrev chE (p : Nat × Nat) : D := D.tup [D.int (p.1 : Nat), D.lst ((hM p.2).map fun (x : Nat) => D.int x)]
theorem chD (lo hi : Nat → Nat) (i : Nat) : (chW lo hi (i + 1)).map (fun p => chE p) = (chW lo hi i).map (fun p => chE p) ++ (chW lo hi i).map fun p => D.tup [D.int ((p.1 + 1 : Nat) : Int), D.lst ((hM (p.2 ||| imN (lo i) (hi i))).map fun (x : Nat) => D.int x)] := by
  rw [chW, List.map_append, List.map_map]; rfl
theorem hM_len (m : Nat) : (hM m).length ≤ 5 := List.length_filter_le _ _
theorem chW_take (lo hi : Nat → Nat) (hh : ∀ j, hi j ≤ 5) (i : Nat) (hi4 : i ≤ 4) : ∀ n, i ≤ n → n ≤ 4 → (chW lo hi n).take (2 ^ i) = chW lo hi i
  | 0, h, _ => by
    have : i = 0 := by kt_len
    subst this; rfl
  | n + 1, h, h4 => by
    rcases Nat.lt_or_eq_of_le h with hlt | rfl
    · have hl := (chW_facts lo hi n (by kt_len) fun j _ => hh j).1
      have hp : 2 ^ i ≤ 2 ^ n := Nat.pow_le_pow_right (by decide) (by kt_len)
      rw [chW, List.take_append_of_le_length (by kt_len)]
      exact chW_take lo hi hh i hi4 n (by kt_len) (by kt_len)
    · have hl := (chW_facts lo hi (n + 1) (by kt_len) fun j _ => hh j).1
      exact List.take_of_length_le (by kt_len)
theorem tkR_map (lo hi : Nat → Nat) : ∀ i, (prR lo hi i).map (·.2) = tkR lo hi i ∧ ∀ p ∈ prR lo hi i, p.1 < i
  | 0 => ⟨rfl, fun _ h => nomatch h⟩
  | i + 1 => by
    obtain ⟨h1, h2⟩ := tkR_map lo hi i
    rw [prR, tkR, nxTk]
    split
    · refine ⟨by rw [List.map_append, h1]; rfl, fun p hp => ?_⟩
      rcases List.mem_append.mp hp with hp | hp
      · have := h2 p hp; omega
      · rcases List.mem_cons.mp hp with rfl | hp
        · exact Nat.lt_succ_self _
        · cases hp
    · exact ⟨h1, fun p hp => by have := h2 p hp; omega⟩
theorem pr_count (lo hi : Nat → Nat) (k j : Nat) : ∀ n, k ≤ n → ((prR lo hi n).filter fun p => decide (p.1 < k) && decide (p.2 < j)).length = under (tkR lo hi k) j
  | 0, h => by
    have : k = 0 := by kt_len
    subst this; rfl
  | n + 1, h => by
    rcases Nat.lt_or_eq_of_le h with hlt | rfl
    · have ih := pr_count lo hi k j n (by kt_len)
      rw [prR]
      split
      · rw [List.filter_append, List.length_append, ih, List.filter_cons]
        rw [if_neg (by simp; omega)]; rfl
      · exact ih
    · obtain ⟨h1, h2⟩ := tkR_map lo hi (n + 1)
      rw [under, ← h1, List.filter_map, List.length_map]
      refine congrArg List.length (List.filter_congr fun p hp => ?_)
      rw [decide_eq_true (h2 p hp), Bool.true_and]
      by_cases hj : p.2 < j
      · rw [decide_eq_true hj]; exact (Nat.blt_eq.mpr hj).symm
      · rw [decide_eq_false hj]
        cases hb : Nat.blt p.2 j with
        | true => exact absurd (Nat.blt_eq.mp hb) hj
        | false => exact hb.symm
abbrev dueN (k j : Nat) (p : Nat × Nat) : Nat := k - p.1 + pcj p.2 j
theorem due_is {lo hi : Nat → Nat} (h2 : ∀ i, i < 3 → hi i ≤ hi (i + 1)) (h3 : ∀ i, lo i ≤ hi i) (h4 : ∀ i, hi i ≤ 5) {i j : Nat} (hi4 : i < 4) (hj : j < 5) {M : Int}
    (m1 : M ∈ (chW lo hi (1 + i)).map fun p => ((dueN (1 + i) (1 + j) p : Nat) : Int)) (m2 : ∀ a ∈ (chW lo hi (1 + i)).map (fun p => ((dueN (1 + i) (1 + j) p : Nat) : Int)), M ≤ a) : M = (under (tkR lo hi (1 + i)) (1 + j) : Nat) := by
  obtain ⟨m, _, _, c1, _, c2⟩ := run_inv h2 h3 h4 (1 + i) (by kt_len)
  rw [c1 (1 + j) (by kt_len)]
  obtain ⟨⟨q, hq, e⟩, a2⟩ := c2 (1 + j) (by kt_len)
  rw [chR_of lo hi (1 + i) (by kt_len) fun j _ => h4 j] at hq a2
  obtain ⟨p, hp, rfl⟩ := List.mem_map.mp m1
  have b1 := a2 _ (List.mem_map_of_mem hp)
  obtain ⟨q', hq', rfl⟩ := List.mem_map.mp hq
  have b3 := m2 _ (List.mem_map_of_mem hq')
  dsimp only at b1 e b3 ⊢
  simp only [dueN] at b3 ⊢
  omega
abbrev freeB (lo hi : Nat → Nat) (n k : Nat) : Bool := !((prR lo hi n).map fun p => (p.1 : Int)).any (· == (k : Int))
theorem pu_filter (lo hi : Nat → Nat) : ∀ n, (List.range n).filter (freeB lo hi n) = puR lo hi n
  | 0 => rfl
  | n + 1 => by
    have ih := pu_filter lo hi n
    have hlt := (tkR_map lo hi n).2
    have hn : freeB lo hi n n = true := by
      unfold freeB
      rw [Bool.not_eq_true', List.any_eq_false]
      intro x hx
      obtain ⟨p, hp, rfl⟩ := List.mem_map.mp hx
      have := hlt p hp
      simp; omega
    rw [List.range_succ, List.filter_append, puR]
    cases hh : hitN (lo n) (hi n) (lfR lo hi n) with
    | true =>
      rw [if_pos rfl]
      have e : prR lo hi (n + 1) = prR lo hi n ++ [(n, (lfR lo hi n).getD (spotN (lo n) (lfR lo hi n)) 9)] := (step_hit hh).2.1
      have e1 : (List.range n).filter (freeB lo hi (n + 1)) = (List.range n).filter (freeB lo hi n) := List.filter_congr fun k hk => by
        have hk := List.mem_range.mp hk
        unfold freeB
        rw [e, List.map_append, List.any_append]
        simp; omega
      have e2 : [n].filter (freeB lo hi (n + 1)) = [] := by
        rw [List.filter_cons, if_neg (by unfold freeB; rw [e, List.map_append, List.any_append]; simp)]; rfl
      rw [e1, e2, ih, List.append_nil]
    | false =>
      rw [if_neg Bool.false_ne_true]
      have e : prR lo hi (n + 1) = prR lo hi n := (step_miss hh).2.1
      have e1 : freeB lo hi (n + 1) = freeB lo hi n := by funext k; unfold freeB; rw [e]
      rw [e1, ih, List.filter_cons, if_pos hn]; rfl
abbrev endD (wf : Nat → D) (pu : List Nat) (q : Nat) : D := if q < pu.length then wf (pu.getD q 0) else if q = pu.length then D.str (sl [101, 110, 100]) else D.str (sl [])
theorem ends_eq (wf : Nat → D) (pu : List Nat) : pu.map wf ++ [D.str (sl [101, 110, 100]), D.str (sl [])] = (List.range (pu.length + 2)).map (endD wf pu) := by
  refine List.ext_getElem (by simp) fun q h1 h2 => ?_
  simp only [List.length_map, List.length_range] at h2
  rw [List.getElem_map, List.getElem_range]
  unfold endD
  by_cases hq : q < pu.length
  · rw [if_pos hq, List.getElem_append_left (by simpa using hq), List.getElem_map]
    simp [hq, List.getD_eq_getElem?_getD]
  · rw [if_neg hq, List.getElem_append_right (by simpa using hq)]
    rcases (show q = pu.length ∨ q = pu.length + 1 by kt_len) with rfl | rfl
    · simp
    · simp
theorem g_B1 {G : Gl} (g : G1 G) : Has G "sum" (.val (.builtin "sum")) := has_B (by rw [g.hK]; kernel_rfl) (by kernel_rfl) (by decide +kernel) fun _ => .val _
theorem g_B2 {G : Gl} (g : G1 G) : Has G "sorted" (.val (.builtin "sorted")) := has_B (by rw [g.hK]; kernel_rfl) (by kernel_rfl) (by decide +kernel) fun _ => .val _
theorem g_B3 {G : Gl} (g : G1 G) : Has G "abs" (.val (.builtin "abs")) := has_B (by rw [g.hK]; kernel_rfl) (by kernel_rfl) (by decide +kernel) fun _ => .val _
theorem g_B4 {G : Gl} (g : G1 G) : Has G "chr" (.val (.builtin "chr")) := has_B (by rw [g.hK]; kernel_rfl) (by kernel_rfl) (by decide +kernel) fun _ => .val _
theorem h_130 {G : Gl} (g : G1 G) : Has G "_law_seen" (.val (.ref 130)) := has_K (v := .ref 130) (by rw [g.hK]; kernel_rfl) fun _ => .val _
theorem kp_130 {G : Gl} (g : G1 G) : keepIn G.K (.ref 130) = true := by rw [g.hK]; kernel_rfl
theorem h_123 {G : Gl} (g : G1 G) : Has G "_law_spelled" (.val (.ref 123)) := has_K (v := .ref 123) (by rw [g.hK]; kernel_rfl) fun _ => .val _
theorem kp_123 {G : Gl} (g : G1 G) : keepIn G.K (.ref 123) = true := by rw [g.hK]; kernel_rfl
theorem h_137 {G : Gl} (g : G1 G) : Has G "_law_word" (.val (.ref 137)) := has_K (v := .ref 137) (by rw [g.hK]; kernel_rfl) fun _ => .val _
theorem kp_137 {G : Gl} (g : G1 G) : keepIn G.K (.ref 137) = true := by rw [g.hK]; kernel_rfl
theorem h_111 {G : Gl} (g : G1 G) : Has G "_levenshtein_distance" (.val (.ref 111)) := has_K (v := .ref 111) (by rw [g.hK]; kernel_rfl) fun _ => .val _
theorem kp_111 {G : Gl} (g : G1 G) : keepIn G.K (.ref 111) = true := by rw [g.hK]; kernel_rfl
theorem h_118 {G : Gl} (g : G1 G) : Has G "_law_lexer" (.val (.ref 118)) := has_K (v := .ref 118) (by rw [g.hK]; kernel_rfl) fun _ => .val _
theorem kp_118 {G : Gl} (g : G1 G) : keepIn G.K (.ref 118) = true := by rw [g.hK]; kernel_rfl
theorem h_23 {G : Gl} (g : G1 G) : Has G "insort_right" (.val (.ref 23)) := has_K (v := .ref 23) (by rw [g.hK]; kernel_rfl) fun _ => .val _
theorem kp_23 {G : Gl} (g : G1 G) : keepIn G.K (.ref 23) = true := by rw [g.hK]; kernel_rfl
theorem h_41 {G : Gl} (g : G1 G) : Has G "bisect_left" (.val (.ref 41)) := has_K (v := .ref 41) (by rw [g.hK]; kernel_rfl) fun _ => .val _
theorem kp_41 {G : Gl} (g : G1 G) : keepIn G.K (.ref 41) = true := by rw [g.hK]; kernel_rfl
theorem h_144 {G : Gl} (g : G1 G) : Has G "_law_hue" (.val (.ref 144)) := has_K (v := .ref 144) (by rw [g.hK]; kernel_rfl) fun _ => .val _
set_option maxHeartbeats 0 in
theorem t149 {G : Gl} (g : G1 G) {xs : List Int} (hxs : xs.length ≤ 63) : CLc0 G 9 (.ref 149) [.lst (xs.map D.int)] [(113, .raw (tabObj #[]))] fun d σ' => d = .bool true ∧ ∃ ps, σ' = [(113, .raw (tabObj ps))] := by
  have e := g.hK
  have hB1 := g_B1 g
  have hB2 := g_B2 g
  have hB3 := g_B3 g
  have hBc := g_B4 g
  have hB4 := g_len g
  have hB5 := g_range g
  have hB6 := g_min g
  have hB7 := g_list g
  have hB8 := g_br g
  have hH130 := h_130 g
  have hH123 := h_123 g
  have hH137 := h_137 g
  have hH111 := h_111 g
  have hH118 := h_118 g
  have hH23 := h_23 g
  have hH41 := h_41 g
  have hH144 := h_144 g
  have P := plain114 g
  have PA := attrs114 g
  refine clc_def0 (x₀ := "script") (d₀ := .lst (xs.map D.int)) (defOf_K (f := 149) (by rw [e]; rfl) (by rw [e]; kernel_rfl) (by rfl)) rfl (by decide +kernel) (by decide +kernel) (by rfl) (fun Z vs hv => ⟨vs, hv, ?_⟩) ?_
  · obtain ⟨u, rfl, _⟩ := vr1 hv
    exact fun M => Looks.of_pure rfl
  intro env L O hcode
  clear hcode
  dsimp only [fnX] at O
  rw [show cellsFrom (L + 1) [(Str.ofString "script", NameKind.local), (Str.ofString "draws", NameKind.local), (Str.ofString "reach", NameKind.cell), (Str.ofString "nine", NameKind.cell), (Str.ofString "seen", NameKind.local), (Str.ofString "words", NameKind.cell), (Str.ofString "k", NameKind.cell), (Str.ofString "rows", NameKind.local), (Str.ofString "lexer", NameKind.cell), (Str.ofString "tokens", NameKind.local), (Str.ofString "wishes", NameKind.local), (Str.ofString "paints", NameKind.cell), (Str.ofString "wanted", NameKind.cell), (Str.ofString "stock", NameKind.cell), (Str.ofString "j", NameKind.cell), (Str.ofString "left", NameKind.local), (Str.ofString "pairs", NameKind.local), (Str.ofString "choices", NameKind.local), (Str.ofString "hue", NameKind.local), (Str.ofString "word", NameKind.cell), (Str.ofString "ways", NameKind.cell), (Str.ofString "low", NameKind.local), (Str.ofString "high", NameKind.local), (Str.ofString "near", NameKind.local), (Str.ofString "spot", NameKind.local), (Str.ofString "mine", NameKind.cell), (Str.ofString "due", NameKind.local), (Str.ofString "served", NameKind.cell), (Str.ofString "ends", NameKind.local), (Str.ofString "sum", NameKind.globalImplicit), (Str.ofString "len", NameKind.globalImplicit), (Str.ofString "range", NameKind.globalImplicit), (Str.ofString "_law_lexer", NameKind.globalImplicit), (Str.ofString "insort_right", NameKind.globalImplicit), (Str.ofString "_law_hue", NameKind.globalImplicit), (Str.ofString "sorted", NameKind.globalImplicit), (Str.ofString "bisect_left", NameKind.globalImplicit), (Str.ofString "bisect_right", NameKind.globalImplicit), (Str.ofString "list", NameKind.globalImplicit), (Str.ofString "min", NameKind.globalImplicit)] [] = [(Str.ofString "served", L + 1 + 1 + 1 + 1 + 1 + 1 + 1 + 1 + 1 + 1 + 1 + 1 + 1), (Str.ofString "mine", L + 1 + 1 + 1 + 1 + 1 + 1 + 1 + 1 + 1 + 1 + 1 + 1), (Str.ofString "ways", L + 1 + 1 + 1 + 1 + 1 + 1 + 1 + 1 + 1 + 1 + 1), (Str.ofString "word", L + 1 + 1 + 1 + 1 + 1 + 1 + 1 + 1 + 1 + 1), (Str.ofString "j", L + 1 + 1 + 1 + 1 + 1 + 1 + 1 + 1 + 1), (Str.ofString "stock", L + 1 + 1 + 1 + 1 + 1 + 1 + 1 + 1), (Str.ofString "wanted", L + 1 + 1 + 1 + 1 + 1 + 1 + 1), (Str.ofString "paints", L + 1 + 1 + 1 + 1 + 1 + 1), (Str.ofString "lexer", L + 1 + 1 + 1 + 1 + 1), (Str.ofString "k", L + 1 + 1 + 1 + 1), (Str.ofString "words", L + 1 + 1 + 1), (Str.ofString "nine", L + 1 + 1), (Str.ofString "reach", L + 1)] from rfl] at O
  show XS G 8 env _ [(L, .ns [(Str.ofString "script", some (.lst (xs.map D.int))), (Str.ofString "draws", none), (Str.ofString "seen", none), (Str.ofString "rows", none), (Str.ofString "tokens", none), (Str.ofString "wishes", none), (Str.ofString "left", none), (Str.ofString "pairs", none), (Str.ofString "choices", none), (Str.ofString "hue", none), (Str.ofString "low", none), (Str.ofString "high", none), (Str.ofString "near", none), (Str.ofString "spot", none), (Str.ofString "due", none), (Str.ofString "ends", none)]), (L + 1 + 1 + 1 + 1 + 1 + 1 + 1 + 1 + 1 + 1 + 1 + 1 + 1, .cell none), (L + 1 + 1 + 1 + 1 + 1 + 1 + 1 + 1 + 1 + 1 + 1 + 1, .cell none), (L + 1 + 1 + 1 + 1 + 1 + 1 + 1 + 1 + 1 + 1 + 1, .cell none), (L + 1 + 1 + 1 + 1 + 1 + 1 + 1 + 1 + 1 + 1, .cell none), (L + 1 + 1 + 1 + 1 + 1 + 1 + 1 + 1 + 1, .cell none), (L + 1 + 1 + 1 + 1 + 1 + 1 + 1 + 1, .cell none), (L + 1 + 1 + 1 + 1 + 1 + 1 + 1, .cell none), (L + 1 + 1 + 1 + 1 + 1 + 1, .cell none), (L + 1 + 1 + 1 + 1 + 1, .cell none), (L + 1 + 1 + 1 + 1, .cell none), (L + 1 + 1 + 1, .cell none), (L + 1 + 1, .cell none), (L + 1, .cell none), (113, .raw (tabObj #[]))] _
  generalize L + 1 + 1 + 1 + 1 + 1 + 1 + 1 + 1 + 1 + 1 + 1 + 1 + 1 = c_served at O ⊢
  generalize L + 1 + 1 + 1 + 1 + 1 + 1 + 1 + 1 + 1 + 1 + 1 + 1 = c_mine at O ⊢
  generalize L + 1 + 1 + 1 + 1 + 1 + 1 + 1 + 1 + 1 + 1 + 1 = c_ways at O ⊢
  generalize L + 1 + 1 + 1 + 1 + 1 + 1 + 1 + 1 + 1 + 1 = c_word at O ⊢
  generalize L + 1 + 1 + 1 + 1 + 1 + 1 + 1 + 1 + 1 = c_j at O ⊢
  generalize L + 1 + 1 + 1 + 1 + 1 + 1 + 1 + 1 = c_stock at O ⊢
  generalize L + 1 + 1 + 1 + 1 + 1 + 1 + 1 = c_wanted at O ⊢
  generalize L + 1 + 1 + 1 + 1 + 1 + 1 = c_paints at O ⊢
  generalize L + 1 + 1 + 1 + 1 + 1 = c_lexer at O ⊢
  generalize L + 1 + 1 + 1 + 1 = c_k at O ⊢
  generalize L + 1 + 1 + 1 = c_words at O ⊢
  generalize L + 1 + 1 = c_nine at O ⊢
  generalize L + 1 = c_reach at O ⊢
  obtain ⟨dr, hdr⟩ : ∃ dr : List Nat, dr = (xs.take 20).map fun x => (x.fmod 864).toNat := ⟨_, rfl⟩
  have hdl : dr.length ≤ 20 := by rw [hdr]; simp; omega
  have hd5 : ∀ x ∈ dr, x < 864 := fun x hx => by
    rw [hdr] at hx
    obtain ⟨y, _, rfl⟩ := List.mem_map.mp hx
    have h1 := Int.fmod_nonneg_of_pos y (b := 864) (by decide)
    have h2 := Int.fmod_lt_of_pos y (b := 864) (by decide)
    omega
  have hdq : (xs.take 20).map (fun x => D.int (x.fmod 864)) = dr.map fun (x : Nat) => D.int x := by
    rw [hdr, List.map_map]
    refine List.map_congr_left fun x _ => ?_
    have h1 := Int.fmod_nonneg_of_pos x (b := 864) (by decide)
    exact congrArg D.int (by dsimp only; omega)
  refine xs_cut (fun σ' => σ' = [(L, .ns [(Str.ofString "script", some (D.lst (xs.map D.int))), (Str.ofString "draws", some (D.lst (dr.map fun (x : Nat) => D.int x))), (Str.ofString "seen", none), (Str.ofString "rows", none), (Str.ofString "tokens", none), (Str.ofString "wishes", none), (Str.ofString "left", none), (Str.ofString "pairs", none), (Str.ofString "choices", none), (Str.ofString "hue", none), (Str.ofString "low", none), (Str.ofString "high", none), (Str.ofString "near", none), (Str.ofString "spot", none), (Str.ofString "due", none), (Str.ofString "ends", none)]), (c_served, .cell none), (c_mine, .cell none), (c_ways, .cell none), (c_word, .cell none), (c_j, .cell none), (c_stock, .cell none), (c_wanted, .cell none), (c_paints, .cell none), (c_lexer, .cell none), (c_k, .cell none), (c_words, .cell none), (c_nine, .cell none), (c_reach, .cell none), (113, .raw (tabObj #[]))]) ?s1 ?_
  case s1 =>
    refine x_cp (cl := []) O (by kt_at_item) (by kt_at_get) ?_ rfl rfl
    kt_at_in
    refine sl_to 20 (.lst _) (by simp; omega) ⟨_, .lst _, by simp; omega, fun cenv C O' => ?_⟩
    dsimp only at O'
    rw [← List.map_take]
    refine compL_map (xs.take 20) D.int (fun x => .int (x.fmod 864)) (fun σ => ∃ o, σ = (C, .ns [(Str.ofString ".0", none), (Str.ofString "x", o)]) :: [(L, .ns [(Str.ofString "script", some (D.lst (xs.map D.int))), (Str.ofString "draws", none), (Str.ofString "seen", none), (Str.ofString "rows", none), (Str.ofString "tokens", none), (Str.ofString "wishes", none), (Str.ofString "left", none), (Str.ofString "pairs", none), (Str.ofString "choices", none), (Str.ofString "hue", none), (Str.ofString "low", none), (Str.ofString "high", none), (Str.ofString "near", none), (Str.ofString "spot", none), (Str.ofString "due", none), (Str.ofString "ends", none)]), (c_served, .cell none), (c_mine, .cell none), (c_ways, .cell none), (c_word, .cell none), (c_j, .cell none), (c_stock, .cell none), (c_wanted, .cell none), (c_paints, .cell none), (c_lexer, .cell none), (c_k, .cell none), (c_words, .cell none), (c_nine, .cell none), (c_reach, .cell none), (113, .raw (tabObj #[]))]) ?turn1 ?fin1 ⟨none, rfl⟩
    case turn1 =>
      rintro x hx σ ⟨o, rfl⟩
      kt_at_in
      refine bo_mod (by decide) ⟨rfl, _, rfl⟩
    case fin1 =>
      rintro σ ⟨o, rfl⟩
      refine ⟨_, _, rfl, ?_⟩
      kt_at_in
      rw [hdq]
      exact ⟨rfl, rfl⟩
  rintro _ rfl
  obtain ⟨r, hrq⟩ : ∃ r : Nat, r = (1 + dr.sum) % 3 := ⟨_, rfl⟩
  have hr : r < 3 := by kt_len
  have hsum : ∀ l : List Nat, (l.map fun (x : Nat) => (x : Int)).sum = (l.sum : Nat) := fun l => by
    induction l with
    | nil => rfl
    | cons a l ih => rw [List.map_cons, List.sum_cons, ih, List.sum_cons]; omega
  refine xs_cut (fun σ' => σ' = [(L, .ns [(Str.ofString "script", some (D.lst (xs.map D.int))), (Str.ofString "draws", some (D.lst (dr.map fun (x : Nat) => D.int x))), (Str.ofString "seen", none), (Str.ofString "rows", none), (Str.ofString "tokens", none), (Str.ofString "wishes", none), (Str.ofString "left", none), (Str.ofString "pairs", none), (Str.ofString "choices", none), (Str.ofString "hue", none), (Str.ofString "low", none), (Str.ofString "high", none), (Str.ofString "near", none), (Str.ofString "spot", none), (Str.ofString "due", none), (Str.ofString "ends", none)]), (c_served, .cell none), (c_mine, .cell none), (c_ways, .cell none), (c_word, .cell none), (c_j, .cell none), (c_stock, .cell none), (c_wanted, .cell none), (c_paints, .cell none), (c_lexer, .cell none), (c_k, .cell none), (c_words, .cell none), (c_nine, .cell none), (c_reach, .cell (some (D.int (r : Nat)))), (113, .raw (tabObj #[]))]) ?s2 ?_
  case s2 =>
    kt_at_in
    refine cl_sum (ns := dr.map fun (x : Nat) => (x : Int)) (by rw [List.map_map]; exact .lst _) ?_
    kt_at_in
    refine bo_modN (1 + dr.sum) 3 (by rw [hsum]; omega) rfl (by kt_len) ?_
    kt_at_in
    rw [← hrq]
    exact ⟨rfl, rfl⟩
  rintro _ rfl
  obtain ⟨fv, hfq⟩ : ∃ fv : List Nat, fv = (dr ++ ([318, 205, 650, 255, 591, 90, 346, 233, 3] : List Nat).drop dr.length).take 9 := ⟨_, rfl⟩
  have hfl : fv.length = 9 := by rw [hfq]; simp; omega
  have hf5 : ∀ x ∈ fv, x < 864 := fun x hx => by
    rw [hfq] at hx
    rcases List.mem_append.mp (List.mem_of_mem_take hx) with h | h
    · exact hd5 x h
    · have := List.mem_of_mem_drop h
      simp only [List.mem_cons, List.not_mem_nil, or_false] at this
      omega
  have hfm : (dr.map (fun (x : Nat) => D.int x) ++ (([318, 205, 650, 255, 591, 90, 346, 233, 3] : List Nat).map fun (x : Nat) => D.int x).drop dr.length).take 9 = fv.map fun (x : Nat) => D.int x := by
    rw [hfq, ← List.map_drop, ← List.map_append, ← List.map_take]
  refine xs_cut (fun σ' => σ' = [(L, .ns [(Str.ofString "script", some (D.lst (xs.map D.int))), (Str.ofString "draws", some (D.lst (dr.map fun (x : Nat) => D.int x))), (Str.ofString "seen", none), (Str.ofString "rows", none), (Str.ofString "tokens", none), (Str.ofString "wishes", none), (Str.ofString "left", none), (Str.ofString "pairs", none), (Str.ofString "choices", none), (Str.ofString "hue", none), (Str.ofString "low", none), (Str.ofString "high", none), (Str.ofString "near", none), (Str.ofString "spot", none), (Str.ofString "due", none), (Str.ofString "ends", none)]), (c_served, .cell none), (c_mine, .cell none), (c_ways, .cell none), (c_word, .cell none), (c_j, .cell none), (c_stock, .cell none), (c_wanted, .cell none), (c_paints, .cell none), (c_lexer, .cell none), (c_k, .cell none), (c_words, .cell none), (c_nine, .cell (some (D.lst (fv.map fun (x : Nat) => D.int x)))), (c_reach, .cell (some (D.int (r : Nat)))), (113, .raw (tabObj #[]))]) ?s3 ?_
  case s3 =>
    kt_at_in
    (refine' ev_list ?_ ?k1; (case k1 => with_unfolding_all rfl))
    kt_at_in
    refine ⟨by simp, ?_⟩
    kt_at_in
    refine cl_len_list (.lst _) (by simp; omega) ?_
    kt_at_in
    rw [List.length_map]
    refine sl_from dr.length (.lst _) (by simp) ?_
    refine bo_lists (.lst _) (.lst _) (by kt_at_get) (by simp; omega) ?_
    kt_at_in
    refine sl_to 9 (.lst _) (by simp; omega) ?_
    kt_at_in
    exact ⟨rfl, by rw [← hfm]; rfl⟩
  rintro _ rfl
  refine xs_cut (fun σ' => σ' = [(L, .ns [(Str.ofString "script", some (D.lst (xs.map D.int))), (Str.ofString "draws", some (D.lst (dr.map fun (x : Nat) => D.int x))), (Str.ofString "seen", some (D.lst (fv.map fun x => seenD x))), (Str.ofString "rows", none), (Str.ofString "tokens", none), (Str.ofString "wishes", none), (Str.ofString "left", none), (Str.ofString "pairs", none), (Str.ofString "choices", none), (Str.ofString "hue", none), (Str.ofString "low", none), (Str.ofString "high", none), (Str.ofString "near", none), (Str.ofString "spot", none), (Str.ofString "due", none), (Str.ofString "ends", none)]), (c_served, .cell none), (c_mine, .cell none), (c_ways, .cell none), (c_word, .cell none), (c_j, .cell none), (c_stock, .cell none), (c_wanted, .cell none), (c_paints, .cell none), (c_lexer, .cell none), (c_k, .cell none), (c_words, .cell none), (c_nine, .cell (some (D.lst (fv.map fun (x : Nat) => D.int x)))), (c_reach, .cell (some (D.int (r : Nat)))), (113, .raw (tabObj #[]))]) ?s4 ?_
  case s4 =>
    refine x_cp (cl := []) O (by kt_at_item) (by kt_at_get) ?_ rfl rfl
    kt_at_in
    refine ⟨_, .lst _, by simp; omega, fun cenv C O' => ?_⟩
    dsimp only at O'
    refine compL_map fv _ (fun x => seenD x) (fun σ => ∃ o, σ = (C, .ns [(Str.ofString ".0", none), (Str.ofString "number", o)]) :: [(L, .ns [(Str.ofString "script", some (D.lst (xs.map D.int))), (Str.ofString "draws", some (D.lst (dr.map fun (x : Nat) => D.int x))), (Str.ofString "seen", none), (Str.ofString "rows", none), (Str.ofString "tokens", none), (Str.ofString "wishes", none), (Str.ofString "left", none), (Str.ofString "pairs", none), (Str.ofString "choices", none), (Str.ofString "hue", none), (Str.ofString "low", none), (Str.ofString "high", none), (Str.ofString "near", none), (Str.ofString "spot", none), (Str.ofString "due", none), (Str.ofString "ends", none)]), (c_served, .cell none), (c_mine, .cell none), (c_ways, .cell none), (c_word, .cell none), (c_j, .cell none), (c_stock, .cell none), (c_wanted, .cell none), (c_paints, .cell none), (c_lexer, .cell none), (c_k, .cell none), (c_words, .cell none), (c_nine, .cell (some (D.lst (fv.map fun (x : Nat) => D.int x)))), (c_reach, .cell (some (D.int (r : Nat)))), (113, .raw (tabObj #[]))]) ?turn4 ?fin4 ⟨none, rfl⟩
    case turn4 =>
      rintro x hx σ ⟨o, rfl⟩
      kt_at_in
      refine kpcl_K (kp_130 g) (pure_use (t_seen g (hf5 x hx)) (by kt_len) ⟨rfl, _, rfl⟩)
    case fin4 =>
      rintro σ ⟨o, rfl⟩
      refine ⟨_, _, rfl, ?_⟩
      kt_at_in
      exact ⟨rfl, rfl⟩
  rintro _ rfl
  refine xs_cut (fun σ' => σ' = [(L, .ns [(Str.ofString "script", some (D.lst (xs.map D.int))), (Str.ofString "draws", some (D.lst (dr.map fun (x : Nat) => D.int x))), (Str.ofString "seen", some (D.lst (fv.map fun x => seenD x))), (Str.ofString "rows", none), (Str.ofString "tokens", none), (Str.ofString "wishes", none), (Str.ofString "left", none), (Str.ofString "pairs", none), (Str.ofString "choices", none), (Str.ofString "hue", none), (Str.ofString "low", none), (Str.ofString "high", none), (Str.ofString "near", none), (Str.ofString "spot", none), (Str.ofString "due", none), (Str.ofString "ends", none)]), (c_served, .cell none), (c_mine, .cell none), (c_ways, .cell none), (c_word, .cell none), (c_j, .cell none), (c_stock, .cell none), (c_wanted, .cell none), (c_paints, .cell none), (c_lexer, .cell none), (c_k, .cell none), (c_words, .cell none), (c_nine, .cell (some (D.lst (fv.map fun (x : Nat) => D.int x)))), (c_reach, .cell (some (D.int (r : Nat)))), (113, .raw (tabObj #[]))]) ?s5 ?_
  case s5 =>
    kt_at_in
    refine ev_cp (cl := []) O (by kt_at_item) ?_
    kt_at_in
    refine ⟨_, .lst _, by simp; omega, fun cenv C O' => ?_⟩
    dsimp only at O'
    refine compL_map fv _ (fun x => seenD x) (fun σ => ∃ o, σ = (C, .ns [(Str.ofString ".0", none), (Str.ofString "x", o)]) :: [(L, .ns [(Str.ofString "script", some (D.lst (xs.map D.int))), (Str.ofString "draws", some (D.lst (dr.map fun (x : Nat) => D.int x))), (Str.ofString "seen", some (D.lst (fv.map fun x => seenD x))), (Str.ofString "rows", none), (Str.ofString "tokens", none), (Str.ofString "wishes", none), (Str.ofString "left", none), (Str.ofString "pairs", none), (Str.ofString "choices", none), (Str.ofString "hue", none), (Str.ofString "low", none), (Str.ofString "high", none), (Str.ofString "near", none), (Str.ofString "spot", none), (Str.ofString "due", none), (Str.ofString "ends", none)]), (c_served, .cell none), (c_mine, .cell none), (c_ways, .cell none), (c_word, .cell none), (c_j, .cell none), (c_stock, .cell none), (c_wanted, .cell none), (c_paints, .cell none), (c_lexer, .cell none), (c_k, .cell none), (c_words, .cell none), (c_nine, .cell (some (D.lst (fv.map fun (x : Nat) => D.int x)))), (c_reach, .cell (some (D.int (r : Nat)))), (113, .raw (tabObj #[]))]) ?turn5 ?fin5 ⟨none, rfl⟩
    case turn5 =>
      rintro x hx σ ⟨o, rfl⟩
      kt_at_in
      refine bo_modN x 9 rfl rfl (by kt_len) ?_
      kt_at_in
      refine bo_divN (x % 9) 16 rfl rfl (by kt_len) (by kt_len) ?_
      kt_at_in
      refine bo_fdivN x 18 rfl rfl (by kt_len) ?_
      kt_at_in
      refine bo_modN (x / 18) 4 rfl rfl (by kt_len) ?_
      kt_at_in
      refine bo_divN (x / 18 % 4 + 1) 4 (by kt_len) rfl (by kt_len) (by kt_len) ?_
      kt_at_in
      refine bo_fdivN x 72 rfl rfl (by kt_len) ?_
      kt_at_in
      refine bo_modN (x / 72) 4 rfl rfl (by kt_len) ?_
      kt_at_in
      refine bo_divN (x / 72 % 4 + 1) 4 (by kt_len) rfl (by kt_len) (by kt_len) ?_
      kt_at_in
      exact ⟨by simp, rfl, _, rfl⟩
    case fin5 =>
      rintro σ ⟨o, rfl⟩
      refine ⟨_, _, rfl, ?_⟩
      refine co_ne_lists (.lst _) (.lst _) (fun d hd => by obtain ⟨x, _, rfl⟩ := List.mem_map.mp hd; exact seen_plain x) ?_
      kt_at_in
      refine ⟨(by kt_eqs), fun _ => ?_⟩
      kt_at_in
      exact ⟨rfl, rfl⟩
  rintro _ rfl
  refine xs_cut (fun σ' => σ' = [(L, .ns [(Str.ofString "script", some (D.lst (xs.map D.int))), (Str.ofString "draws", some (D.lst (dr.map fun (x : Nat) => D.int x))), (Str.ofString "seen", some (D.lst (fv.map fun x => seenD x))), (Str.ofString "rows", none), (Str.ofString "tokens", none), (Str.ofString "wishes", none), (Str.ofString "left", none), (Str.ofString "pairs", none), (Str.ofString "choices", none), (Str.ofString "hue", none), (Str.ofString "low", none), (Str.ofString "high", none), (Str.ofString "near", none), (Str.ofString "spot", none), (Str.ofString "due", none), (Str.ofString "ends", none)]), (c_served, .cell none), (c_mine, .cell none), (c_ways, .cell none), (c_word, .cell none), (c_j, .cell none), (c_stock, .cell none), (c_wanted, .cell none), (c_paints, .cell none), (c_lexer, .cell none), (c_k, .cell none), (c_words, .cell (some (D.lst (fv.map fun x => D.str (sl (wW (x % 9))))))), (c_nine, .cell (some (D.lst (fv.map fun (x : Nat) => D.int x)))), (c_reach, .cell (some (D.int (r : Nat)))), (113, .raw (tabObj #[]))]) ?s6 ?_
  case s6 =>
    (refine' x_assign_cell O ?k1 ?_ ?k2 ?k3; (case k1 => kt_at_get); (case k2 => with_unfolding_all rfl); (case k3 => with_unfolding_all rfl))
    refine ev_cpC (cl := []) O ⟨by with_unfolding_all rfl, by with_unfolding_all rfl, rfl, by decide +kernel, by decide +kernel, (by simp only [List.map_cons, List.map_nil]; decide +kernel), (fun _ => by with_unfolding_all rfl)⟩ ?_
    kt_at_in
    refine ⟨_, .lst _, by simp; omega, fun cenv C O0 => ?_⟩
    dsimp only at O0
    rw [show cellsFrom (C + 1) [(Str.ofString ".0", NameKind.local), (Str.ofString "told", NameKind.cell), (Str.ofString "range", NameKind.globalImplicit)] [] ++ [] = [(Str.ofString "told", C + 1)] from rfl] at O0
    show CompL G 8 cenv _ [] _ _ _ [] ((C, .ns [(Str.ofString ".0", none)]) :: (C + 1, .cell none) :: [(L, .ns [(Str.ofString "script", some (D.lst (xs.map D.int))), (Str.ofString "draws", some (D.lst (dr.map fun (x : Nat) => D.int x))), (Str.ofString "seen", some (D.lst (fv.map fun x => seenD x))), (Str.ofString "rows", none), (Str.ofString "tokens", none), (Str.ofString "wishes", none), (Str.ofString "left", none), (Str.ofString "pairs", none), (Str.ofString "choices", none), (Str.ofString "hue", none), (Str.ofString "low", none), (Str.ofString "high", none), (Str.ofString "near", none), (Str.ofString "spot", none), (Str.ofString "due", none), (Str.ofString "ends", none)]), (c_served, .cell none), (c_mine, .cell none), (c_ways, .cell none), (c_word, .cell none), (c_j, .cell none), (c_stock, .cell none), (c_wanted, .cell none), (c_paints, .cell none), (c_lexer, .cell none), (c_k, .cell none), (c_words, .cell none), (c_nine, .cell (some (D.lst (fv.map fun (x : Nat) => D.int x)))), (c_reach, .cell (some (D.int (r : Nat)))), (113, .raw (tabObj #[]))])
    generalize C + 1 = T at O0 ⊢
    refine compL_map fv (fun x => seenD x) (fun x => D.str (sl (wW (x % 9)))) (fun σ => ∃ o, σ = (C, .ns [(Str.ofString ".0", none)]) :: (T, .cell o) :: [(L, .ns [(Str.ofString "script", some (D.lst (xs.map D.int))), (Str.ofString "draws", some (D.lst (dr.map fun (x : Nat) => D.int x))), (Str.ofString "seen", some (D.lst (fv.map fun x => seenD x))), (Str.ofString "rows", none), (Str.ofString "tokens", none), (Str.ofString "wishes", none), (Str.ofString "left", none), (Str.ofString "pairs", none), (Str.ofString "choices", none), (Str.ofString "hue", none), (Str.ofString "low", none), (Str.ofString "high", none), (Str.ofString "near", none), (Str.ofString "spot", none), (Str.ofString "due", none), (Str.ofString "ends", none)]), (c_served, .cell none), (c_mine, .cell none), (c_ways, .cell none), (c_word, .cell none), (c_j, .cell none), (c_stock, .cell none), (c_wanted, .cell none), (c_paints, .cell none), (c_lexer, .cell none), (c_k, .cell none), (c_words, .cell none), (c_nine, .cell (some (D.lst (fv.map fun (x : Nat) => D.int x)))), (c_reach, .cell (some (D.int (r : Nat)))), (113, .raw (tabObj #[]))]) ?turn6 ?fin6 ⟨none, rfl⟩
    case turn6 =>
      rintro x hx σ ⟨o, rfl⟩
      (refine' as_cap O0 ?k2 ?k3 ?k4 ?_; (case k2 => kt_at_get); (case k3 => kt_at_get); (case k4 => (repeat (first | exact UpdL.head _ | apply UpdL.tail))))
      kt_at_in
      refine ⟨_, rfl, ?_⟩
      kt_at_in
      refine ev_cp (cl := [(Str.ofString "told", T)]) O0 (by kt_at_item) ?_
      kt_at_in
      refine cl_range1 ?_
      refine ⟨_, iter_upto (k := 8) (by kt_len), by simp, fun cenv2 C2 O2 => ?_⟩
      dsimp only at O2
      refine compL_upto 8 _ (fun i => .str (sl [wch (x % 9) i])) (fun _ σ => ∃ q, σ = (C2, .ns [(Str.ofString ".0", none), (Str.ofString "n", q)]) :: (C, .ns [(Str.ofString ".0", none)]) :: (T, .cell (some (seenD x))) :: [(L, .ns [(Str.ofString "script", some (D.lst (xs.map D.int))), (Str.ofString "draws", some (D.lst (dr.map fun (x : Nat) => D.int x))), (Str.ofString "seen", some (D.lst (fv.map fun x => seenD x))), (Str.ofString "rows", none), (Str.ofString "tokens", none), (Str.ofString "wishes", none), (Str.ofString "left", none), (Str.ofString "pairs", none), (Str.ofString "choices", none), (Str.ofString "hue", none), (Str.ofString "low", none), (Str.ofString "high", none), (Str.ofString "near", none), (Str.ofString "spot", none), (Str.ofString "due", none), (Str.ofString "ends", none)]), (c_served, .cell none), (c_mine, .cell none), (c_ways, .cell none), (c_word, .cell none), (c_j, .cell none), (c_stock, .cell none), (c_wanted, .cell none), (c_paints, .cell none), (c_lexer, .cell none), (c_k, .cell none), (c_words, .cell none), (c_nine, .cell (some (D.lst (fv.map fun (x : Nat) => D.int x)))), (c_reach, .cell (some (D.int (r : Nat)))), (113, .raw (tabObj #[]))]) ?t2 ?f2 ⟨none, rfl⟩
      case t2 =>
        rintro i σ hi ⟨q, rfl⟩
        have ht := num_tab (x % 9) (by kt_len) i hi
        kt_at_in
        refine gi_tup (i := 0) rfl (by kt_len) ?_
        kt_at_in
        refine bo_mulif (by decide) ?_
        kt_at_in
        rw [ht]
        refine ⟨fun hc => ?_, fun hc => ?_⟩
        · have hc' : i < x % 9 := of_decide_eq_true hc
          kt_at_in
          refine cl_chr (by kt_len) (by kt_len) ?_
          rw [show (⟨#[((65 : Int) + (i : Int)).toNat]⟩ : Str) = sl [wch (x % 9) i] by rw [wch, if_pos hc']; simp only [sl]; congr 2]
          exact ⟨rfl, _, rfl⟩
        · have hc' : ¬ i < x % 9 := of_decide_eq_false hc
          kt_at_in
          refine cl_chr (by kt_len) (by kt_len) ?_
          rw [show (⟨#[((97 : Int) + (i : Int)).toNat]⟩ : Str) = sl [wch (x % 9) i] by rw [wch, if_neg hc']; simp only [sl]; congr 2]
          exact ⟨rfl, _, rfl⟩
      case f2 =>
        rintro σ ⟨q, rfl⟩
        refine ⟨_, _, rfl, ?_⟩
        kt_at_in
        refine cl_join (xs := ((List.range 8).map fun i => [wch (x % 9) i]).map sl) (by rw [List.map_map, List.map_map]; exact .lst _) ?_ ?_
        · rw [show Str.ofString "" = sl [] by decide +kernel, sl_len]
          simp [sl_len, Function.comp_def, List.range_succ]
        rw [join_sl, ← wW_eq]
        exact ⟨rfl, _, rfl⟩
    case fin6 =>
      rintro σ ⟨o, rfl⟩
      refine ⟨_, _, (List.Sublist.refl _).cons _ |>.cons_cons _, ?_⟩
      kt_at_in
      exact ⟨rfl, rfl⟩
  rintro _ rfl
  obtain ⟨rs, hrs0⟩ : ∃ rs : List Row, rs = ((List.range 9).map fun i => (fv.getD i 0 / 288, wW (fv.getD i 0 % 9))) ++ [(0, [101, 110, 100])] := ⟨_, rfl⟩
  have hrl : rs.length = 10 := by rw [hrs0]; simp
  have hfg : ∀ i, i < 9 → fv.getD i 0 < 864 := fun i hi => by
    have hi' : i < fv.length := by kt_len
    have : fv.getD i 0 = fv[i] := by simp [hi']
    rw [this]; exact hf5 _ (List.getElem_mem hi')
  have hww : ∀ p, (wW p).length = 8 := fun p => by simp [wW]
  have hwo : ∀ p, ∀ c ∈ wW p, okC c = true := fun p c hc => by
    unfold wW at hc
    obtain ⟨i, hi, rfl⟩ := List.mem_map.mp hc
    have hi := List.mem_range.mp hi
    have h1 : ∀ i, i < 8 → okC (65 + i) = true ∧ okC (97 + i) = true := by decide
    split
    · exact (h1 i hi).1
    · exact (h1 i hi).2
  have hrs : ∀ q ∈ rs, RowOK q := fun q hq => by
    rw [hrs0] at hq
    rcases List.mem_append.mp hq with hq | hq
    · obtain ⟨i, hi, rfl⟩ := List.mem_map.mp hq
      have := hfg i (List.mem_range.mp hi)
      exact ⟨by dsimp only; omega, hwo _, (fun e => by have h := hww (fv.getD i 0 % 9); have e : wW (fv.getD i 0 % 9) = [] := e; rw [e] at h; cases h), Nat.le_of_eq (hww _)⟩
    · rcases List.mem_cons.mp hq with rfl | hq
      · exact ⟨by decide, by decide, by decide, by decide⟩
      · cases hq
  refine xs_cut (fun σ' => σ' = [(L, .ns [(Str.ofString "script", some (D.lst (xs.map D.int))), (Str.ofString "draws", some (D.lst (dr.map fun (x : Nat) => D.int x))), (Str.ofString "seen", some (D.lst (fv.map fun x => seenD x))), (Str.ofString "rows", some (D.lst ((List.range 9).map fun i => D.str (sl (spell ((fv.getD i 0 / 288 : Nat) : Int) (wW (fv.getD i 0 % 9)) ++ [10]))))), (Str.ofString "tokens", none), (Str.ofString "wishes", none), (Str.ofString "left", none), (Str.ofString "pairs", none), (Str.ofString "choices", none), (Str.ofString "hue", none), (Str.ofString "low", none), (Str.ofString "high", none), (Str.ofString "near", none), (Str.ofString "spot", none), (Str.ofString "due", none), (Str.ofString "ends", none)]), (c_served, .cell none), (c_mine, .cell none), (c_ways, .cell none), (c_word, .cell none), (c_j, .cell none), (c_stock, .cell none), (c_wanted, .cell none), (c_paints, .cell none), (c_lexer, .cell none), (c_k, .cell none), (c_words, .cell (some (D.lst (fv.map fun x => D.str (sl (wW (x % 9))))))), (c_nine, .cell (some (D.lst (fv.map fun (x : Nat) => D.int x)))), (c_reach, .cell (some (D.int (r : Nat)))), (113, .raw (tabObj #[]))]) ?s7 ?_
  case s7 =>
    refine x_cp (cl := [(Str.ofString "words", c_words), (Str.ofString "nine", c_nine)]) O (by kt_at_item) (by kt_at_get) ?_ rfl rfl
    kt_at_in
    refine cl_range1 ?_
    refine ⟨_, iter_upto (k := 9) (by kt_len), by simp, fun cenv C O' => ?_⟩
    dsimp only at O'
    refine compL_upto 9 _ (fun i => .str (sl (spell ((fv.getD i 0 / 288 : Nat) : Int) (wW (fv.getD i 0 % 9)) ++ [10]))) (fun _ σ => ∃ o, σ = (C, .ns [(Str.ofString ".0", none), (Str.ofString "k", o)]) :: [(L, .ns [(Str.ofString "script", some (D.lst (xs.map D.int))), (Str.ofString "draws", some (D.lst (dr.map fun (x : Nat) => D.int x))), (Str.ofString "seen", some (D.lst (fv.map fun x => seenD x))), (Str.ofString "rows", none), (Str.ofString "tokens", none), (Str.ofString "wishes", none), (Str.ofString "left", none), (Str.ofString "pairs", none), (Str.ofString "choices", none), (Str.ofString "hue", none), (Str.ofString "low", none), (Str.ofString "high", none), (Str.ofString "near", none), (Str.ofString "spot", none), (Str.ofString "due", none), (Str.ofString "ends", none)]), (c_served, .cell none), (c_mine, .cell none), (c_ways, .cell none), (c_word, .cell none), (c_j, .cell none), (c_stock, .cell none), (c_wanted, .cell none), (c_paints, .cell none), (c_lexer, .cell none), (c_k, .cell none), (c_words, .cell (some (D.lst (fv.map fun x => D.str (sl (wW (x % 9))))))), (c_nine, .cell (some (D.lst (fv.map fun (x : Nat) => D.int x)))), (c_reach, .cell (some (D.int (r : Nat)))), (113, .raw (tabObj #[]))]) ?turn7 ?fin7 ⟨none, rfl⟩
    case turn7 =>
      rintro i σ hi ⟨o, rfl⟩
      have hi' : i < fv.length := by kt_len
      have hg : fv.getD i 0 = fv[i] := by simp [hi']
      have hx := hfg i hi
      have hsl := spell_len (m := fv.getD i 0 / 288) (w := wW (fv.getD i 0 % 9))
      have h8 := hww (fv.getD i 0 % 9)
      kt_at_in
      refine gi_lst i (.lst _) rfl (by kt_len) (x := .str (sl (wW (fv.getD i 0 % 9)))) (by rw [hg]; simp [hi']) ?_
      kt_at_in
      refine gi_lst i (.lst _) rfl (by kt_len) (x := .int (fv.getD i 0 : Nat)) (by rw [hg]; simp [hi']) ?_
      kt_at_in
      refine bo_fdivN (fv.getD i 0) 288 rfl rfl (by kt_len) ?_
      kt_at_in
      refine kpcl_K (kp_123 g) (pure_use (t130 g (fun c hc => (let_not (hwo _ c hc)).2.2.2.2) (by kt_len)) (by kt_len) ?_)
      kt_at_in
      rw [show Str.ofString "\n" = sl [10] by decide +kernel]
      refine bo_sl (by simp only [List.length_cons, List.length_nil]; omega) ⟨rfl, _, rfl⟩
    case fin7 =>
      rintro σ ⟨o, rfl⟩
      refine ⟨_, _, rfl, ?_⟩
      kt_at_in
      exact ⟨rfl, rfl⟩
  rintro _ rfl
  have htx : textOf rs = ((List.range 9).map fun i => spell ((fv.getD i 0 / 288 : Nat) : Int) (wW (fv.getD i 0 % 9)) ++ [10]).flatten ++ [101, 110, 100, 10] := by
    rw [hrs0, textOf, List.map_append, List.flatten_append, List.map_map]; rfl
  have htl : (textOf rs).length ≤ 1000 := by have := text_len hrs; omega
  have hln : lnT 11 (RT rs 0) = 1 := by
    have h := text_count hrs
    rw [hrl] at h
    show (11 : Int) - ((RT rs 0).count 10 : Nat) = 1
    rw [RT_zero, h]; rfl
  have hrr : ∀ i, (RT rs i).length ≤ 1000 := fun i => by have := RT_len hrs i; omega
  refine xs_cut (fun σ' => ∃ a tps, LexOK G a ∧ σ' = (L, .ns [(Str.ofString "script", some (D.lst (xs.map D.int))), (Str.ofString "draws", some (D.lst (dr.map fun (x : Nat) => D.int x))), (Str.ofString "seen", some (D.lst (fv.map fun x => seenD x))), (Str.ofString "rows", some (D.lst ((List.range 9).map fun i => D.str (sl (spell ((fv.getD i 0 / 288 : Nat) : Int) (wW (fv.getD i 0 % 9)) ++ [10]))))), (Str.ofString "tokens", none), (Str.ofString "wishes", none), (Str.ofString "left", none), (Str.ofString "pairs", none), (Str.ofString "choices", none), (Str.ofString "hue", none), (Str.ofString "low", none), (Str.ofString "high", none), (Str.ofString "near", none), (Str.ofString "spot", none), (Str.ofString "due", none), (Str.ofString "ends", none)]) :: (c_served, .cell none) :: (c_mine, .cell none) :: (c_ways, .cell none) :: (c_word, .cell none) :: (c_j, .cell none) :: (c_stock, .cell none) :: (c_wanted, .cell none) :: (c_paints, .cell none) :: (c_lexer, .cell (some (D.obj a.lx))) :: (c_k, .cell none) :: (c_words, .cell (some (D.lst (fv.map fun x => D.str (sl (wW (x % 9))))))) :: (c_nine, .cell (some (D.lst (fv.map fun (x : Nat) => D.int x)))) :: (c_reach, .cell (some (D.int (r : Nat)))) :: (113, .raw (tabObj tps)) :: LexL a (RT rs 0) (lnT 11 (RT rs 0)) []) ?slex ?_
  case slex =>
    kt_at_in
    refine ⟨_, rfl, ?_⟩
    kt_at_in
    refine cl_join (xs := ((List.range 9).map fun i => spell ((fv.getD i 0 / 288 : Nat) : Int) (wW (fv.getD i 0 % 9)) ++ [10]).map sl) (by rw [List.map_map, List.map_map]; exact .lst _) ?_ ?_
    · rw [show Str.ofString "" = sl [] by decide +kernel, sl_len, List.map_map, List.length_map]
      have h : (((List.range 9).map fun i => spell ((fv.getD i 0 / 288 : Nat) : Int) (wW (fv.getD i 0 % 9)) ++ [10]).map fun x => (sl x).length).sum + 4 = (textOf rs).length := by
        rw [htx, List.length_append, List.length_flatten, List.map_map, List.map_map]
        exact congrArg (· + 4) (congrArg List.sum (List.map_congr_left fun q _ => by simp only [Function.comp, sl_len]))
      have h2 : (Str.length ∘ sl) = fun x => (sl x).length := rfl
      rw [h2]
      simp only [List.length_nil, Nat.mul_zero]; omega
    rw [join_sl]
    kt_at_in
    rw [show Str.ofString "end\n" = sl [101, 110, 100, 10] by decide +kernel]
    refine bo_sl (by have h := congrArg List.length htx; rw [List.length_append] at h; omega) ?_
    rw [← htx]
    kt_at_in
    refine kpcl_K (kp_118 g) ?_
    refine WI.perm (ρ := [(113, .raw (tabObj #[]))] ++ [(L, .ns [(Str.ofString "script", some (D.lst (xs.map D.int))), (Str.ofString "draws", some (D.lst (dr.map fun (x : Nat) => D.int x))), (Str.ofString "seen", some (D.lst (fv.map fun x => seenD x))), (Str.ofString "rows", some (D.lst ((List.range 9).map fun i => D.str (sl (spell ((fv.getD i 0 / 288 : Nat) : Int) (wW (fv.getD i 0 % 9)) ++ [10]))))), (Str.ofString "tokens", none), (Str.ofString "wishes", none), (Str.ofString "left", none), (Str.ofString "pairs", none), (Str.ofString "choices", none), (Str.ofString "hue", none), (Str.ofString "low", none), (Str.ofString "high", none), (Str.ofString "near", none), (Str.ofString "spot", none), (Str.ofString "due", none), (Str.ofString "ends", none)]), (c_served, .cell none), (c_mine, .cell none), (c_ways, .cell none), (c_word, .cell none), (c_j, .cell none), (c_stock, .cell none), (c_wanted, .cell none), (c_paints, .cell none), (c_lexer, .cell none), (c_k, .cell none), (c_words, .cell (some (D.lst (fv.map fun x => D.str (sl (wW (x % 9))))))), (c_nine, .cell (some (D.lst (fv.map fun (x : Nat) => D.int x)))), (c_reach, .cell (some (D.int (r : Nat))))]) (List.perm_append_comm (l₁ := [_])) (WI.frame (WI.mono (WI.le (t125 g htl) (by kt_len)) fun d σ' hd => ?_))
    obtain ⟨a, tps, ha, rfl, rfl⟩ := hd
    refine W1.perm (ρ := (L, .ns [(Str.ofString "script", some (D.lst (xs.map D.int))), (Str.ofString "draws", some (D.lst (dr.map fun (x : Nat) => D.int x))), (Str.ofString "seen", some (D.lst (fv.map fun x => seenD x))), (Str.ofString "rows", some (D.lst ((List.range 9).map fun i => D.str (sl (spell ((fv.getD i 0 / 288 : Nat) : Int) (wW (fv.getD i 0 % 9)) ++ [10]))))), (Str.ofString "tokens", none), (Str.ofString "wishes", none), (Str.ofString "left", none), (Str.ofString "pairs", none), (Str.ofString "choices", none), (Str.ofString "hue", none), (Str.ofString "low", none), (Str.ofString "high", none), (Str.ofString "near", none), (Str.ofString "spot", none), (Str.ofString "due", none), (Str.ofString "ends", none)]) :: (c_served, .cell none) :: (c_mine, .cell none) :: (c_ways, .cell none) :: (c_word, .cell none) :: (c_j, .cell none) :: (c_stock, .cell none) :: (c_wanted, .cell none) :: (c_paints, .cell none) :: (c_lexer, .cell none) :: (c_k, .cell none) :: (c_words, .cell (some (D.lst (fv.map fun x => D.str (sl (wW (x % 9))))))) :: (c_nine, .cell (some (D.lst (fv.map fun (x : Nat) => D.int x)))) :: (c_reach, .cell (some (D.int (r : Nat)))) :: (113, .raw (tabObj tps)) :: LexL a (textOf rs) 1 []) ?_ ?_
    · exact (List.Perm.append_left [(L, .ns [(Str.ofString "script", some (D.lst (xs.map D.int))), (Str.ofString "draws", some (D.lst (dr.map fun (x : Nat) => D.int x))), (Str.ofString "seen", some (D.lst (fv.map fun x => seenD x))), (Str.ofString "rows", some (D.lst ((List.range 9).map fun i => D.str (sl (spell ((fv.getD i 0 / 288 : Nat) : Int) (wW (fv.getD i 0 % 9)) ++ [10]))))), (Str.ofString "tokens", none), (Str.ofString "wishes", none), (Str.ofString "left", none), (Str.ofString "pairs", none), (Str.ofString "choices", none), (Str.ofString "hue", none), (Str.ofString "low", none), (Str.ofString "high", none), (Str.ofString "near", none), (Str.ofString "spot", none), (Str.ofString "due", none), (Str.ofString "ends", none)]), (c_served, .cell none), (c_mine, .cell none), (c_ways, .cell none), (c_word, .cell none), (c_j, .cell none), (c_stock, .cell none), (c_wanted, .cell none), (c_paints, .cell none), (c_lexer, .cell none), (c_k, .cell none), (c_words, .cell (some (D.lst (fv.map fun x => D.str (sl (wW (x % 9))))))), (c_nine, .cell (some (D.lst (fv.map fun (x : Nat) => D.int x)))), (c_reach, .cell (some (D.int (r : Nat))))] (List.perm_append_comm (l₁ := [(113, Cell.raw (tabObj tps))]) (l₂ := LexL a (textOf rs) 1 []))).trans List.perm_append_comm
    · kt_at_in
      exact ⟨rfl, a, tps, ha, by rw [hln, RT_zero]⟩
  rintro _ ⟨a, tps, ha, rfl⟩
  have htd : (List.range 9).map (fun i => D.str (sl ((wordsOf rs ++ [[]]).getD i []))) = fv.map fun x => D.str (sl (wW (x % 9))) := by
    have e3 := range_getD fv 0 hfl
    conv => rhs; rw [← e3, List.map_map]
    refine List.map_congr_left fun i hi => ?_
    have hi := List.mem_range.mp hi
    rw [hrs0, wordsOf, List.map_append, List.map_map]
    rw [List.getD_eq_getElem?_getD, List.append_assoc, List.getElem?_append_left (by simpa using hi)]
    simp [hi]
  have hf104 := f_104 g
  have ht104 := ty_104 g
  have hk104 := k_104 g
  refine xs_cut (fun σ' => σ' = (L, .ns [(Str.ofString "script", some (D.lst (xs.map D.int))), (Str.ofString "draws", some (D.lst (dr.map fun (x : Nat) => D.int x))), (Str.ofString "seen", some (D.lst (fv.map fun x => seenD x))), (Str.ofString "rows", some (D.lst ((List.range 9).map fun i => D.str (sl (spell ((fv.getD i 0 / 288 : Nat) : Int) (wW (fv.getD i 0 % 9)) ++ [10]))))), (Str.ofString "tokens", some (D.lst (fv.map fun x => D.str (sl (wW (x % 9)))))), (Str.ofString "wishes", none), (Str.ofString "left", none), (Str.ofString "pairs", none), (Str.ofString "choices", none), (Str.ofString "hue", none), (Str.ofString "low", none), (Str.ofString "high", none), (Str.ofString "near", none), (Str.ofString "spot", none), (Str.ofString "due", none), (Str.ofString "ends", none)]) :: (c_served, .cell none) :: (c_mine, .cell none) :: (c_ways, .cell none) :: (c_word, .cell none) :: (c_j, .cell none) :: (c_stock, .cell none) :: (c_wanted, .cell none) :: (c_paints, .cell none) :: (c_lexer, .cell (some (D.obj a.lx))) :: (c_k, .cell none) :: (c_words, .cell (some (D.lst (fv.map fun x => D.str (sl (wW (x % 9))))))) :: (c_nine, .cell (some (D.lst (fv.map fun (x : Nat) => D.int x)))) :: (c_reach, .cell (some (D.int (r : Nat)))) :: (113, .raw (tabObj tps)) :: LexL a (RT rs 9) (lnT 11 (RT rs 9)) []) ?stok ?_
  case stok =>
    refine x_cp (cl := [(Str.ofString "lexer", c_lexer)]) O (by kt_at_item) (by kt_at_get) ?_ rfl rfl
    kt_at_in
    refine ⟨_, .lst _, by simp, fun cenv C O' => ?_⟩
    dsimp only at O'
    refine compL_upto 9 _ (fun i => .str (sl ((wordsOf rs ++ [[]]).getD i []))) (fun i σ => ∃ o, σ = (C, .ns [(Str.ofString ".0", none), (Str.ofString "row", o)]) :: (L, .ns [(Str.ofString "script", some (D.lst (xs.map D.int))), (Str.ofString "draws", some (D.lst (dr.map fun (x : Nat) => D.int x))), (Str.ofString "seen", some (D.lst (fv.map fun x => seenD x))), (Str.ofString "rows", some (D.lst ((List.range 9).map fun i => D.str (sl (spell ((fv.getD i 0 / 288 : Nat) : Int) (wW (fv.getD i 0 % 9)) ++ [10]))))), (Str.ofString "tokens", none), (Str.ofString "wishes", none), (Str.ofString "left", none), (Str.ofString "pairs", none), (Str.ofString "choices", none), (Str.ofString "hue", none), (Str.ofString "low", none), (Str.ofString "high", none), (Str.ofString "near", none), (Str.ofString "spot", none), (Str.ofString "due", none), (Str.ofString "ends", none)]) :: (c_served, .cell none) :: (c_mine, .cell none) :: (c_ways, .cell none) :: (c_word, .cell none) :: (c_j, .cell none) :: (c_stock, .cell none) :: (c_wanted, .cell none) :: (c_paints, .cell none) :: (c_lexer, .cell (some (D.obj a.lx))) :: (c_k, .cell none) :: (c_words, .cell (some (D.lst (fv.map fun x => D.str (sl (wW (x % 9))))))) :: (c_nine, .cell (some (D.lst (fv.map fun (x : Nat) => D.int x)))) :: (c_reach, .cell (some (D.int (r : Nat)))) :: (113, .raw (tabObj tps)) :: LexL a (RT rs i) (lnT 11 (RT rs i)) []) ?turnT ?finT ⟨none, rfl⟩
    case turnT =>
      rintro i σ hi ⟨o, rfl⟩
      have htk := RT_step hrs (show i < rs.length + 1 by kt_len)
      kt_at_in
      (refine' ev_imeth (f := 83) P hf104 ht104 hk104 ?_ ?k1 ?k2 ?k3 ?k4; (case k1 => with_unfolding_all rfl); (case k2 => with_unfolding_all rfl); (case k3 => with_unfolding_all rfl); (case k4 => with_unfolding_all rfl))
      kt_at_in
      refine ⟨a.lx, a.ld, _, _, rfl, by kt_at_get, by kt_at_get, by kt_at_get, ?_⟩
      kt_at_in
      refine WI.mono (WI.le (gtCall g ha (T := 11) htk (hrr i) [(C, .ns [(Str.ofString ".0", none), (Str.ofString "row", some (D.str (sl (spell ((fv.getD i 0 / 288 : Nat) : Int) (wW (fv.getD i 0 % 9)) ++ [10]))))]), (L, .ns [(Str.ofString "script", some (D.lst (xs.map D.int))), (Str.ofString "draws", some (D.lst (dr.map fun (x : Nat) => D.int x))), (Str.ofString "seen", some (D.lst (fv.map fun x => seenD x))), (Str.ofString "rows", some (D.lst ((List.range 9).map fun i => D.str (sl (spell ((fv.getD i 0 / 288 : Nat) : Int) (wW (fv.getD i 0 % 9)) ++ [10]))))), (Str.ofString "tokens", none), (Str.ofString "wishes", none), (Str.ofString "left", none), (Str.ofString "pairs", none), (Str.ofString "choices", none), (Str.ofString "hue", none), (Str.ofString "low", none), (Str.ofString "high", none), (Str.ofString "near", none), (Str.ofString "spot", none), (Str.ofString "due", none), (Str.ofString "ends", none)]), (c_served, .cell none), (c_mine, .cell none), (c_ways, .cell none), (c_word, .cell none), (c_j, .cell none), (c_stock, .cell none), (c_wanted, .cell none), (c_paints, .cell none), (c_lexer, .cell (some (D.obj a.lx))), (c_k, .cell none), (c_words, .cell (some (D.lst (fv.map fun x => D.str (sl (wW (x % 9))))))), (c_nine, .cell (some (D.lst (fv.map fun (x : Nat) => D.int x)))), (c_reach, .cell (some (D.int (r : Nat)))), (113, .raw (tabObj tps))]).cl (by kt_len)) fun d σ' hd => ?_
      obtain ⟨rfl, rfl⟩ := hd
      exact ⟨rfl, _, rfl⟩
    case finT =>
      rintro σ ⟨o, rfl⟩
      refine ⟨_, _, rfl, ?_⟩
      rw [htd]
      kt_at_in
      exact ⟨rfl, rfl⟩
  rintro _ rfl
  refine xs_cut (fun σ' => σ' = (L, .ns [(Str.ofString "script", some (D.lst (xs.map D.int))), (Str.ofString "draws", some (D.lst (dr.map fun (x : Nat) => D.int x))), (Str.ofString "seen", some (D.lst (fv.map fun x => seenD x))), (Str.ofString "rows", some (D.lst ((List.range 9).map fun i => D.str (sl (spell ((fv.getD i 0 / 288 : Nat) : Int) (wW (fv.getD i 0 % 9)) ++ [10]))))), (Str.ofString "tokens", some (D.lst (fv.map fun x => D.str (sl (wW (x % 9)))))), (Str.ofString "wishes", none), (Str.ofString "left", none), (Str.ofString "pairs", none), (Str.ofString "choices", none), (Str.ofString "hue", none), (Str.ofString "low", none), (Str.ofString "high", none), (Str.ofString "near", none), (Str.ofString "spot", none), (Str.ofString "due", none), (Str.ofString "ends", none)]) :: (c_served, .cell none) :: (c_mine, .cell none) :: (c_ways, .cell none) :: (c_word, .cell none) :: (c_j, .cell none) :: (c_stock, .cell none) :: (c_wanted, .cell none) :: (c_paints, .cell none) :: (c_lexer, .cell (some (D.obj a.lx))) :: (c_k, .cell none) :: (c_words, .cell (some (D.lst (fv.map fun x => D.str (sl (wW (x % 9))))))) :: (c_nine, .cell (some (D.lst (fv.map fun (x : Nat) => D.int x)))) :: (c_reach, .cell (some (D.int (r : Nat)))) :: (113, .raw (tabObj tps)) :: LexL a (RT rs 9) (lnT 11 (RT rs 9)) []) ?sif ?_
  case sif =>
    kt_at_in
    refine ev_cp (cl := []) O (by kt_at_item) ?_
    kt_at_in
    refine ⟨_, .lst _, by simp; omega, fun cenv C O' => ?_⟩
    dsimp only at O'
    refine compL_map fv _ (fun x => .str (sl (wW (x % 9)))) (fun σ => ∃ o, σ = (C, .ns [(Str.ofString ".0", none), (Str.ofString "x", o)]) :: (L, .ns [(Str.ofString "script", some (D.lst (xs.map D.int))), (Str.ofString "draws", some (D.lst (dr.map fun (x : Nat) => D.int x))), (Str.ofString "seen", some (D.lst (fv.map fun x => seenD x))), (Str.ofString "rows", some (D.lst ((List.range 9).map fun i => D.str (sl (spell ((fv.getD i 0 / 288 : Nat) : Int) (wW (fv.getD i 0 % 9)) ++ [10]))))), (Str.ofString "tokens", some (D.lst (fv.map fun x => D.str (sl (wW (x % 9)))))), (Str.ofString "wishes", none), (Str.ofString "left", none), (Str.ofString "pairs", none), (Str.ofString "choices", none), (Str.ofString "hue", none), (Str.ofString "low", none), (Str.ofString "high", none), (Str.ofString "near", none), (Str.ofString "spot", none), (Str.ofString "due", none), (Str.ofString "ends", none)]) :: (c_served, .cell none) :: (c_mine, .cell none) :: (c_ways, .cell none) :: (c_word, .cell none) :: (c_j, .cell none) :: (c_stock, .cell none) :: (c_wanted, .cell none) :: (c_paints, .cell none) :: (c_lexer, .cell (some (D.obj a.lx))) :: (c_k, .cell none) :: (c_words, .cell (some (D.lst (fv.map fun x => D.str (sl (wW (x % 9))))))) :: (c_nine, .cell (some (D.lst (fv.map fun (x : Nat) => D.int x)))) :: (c_reach, .cell (some (D.int (r : Nat)))) :: (113, .raw (tabObj tps)) :: LexL a (RT rs 9) (lnT 11 (RT rs 9)) []) ?turnI ?finI ⟨none, rfl⟩
    case turnI =>
      rintro x hx σ ⟨o, rfl⟩
      kt_at_in
      refine bo_modN x 9 rfl rfl (by kt_len) ?_
      kt_at_in
      refine kpcl_K (kp_137 g) (pure_use (t_word g (by kt_len)) (by kt_len) ⟨rfl, _, rfl⟩)
    case finI =>
      rintro σ ⟨o, rfl⟩
      refine ⟨_, _, rfl, ?_⟩
      refine co_ne_lists (.lst _) (.lst _) (fun d hd => by obtain ⟨x, _, rfl⟩ := List.mem_map.mp hd; exact .str _ _) ?_
      kt_at_in
      refine ⟨(by kt_eqs), fun _ => ?_⟩
      kt_at_in
      exact ⟨rfl, rfl⟩
  rintro _ rfl
  obtain ⟨E, hE⟩ : ∃ E : Nat → Nat, E = fun i => fv.getD i 0 % 9 := ⟨_, rfl⟩
  have hE9 : ∀ i, E i < 9 := fun i => by rw [hE]; exact Nat.mod_lt _ (by decide)
  have hsn : ∀ i, i < 9 → (fv.map fun x => seenD x)[i]? = some (seenD (fv.getD i 0)) := fun i hi => by
    have hi' : i < fv.length := by kt_len
    simp [hi', List.getD_eq_getElem?_getD]
  have htn : ∀ i, i < 9 → (fv.map fun x => D.str (sl (wW (x % 9))))[i]? = some (D.str (sl (wW (E i)))) := fun i hi => by
    have hi' : i < fv.length := by kt_len
    rw [hE]
    simp [hi', List.getD_eq_getElem?_getD]
  refine xs_cut (fun σ' => ∃ wa, σ' = (wa, .list (((([] : List Nat)).map qe).map eD)) :: (L, .ns [(Str.ofString "script", some (D.lst (xs.map D.int))), (Str.ofString "draws", some (D.lst (dr.map fun (x : Nat) => D.int x))), (Str.ofString "seen", some (D.lst (fv.map fun x => seenD x))), (Str.ofString "rows", some (D.lst ((List.range 9).map fun i => D.str (sl (spell ((fv.getD i 0 / 288 : Nat) : Int) (wW (fv.getD i 0 % 9)) ++ [10]))))), (Str.ofString "tokens", some (D.lst (fv.map fun x => D.str (sl (wW (x % 9)))))), (Str.ofString "wishes", some (D.obj wa)), (Str.ofString "left", none), (Str.ofString "pairs", none), (Str.ofString "choices", none), (Str.ofString "hue", none), (Str.ofString "low", none), (Str.ofString "high", none), (Str.ofString "near", none), (Str.ofString "spot", none), (Str.ofString "due", none), (Str.ofString "ends", none)]) :: (c_served, .cell none) :: (c_mine, .cell none) :: (c_ways, .cell none) :: (c_word, .cell none) :: (c_j, .cell none) :: (c_stock, .cell none) :: (c_wanted, .cell none) :: (c_paints, .cell none) :: (c_lexer, .cell (some (D.obj a.lx))) :: (c_k, .cell none) :: (c_words, .cell (some (D.lst (fv.map fun x => D.str (sl (wW (x % 9))))))) :: (c_nine, .cell (some (D.lst (fv.map fun (x : Nat) => D.int x)))) :: (c_reach, .cell (some (D.int (r : Nat)))) :: (113, .raw (tabObj tps)) :: LexL a (RT rs 9) (lnT 11 (RT rs 9)) []) ?swi ?_
  case swi =>
    kt_at_in
    (refine' ev_own ?_ ?k1; (case k1 => with_unfolding_all rfl))
    kt_at_in
    refine ⟨by simp, fun sh => ?_⟩
    kt_at_in
    exact ⟨rfl, sh, rfl⟩
  rintro _ ⟨wa, rfl⟩
  refine xs_cut (fun σ' => ∃ kv, σ' = (wa, .list (((rowW E 4).map qe).map eD)) :: (L, .ns [(Str.ofString "script", some (D.lst (xs.map D.int))), (Str.ofString "draws", some (D.lst (dr.map fun (x : Nat) => D.int x))), (Str.ofString "seen", some (D.lst (fv.map fun x => seenD x))), (Str.ofString "rows", some (D.lst ((List.range 9).map fun i => D.str (sl (spell ((fv.getD i 0 / 288 : Nat) : Int) (wW (fv.getD i 0 % 9)) ++ [10]))))), (Str.ofString "tokens", some (D.lst (fv.map fun x => D.str (sl (wW (x % 9)))))), (Str.ofString "wishes", some (D.obj wa)), (Str.ofString "left", none), (Str.ofString "pairs", none), (Str.ofString "choices", none), (Str.ofString "hue", none), (Str.ofString "low", none), (Str.ofString "high", none), (Str.ofString "near", none), (Str.ofString "spot", none), (Str.ofString "due", none), (Str.ofString "ends", none)]) :: (c_served, .cell none) :: (c_mine, .cell none) :: (c_ways, .cell none) :: (c_word, .cell none) :: (c_j, .cell none) :: (c_stock, .cell none) :: (c_wanted, .cell none) :: (c_paints, .cell none) :: (c_lexer, .cell (some (D.obj a.lx))) :: (c_k, .cell (kv)) :: (c_words, .cell (some (D.lst (fv.map fun x => D.str (sl (wW (x % 9))))))) :: (c_nine, .cell (some (D.lst (fv.map fun (x : Nat) => D.int x)))) :: (c_reach, .cell (some (D.int (r : Nat)))) :: (113, .raw (tabObj tps)) :: LexL a (RT rs 9) (lnT 11 (RT rs 9)) []) ?swl ?_
  case swl =>
    kt_at_in
    refine cl_range1 ?_
    refine ⟨_, iter_upto (k := 4) (by kt_len), ?_⟩
    refine fork_upto (fun i σ => ∃ kv, σ = (wa, .list (((rowW E i).map qe).map eD)) :: (L, .ns [(Str.ofString "script", some (D.lst (xs.map D.int))), (Str.ofString "draws", some (D.lst (dr.map fun (x : Nat) => D.int x))), (Str.ofString "seen", some (D.lst (fv.map fun x => seenD x))), (Str.ofString "rows", some (D.lst ((List.range 9).map fun i => D.str (sl (spell ((fv.getD i 0 / 288 : Nat) : Int) (wW (fv.getD i 0 % 9)) ++ [10]))))), (Str.ofString "tokens", some (D.lst (fv.map fun x => D.str (sl (wW (x % 9)))))), (Str.ofString "wishes", some (D.obj wa)), (Str.ofString "left", none), (Str.ofString "pairs", none), (Str.ofString "choices", none), (Str.ofString "hue", none), (Str.ofString "low", none), (Str.ofString "high", none), (Str.ofString "near", none), (Str.ofString "spot", none), (Str.ofString "due", none), (Str.ofString "ends", none)]) :: (c_served, .cell none) :: (c_mine, .cell none) :: (c_ways, .cell none) :: (c_word, .cell none) :: (c_j, .cell none) :: (c_stock, .cell none) :: (c_wanted, .cell none) :: (c_paints, .cell none) :: (c_lexer, .cell (some (D.obj a.lx))) :: (c_k, .cell (kv)) :: (c_words, .cell (some (D.lst (fv.map fun x => D.str (sl (wW (x % 9))))))) :: (c_nine, .cell (some (D.lst (fv.map fun (x : Nat) => D.int x)))) :: (c_reach, .cell (some (D.int (r : Nat)))) :: (113, .raw (tabObj tps)) :: LexL a (RT rs 9) (lnT 11 (RT rs 9)) []) ?fswl ?tswl ⟨_, rfl⟩
    case fswl =>
      rintro σ ⟨kv, rfl⟩
      exact ⟨rfl, kv, rfl⟩
    case tswl =>
      rintro i σ hi ⟨kv, rfl⟩
      (refine' as_cap O ?k2 ?k3 ?k4 ?_; (case k2 => kt_at_get); (case k3 => kt_at_get); (case k4 => (repeat (first | exact UpdL.head _ | apply UpdL.tail))))
      kt_at_in
      refine ev_call_kw ?_
      kt_at_in
      refine ⟨_, rfl, ?_⟩
      kt_at_in
      refine gi_lst i (.lst _) rfl (by kt_len) (hsn i (by kt_len)) ?_
      kt_at_in
      refine gi_tup (i := 0) rfl (by kt_len) ?_
      kt_at_in
      refine gi_lst i (.lst _) rfl (by kt_len) (htn i (by kt_len)) ?_
      kt_at_in
      refine ⟨by simp, ?_⟩
      kt_at_in
      refine ⟨kp_K (kp_23 g), ?_⟩
      have hlt := rowW_lt (E := E) (i := i) fun j _ => (hE9 _)
      have hln := rowW_len E i
      rw [show fv.getD i 0 % 9 = E i from (by rw [hE])]
      refine CLkw.mono (CLkw.le (insortk g (p := qe (E i)) (ws := (rowW E i).map qe) (by simp; omega) (bis_q (hE9 _) hlt) (by (repeat (first | exact UpdL.head _ | apply UpdL.tail)))) (by kt_len)) fun d σ' hd => ?_
      obtain ⟨rfl, rfl⟩ := hd
      kt_at_in
      rw [ins_map, ← rowW_step]
      exact ⟨_, rfl⟩
  rintro _ ⟨kv, rfl⟩
  refine xs_cut (fun σ' => ∃ pa, σ' = (pa, .list (((([] : List Nat)).map qe).map eD)) :: (wa, .list (((rowW E 4).map qe).map eD)) :: (L, .ns [(Str.ofString "script", some (D.lst (xs.map D.int))), (Str.ofString "draws", some (D.lst (dr.map fun (x : Nat) => D.int x))), (Str.ofString "seen", some (D.lst (fv.map fun x => seenD x))), (Str.ofString "rows", some (D.lst ((List.range 9).map fun i => D.str (sl (spell ((fv.getD i 0 / 288 : Nat) : Int) (wW (fv.getD i 0 % 9)) ++ [10]))))), (Str.ofString "tokens", some (D.lst (fv.map fun x => D.str (sl (wW (x % 9)))))), (Str.ofString "wishes", some (D.obj wa)), (Str.ofString "left", none), (Str.ofString "pairs", none), (Str.ofString "choices", none), (Str.ofString "hue", none), (Str.ofString "low", none), (Str.ofString "high", none), (Str.ofString "near", none), (Str.ofString "spot", none), (Str.ofString "due", none), (Str.ofString "ends", none)]) :: (c_served, .cell none) :: (c_mine, .cell none) :: (c_ways, .cell none) :: (c_word, .cell none) :: (c_j, .cell none) :: (c_stock, .cell none) :: (c_wanted, .cell none) :: (c_paints, .cell (some (D.obj pa))) :: (c_lexer, .cell (some (D.obj a.lx))) :: (c_k, .cell (kv)) :: (c_words, .cell (some (D.lst (fv.map fun x => D.str (sl (wW (x % 9))))))) :: (c_nine, .cell (some (D.lst (fv.map fun (x : Nat) => D.int x)))) :: (c_reach, .cell (some (D.int (r : Nat)))) :: (113, .raw (tabObj tps)) :: LexL a (RT rs 9) (lnT 11 (RT rs 9)) []) ?spi ?_
  case spi =>
    kt_at_in
    (refine' ev_own ?_ ?k1; (case k1 => with_unfolding_all rfl))
    kt_at_in
    refine ⟨by simp, fun sh => ?_⟩
    kt_at_in
    exact ⟨rfl, sh, rfl⟩
  rintro _ ⟨pa, rfl⟩
  obtain ⟨E2, hE2⟩ : ∃ E2 : Nat → Nat, E2 = fun i => E (4 + i) := ⟨_, rfl⟩
  have hE29 : ∀ i, E2 i < 9 := fun i => by rw [hE2]; exact hE9 _
  refine xs_cut (fun σ' => ∃ kv, σ' = (pa, .list (((rowW E2 5).map qe).map eD)) :: (wa, .list (((rowW E 4).map qe).map eD)) :: (L, .ns [(Str.ofString "script", some (D.lst (xs.map D.int))), (Str.ofString "draws", some (D.lst (dr.map fun (x : Nat) => D.int x))), (Str.ofString "seen", some (D.lst (fv.map fun x => seenD x))), (Str.ofString "rows", some (D.lst ((List.range 9).map fun i => D.str (sl (spell ((fv.getD i 0 / 288 : Nat) : Int) (wW (fv.getD i 0 % 9)) ++ [10]))))), (Str.ofString "tokens", some (D.lst (fv.map fun x => D.str (sl (wW (x % 9)))))), (Str.ofString "wishes", some (D.obj wa)), (Str.ofString "left", none), (Str.ofString "pairs", none), (Str.ofString "choices", none), (Str.ofString "hue", none), (Str.ofString "low", none), (Str.ofString "high", none), (Str.ofString "near", none), (Str.ofString "spot", none), (Str.ofString "due", none), (Str.ofString "ends", none)]) :: (c_served, .cell none) :: (c_mine, .cell none) :: (c_ways, .cell none) :: (c_word, .cell none) :: (c_j, .cell none) :: (c_stock, .cell none) :: (c_wanted, .cell none) :: (c_paints, .cell (some (D.obj pa))) :: (c_lexer, .cell (some (D.obj a.lx))) :: (c_k, .cell (kv)) :: (c_words, .cell (some (D.lst (fv.map fun x => D.str (sl (wW (x % 9))))))) :: (c_nine, .cell (some (D.lst (fv.map fun (x : Nat) => D.int x)))) :: (c_reach, .cell (some (D.int (r : Nat)))) :: (113, .raw (tabObj tps)) :: LexL a (RT rs 9) (lnT 11 (RT rs 9)) []) ?spl ?_
  case spl =>
    kt_at_in
    refine cl_range2 ?_
    refine ⟨_, iter_from (a := 4) (b := 9) (by kt_len) (by kt_len), ?_⟩
    refine fork_upto (fun i σ => ∃ kv, σ = (pa, .list (((rowW E2 i).map qe).map eD)) :: (wa, .list (((rowW E 4).map qe).map eD)) :: (L, .ns [(Str.ofString "script", some (D.lst (xs.map D.int))), (Str.ofString "draws", some (D.lst (dr.map fun (x : Nat) => D.int x))), (Str.ofString "seen", some (D.lst (fv.map fun x => seenD x))), (Str.ofString "rows", some (D.lst ((List.range 9).map fun i => D.str (sl (spell ((fv.getD i 0 / 288 : Nat) : Int) (wW (fv.getD i 0 % 9)) ++ [10]))))), (Str.ofString "tokens", some (D.lst (fv.map fun x => D.str (sl (wW (x % 9)))))), (Str.ofString "wishes", some (D.obj wa)), (Str.ofString "left", none), (Str.ofString "pairs", none), (Str.ofString "choices", none), (Str.ofString "hue", none), (Str.ofString "low", none), (Str.ofString "high", none), (Str.ofString "near", none), (Str.ofString "spot", none), (Str.ofString "due", none), (Str.ofString "ends", none)]) :: (c_served, .cell none) :: (c_mine, .cell none) :: (c_ways, .cell none) :: (c_word, .cell none) :: (c_j, .cell none) :: (c_stock, .cell none) :: (c_wanted, .cell none) :: (c_paints, .cell (some (D.obj pa))) :: (c_lexer, .cell (some (D.obj a.lx))) :: (c_k, .cell (kv)) :: (c_words, .cell (some (D.lst (fv.map fun x => D.str (sl (wW (x % 9))))))) :: (c_nine, .cell (some (D.lst (fv.map fun (x : Nat) => D.int x)))) :: (c_reach, .cell (some (D.int (r : Nat)))) :: (113, .raw (tabObj tps)) :: LexL a (RT rs 9) (lnT 11 (RT rs 9)) []) ?fspl ?tspl ⟨_, rfl⟩
    case fspl =>
      rintro σ ⟨kv, rfl⟩
      exact ⟨rfl, kv, rfl⟩
    case tspl =>
      rintro i σ hi ⟨kv, rfl⟩
      (refine' as_cap O ?k2 ?k3 ?k4 ?_; (case k2 => kt_at_get); (case k3 => kt_at_get); (case k4 => (repeat (first | exact UpdL.head _ | apply UpdL.tail))))
      kt_at_in
      refine ev_call_kw ?_
      kt_at_in
      refine ⟨_, rfl, ?_⟩
      kt_at_in
      refine gi_lst (4 + i) (.lst _) rfl (by kt_len) (hsn (4 + i) (by kt_len)) ?_
      kt_at_in
      refine gi_tup (i := 0) rfl (by kt_len) ?_
      kt_at_in
      refine gi_lst (4 + i) (.lst _) rfl (by kt_len) (htn (4 + i) (by kt_len)) ?_
      kt_at_in
      refine ⟨by simp, ?_⟩
      kt_at_in
      refine ⟨kp_K (kp_23 g), ?_⟩
      have hlt := rowW_lt (E := E2) (i := i) fun j _ => (hE29 _)
      have hln := rowW_len E2 i
      rw [show fv.getD (4 + i) 0 % 9 = E2 i from (by rw [hE2, hE]), show E (4 + i) = E2 i from (by rw [hE2])]
      refine CLkw.mono (CLkw.le (insortk g (p := qe (E2 i)) (ws := (rowW E2 i).map qe) (by simp; omega) (bis_q (hE29 _) hlt) (by (repeat (first | exact UpdL.head _ | apply UpdL.tail)))) (by kt_len)) fun d σ' hd => ?_
      obtain ⟨rfl, rfl⟩ := hd
      kt_at_in
      rw [ins_map, ← rowW_step]
      exact ⟨_, rfl⟩
  rintro _ ⟨kv, rfl⟩
  obtain ⟨ws, hws⟩ : ∃ ws, ws = rowW E 4 := ⟨_, rfl⟩
  obtain ⟨ss, hss⟩ : ∃ ss, ss = rowW E2 5 := ⟨_, rfl⟩
  have hw4 : ws.length = 4 := by rw [hws]; exact rowW_len _ _
  have hs5 : ss.length = 5 := by rw [hss]; exact rowW_len _ _
  have hw9 : ∀ y ∈ ws, y < 9 := by rw [hws]; exact rowW_lt fun j _ => hE9 j
  have hs9 : ∀ y ∈ ss, y < 9 := by rw [hss]; exact rowW_lt fun j _ => hE29 j
  have hwo' : ws.Pairwise (· ≤ ·) := by rw [hws]; exact (rowW_facts E 4).1
  have hso' : ss.Pairwise (· ≤ ·) := by rw [hss]; exact (rowW_facts E2 5).1
  have hwp : ws.Perm ((fv.take 4).map (· % 9)) := by
    rw [hws]
    refine (rowW_facts E 4).2.trans (List.Perm.of_eq ?_)
    refine List.ext_getElem (by simp; omega) fun i h1 h2 => ?_
    have h1' : i < 4 := by simpa using h1
    simp [hE, List.getD_eq_getElem?_getD, show i < fv.length by kt_len]
  have hsp : ss.Perm ((fv.drop 4).map (· % 9)) := by
    rw [hss]
    refine (rowW_facts E2 5).2.trans (List.Perm.of_eq ?_)
    refine List.ext_getElem (by simp; omega) fun i h1 h2 => ?_
    have h1' : i < 5 := by simpa using h1
    simp [hE2, hE, List.getD_eq_getElem?_getD, show 4 + i < fv.length by kt_len]
  rw [← hws, ← hss]
  have hpe : (ss.map qe).map eD = ss.map fun s => eD (qe s) := by rw [List.map_map]; rfl
  rw [hpe]
  refine W.freezeCell (a := pa) (c := c_paints) (σ₁ := [(wa, .list (((ws).map qe).map eD)), (L, .ns [(Str.ofString "script", some (D.lst (xs.map D.int))), (Str.ofString "draws", some (D.lst (dr.map fun (x : Nat) => D.int x))), (Str.ofString "seen", some (D.lst (fv.map fun x => seenD x))), (Str.ofString "rows", some (D.lst ((List.range 9).map fun i => D.str (sl (spell ((fv.getD i 0 / 288 : Nat) : Int) (wW (fv.getD i 0 % 9)) ++ [10]))))), (Str.ofString "tokens", some (D.lst (fv.map fun x => D.str (sl (wW (x % 9)))))), (Str.ofString "wishes", some (D.obj wa)), (Str.ofString "left", none), (Str.ofString "pairs", none), (Str.ofString "choices", none), (Str.ofString "hue", none), (Str.ofString "low", none), (Str.ofString "high", none), (Str.ofString "near", none), (Str.ofString "spot", none), (Str.ofString "due", none), (Str.ofString "ends", none)]), (c_served, .cell none), (c_mine, .cell none), (c_ways, .cell none), (c_word, .cell none), (c_j, .cell none), (c_stock, .cell none), (c_wanted, .cell none)]) ?_
  simp only [List.cons_append, List.nil_append]
  refine xs_cut (fun σ' => σ' = (wa, .list (((ws).map qe).map eD)) :: (L, .ns [(Str.ofString "script", some (D.lst (xs.map D.int))), (Str.ofString "draws", some (D.lst (dr.map fun (x : Nat) => D.int x))), (Str.ofString "seen", some (D.lst (fv.map fun x => seenD x))), (Str.ofString "rows", some (D.lst ((List.range 9).map fun i => D.str (sl (spell ((fv.getD i 0 / 288 : Nat) : Int) (wW (fv.getD i 0 % 9)) ++ [10]))))), (Str.ofString "tokens", some (D.lst (fv.map fun x => D.str (sl (wW (x % 9)))))), (Str.ofString "wishes", some (D.obj wa)), (Str.ofString "left", none), (Str.ofString "pairs", none), (Str.ofString "choices", none), (Str.ofString "hue", none), (Str.ofString "low", none), (Str.ofString "high", none), (Str.ofString "near", none), (Str.ofString "spot", none), (Str.ofString "due", none), (Str.ofString "ends", none)]) :: (c_served, .cell none) :: (c_mine, .cell none) :: (c_ways, .cell none) :: (c_word, .cell none) :: (c_j, .cell none) :: (c_stock, .cell none) :: (c_wanted, .cell (some (D.lst (ws.map fun (x : Nat) => D.int x)))) :: (c_paints, .cell (some (D.lst (ss.map fun s => eD (qe s))))) :: (c_lexer, .cell (some (D.obj a.lx))) :: (c_k, .cell (kv)) :: (c_words, .cell (some (D.lst (fv.map fun x => D.str (sl (wW (x % 9))))))) :: (c_nine, .cell (some (D.lst (fv.map fun (x : Nat) => D.int x)))) :: (c_reach, .cell (some (D.int (r : Nat)))) :: (113, .raw (tabObj tps)) :: LexL a (RT rs 9) (lnT 11 (RT rs 9)) []) ?sowanted ?_
  case sowanted =>
    (refine' x_assign_cell O ?k1 ?_ ?k2 ?k3; (case k1 => kt_at_get); (case k2 => with_unfolding_all rfl); (case k3 => with_unfolding_all rfl))
    kt_at_in
    refine ev_cp (cl := []) O (by kt_at_item) ?_
    kt_at_in
    refine sl_to 4 (.lst _) (by simp; omega) ?_
    refine ⟨_, .lst _, by simp; omega, fun cenv C O' => ?_⟩
    dsimp only at O'
    rw [← List.map_take]
    refine compL_map (fv.take 4) (fun (x : Nat) => D.int x) (fun x => .int ((x % 9 : Nat) : Int)) (fun σ => ∃ o, σ = (C, .ns [(Str.ofString ".0", none), (Str.ofString "x", o)]) :: (wa, .list (((ws).map qe).map eD)) :: (L, .ns [(Str.ofString "script", some (D.lst (xs.map D.int))), (Str.ofString "draws", some (D.lst (dr.map fun (x : Nat) => D.int x))), (Str.ofString "seen", some (D.lst (fv.map fun x => seenD x))), (Str.ofString "rows", some (D.lst ((List.range 9).map fun i => D.str (sl (spell ((fv.getD i 0 / 288 : Nat) : Int) (wW (fv.getD i 0 % 9)) ++ [10]))))), (Str.ofString "tokens", some (D.lst (fv.map fun x => D.str (sl (wW (x % 9)))))), (Str.ofString "wishes", some (D.obj wa)), (Str.ofString "left", none), (Str.ofString "pairs", none), (Str.ofString "choices", none), (Str.ofString "hue", none), (Str.ofString "low", none), (Str.ofString "high", none), (Str.ofString "near", none), (Str.ofString "spot", none), (Str.ofString "due", none), (Str.ofString "ends", none)]) :: (c_served, .cell none) :: (c_mine, .cell none) :: (c_ways, .cell none) :: (c_word, .cell none) :: (c_j, .cell none) :: (c_stock, .cell none) :: (c_wanted, .cell none) :: (c_paints, .cell (some (D.lst (ss.map fun s => eD (qe s))))) :: (c_lexer, .cell (some (D.obj a.lx))) :: (c_k, .cell (kv)) :: (c_words, .cell (some (D.lst (fv.map fun x => D.str (sl (wW (x % 9))))))) :: (c_nine, .cell (some (D.lst (fv.map fun (x : Nat) => D.int x)))) :: (c_reach, .cell (some (D.int (r : Nat)))) :: (113, .raw (tabObj tps)) :: LexL a (RT rs 9) (lnT 11 (RT rs 9)) []) ?tuwanted ?fiwanted ⟨none, rfl⟩
    case tuwanted =>
      rintro x hx σ ⟨o, rfl⟩
      kt_at_in
      refine bo_modN x 9 rfl rfl (by kt_len) ⟨rfl, _, rfl⟩
    case fiwanted =>
      rintro σ ⟨o, rfl⟩
      refine ⟨_, _, rfl, ?_⟩
      kt_at_in
      refine cl_sorted (L := L) (ns := ((fv.take 4).map (· % 9)).map fun (x : Nat) => (x : Int)) (by
        have e : (((fv.take 4).map (· % 9)).map fun (x : Nat) => (x : Int)).map D.int = (fv.take 4).map fun x => D.int ((x % 9 : Nat) : Int) := by rw [List.map_map, List.map_map]; rfl
        rw [e]; exact .lst _) (by kt_at_get) (by simp; omega) fun ns' hp hsrt => ?_
      have e2 : ns'.map D.int = ws.map fun (x : Nat) => D.int x := by rw [sorted_row hp hsrt hwo' hwp, List.map_map]; rfl
      rw [e2]
      kt_at_in
      exact ⟨rfl, rfl⟩
  rintro _ rfl
  refine xs_cut (fun σ' => σ' = (wa, .list (((ws).map qe).map eD)) :: (L, .ns [(Str.ofString "script", some (D.lst (xs.map D.int))), (Str.ofString "draws", some (D.lst (dr.map fun (x : Nat) => D.int x))), (Str.ofString "seen", some (D.lst (fv.map fun x => seenD x))), (Str.ofString "rows", some (D.lst ((List.range 9).map fun i => D.str (sl (spell ((fv.getD i 0 / 288 : Nat) : Int) (wW (fv.getD i 0 % 9)) ++ [10]))))), (Str.ofString "tokens", some (D.lst (fv.map fun x => D.str (sl (wW (x % 9)))))), (Str.ofString "wishes", some (D.obj wa)), (Str.ofString "left", none), (Str.ofString "pairs", none), (Str.ofString "choices", none), (Str.ofString "hue", none), (Str.ofString "low", none), (Str.ofString "high", none), (Str.ofString "near", none), (Str.ofString "spot", none), (Str.ofString "due", none), (Str.ofString "ends", none)]) :: (c_served, .cell none) :: (c_mine, .cell none) :: (c_ways, .cell none) :: (c_word, .cell none) :: (c_j, .cell none) :: (c_stock, .cell (some (D.lst (ss.map fun (x : Nat) => D.int x)))) :: (c_wanted, .cell (some (D.lst (ws.map fun (x : Nat) => D.int x)))) :: (c_paints, .cell (some (D.lst (ss.map fun s => eD (qe s))))) :: (c_lexer, .cell (some (D.obj a.lx))) :: (c_k, .cell (kv)) :: (c_words, .cell (some (D.lst (fv.map fun x => D.str (sl (wW (x % 9))))))) :: (c_nine, .cell (some (D.lst (fv.map fun (x : Nat) => D.int x)))) :: (c_reach, .cell (some (D.int (r : Nat)))) :: (113, .raw (tabObj tps)) :: LexL a (RT rs 9) (lnT 11 (RT rs 9)) []) ?sostock ?_
  case sostock =>
    (refine' x_assign_cell O ?k1 ?_ ?k2 ?k3; (case k1 => kt_at_get); (case k2 => with_unfolding_all rfl); (case k3 => with_unfolding_all rfl))
    kt_at_in
    refine ev_cp (cl := []) O (by kt_at_item) ?_
    kt_at_in
    refine sl_from 4 (.lst _) (by simp; omega) ?_
    refine ⟨_, .lst _, by simp; omega, fun cenv C O' => ?_⟩
    dsimp only at O'
    rw [← List.map_drop]
    refine compL_map (fv.drop 4) (fun (x : Nat) => D.int x) (fun x => .int ((x % 9 : Nat) : Int)) (fun σ => ∃ o, σ = (C, .ns [(Str.ofString ".0", none), (Str.ofString "x", o)]) :: (wa, .list (((ws).map qe).map eD)) :: (L, .ns [(Str.ofString "script", some (D.lst (xs.map D.int))), (Str.ofString "draws", some (D.lst (dr.map fun (x : Nat) => D.int x))), (Str.ofString "seen", some (D.lst (fv.map fun x => seenD x))), (Str.ofString "rows", some (D.lst ((List.range 9).map fun i => D.str (sl (spell ((fv.getD i 0 / 288 : Nat) : Int) (wW (fv.getD i 0 % 9)) ++ [10]))))), (Str.ofString "tokens", some (D.lst (fv.map fun x => D.str (sl (wW (x % 9)))))), (Str.ofString "wishes", some (D.obj wa)), (Str.ofString "left", none), (Str.ofString "pairs", none), (Str.ofString "choices", none), (Str.ofString "hue", none), (Str.ofString "low", none), (Str.ofString "high", none), (Str.ofString "near", none), (Str.ofString "spot", none), (Str.ofString "due", none), (Str.ofString "ends", none)]) :: (c_served, .cell none) :: (c_mine, .cell none) :: (c_ways, .cell none) :: (c_word, .cell none) :: (c_j, .cell none) :: (c_stock, .cell none) :: (c_wanted, .cell (some (D.lst (ws.map fun (x : Nat) => D.int x)))) :: (c_paints, .cell (some (D.lst (ss.map fun s => eD (qe s))))) :: (c_lexer, .cell (some (D.obj a.lx))) :: (c_k, .cell (kv)) :: (c_words, .cell (some (D.lst (fv.map fun x => D.str (sl (wW (x % 9))))))) :: (c_nine, .cell (some (D.lst (fv.map fun (x : Nat) => D.int x)))) :: (c_reach, .cell (some (D.int (r : Nat)))) :: (113, .raw (tabObj tps)) :: LexL a (RT rs 9) (lnT 11 (RT rs 9)) []) ?tustock ?fistock ⟨none, rfl⟩
    case tustock =>
      rintro x hx σ ⟨o, rfl⟩
      kt_at_in
      refine bo_modN x 9 rfl rfl (by kt_len) ⟨rfl, _, rfl⟩
    case fistock =>
      rintro σ ⟨o, rfl⟩
      refine ⟨_, _, rfl, ?_⟩
      kt_at_in
      refine cl_sorted (L := L) (ns := ((fv.drop 4).map (· % 9)).map fun (x : Nat) => (x : Int)) (by
        have e : (((fv.drop 4).map (· % 9)).map fun (x : Nat) => (x : Int)).map D.int = (fv.drop 4).map fun x => D.int ((x % 9 : Nat) : Int) := by rw [List.map_map, List.map_map]; rfl
        rw [e]; exact .lst _) (by kt_at_get) (by simp; omega) fun ns' hp hsrt => ?_
      have e2 : ns'.map D.int = ss.map fun (x : Nat) => D.int x := by rw [sorted_row hp hsrt hso' hsp, List.map_map]; rfl
      rw [e2]
      kt_at_in
      exact ⟨rfl, rfl⟩
  rintro _ rfl
  have hpq : ∀ x, x < 9 → Plain 50 (eD (qe x)) := fun x hx => by
    refine .tup 49 _ fun d hd => ?_
    rcases List.mem_cons.mp hd with rfl | hd
    · exact plain_frac (by kt_len) (by kt_len)
    rcases List.mem_cons.mp hd with rfl | hd
    · exact .str _ _
    · cases hd
  refine xs_cut (fun σ' => σ' = (wa, .list (((ws).map qe).map eD)) :: (L, .ns [(Str.ofString "script", some (D.lst (xs.map D.int))), (Str.ofString "draws", some (D.lst (dr.map fun (x : Nat) => D.int x))), (Str.ofString "seen", some (D.lst (fv.map fun x => seenD x))), (Str.ofString "rows", some (D.lst ((List.range 9).map fun i => D.str (sl (spell ((fv.getD i 0 / 288 : Nat) : Int) (wW (fv.getD i 0 % 9)) ++ [10]))))), (Str.ofString "tokens", some (D.lst (fv.map fun x => D.str (sl (wW (x % 9)))))), (Str.ofString "wishes", some (D.obj wa)), (Str.ofString "left", none), (Str.ofString "pairs", none), (Str.ofString "choices", none), (Str.ofString "hue", none), (Str.ofString "low", none), (Str.ofString "high", none), (Str.ofString "near", none), (Str.ofString "spot", none), (Str.ofString "due", none), (Str.ofString "ends", none)]) :: (c_served, .cell none) :: (c_mine, .cell none) :: (c_ways, .cell none) :: (c_word, .cell none) :: (c_j, .cell none) :: (c_stock, .cell (some (D.lst (ss.map fun (x : Nat) => D.int x)))) :: (c_wanted, .cell (some (D.lst (ws.map fun (x : Nat) => D.int x)))) :: (c_paints, .cell (some (D.lst (ss.map fun s => eD (qe s))))) :: (c_lexer, .cell (some (D.obj a.lx))) :: (c_k, .cell (kv)) :: (c_words, .cell (some (D.lst (fv.map fun x => D.str (sl (wW (x % 9))))))) :: (c_nine, .cell (some (D.lst (fv.map fun (x : Nat) => D.int x)))) :: (c_reach, .cell (some (D.int (r : Nat)))) :: (113, .raw (tabObj tps)) :: LexL a (RT rs 9) (lnT 11 (RT rs 9)) []) ?sif2 ?_
  case sif2 =>
    kt_at_in
    refine ev_cp (cl := []) O (by kt_at_item) ?_
    kt_at_in
    refine ⟨_, .lst _, by simp; omega, fun cenv C O' => ?_⟩
    dsimp only at O'
    refine compL_map ws (fun (x : Nat) => D.int x) (fun x => eD (qe x)) (fun σ => ∃ o, σ = (C, .ns [(Str.ofString ".0", none), (Str.ofString "x", o)]) :: (wa, .list (((ws).map qe).map eD)) :: (L, .ns [(Str.ofString "script", some (D.lst (xs.map D.int))), (Str.ofString "draws", some (D.lst (dr.map fun (x : Nat) => D.int x))), (Str.ofString "seen", some (D.lst (fv.map fun x => seenD x))), (Str.ofString "rows", some (D.lst ((List.range 9).map fun i => D.str (sl (spell ((fv.getD i 0 / 288 : Nat) : Int) (wW (fv.getD i 0 % 9)) ++ [10]))))), (Str.ofString "tokens", some (D.lst (fv.map fun x => D.str (sl (wW (x % 9)))))), (Str.ofString "wishes", some (D.obj wa)), (Str.ofString "left", none), (Str.ofString "pairs", none), (Str.ofString "choices", none), (Str.ofString "hue", none), (Str.ofString "low", none), (Str.ofString "high", none), (Str.ofString "near", none), (Str.ofString "spot", none), (Str.ofString "due", none), (Str.ofString "ends", none)]) :: (c_served, .cell none) :: (c_mine, .cell none) :: (c_ways, .cell none) :: (c_word, .cell none) :: (c_j, .cell none) :: (c_stock, .cell (some (D.lst (ss.map fun (x : Nat) => D.int x)))) :: (c_wanted, .cell (some (D.lst (ws.map fun (x : Nat) => D.int x)))) :: (c_paints, .cell (some (D.lst (ss.map fun s => eD (qe s))))) :: (c_lexer, .cell (some (D.obj a.lx))) :: (c_k, .cell (kv)) :: (c_words, .cell (some (D.lst (fv.map fun x => D.str (sl (wW (x % 9))))))) :: (c_nine, .cell (some (D.lst (fv.map fun (x : Nat) => D.int x)))) :: (c_reach, .cell (some (D.int (r : Nat)))) :: (113, .raw (tabObj tps)) :: LexL a (RT rs 9) (lnT 11 (RT rs 9)) []) ?tura ?fira ⟨none, rfl⟩
    case tura =>
      rintro x hx σ ⟨o, rfl⟩
      have hx9 := hw9 x hx
      kt_at_in
      refine bo_divN x 16 rfl rfl (by kt_len) (by kt_len) ?_
      kt_at_in
      refine kpcl_K (kp_137 g) (pure_use (t_word g (by kt_len)) (by kt_len) ?_)
      kt_at_in
      exact ⟨by simp, rfl, _, rfl⟩
    case fira =>
    rintro σ ⟨o, rfl⟩
    refine ⟨_, _, rfl, ?_⟩
    rw [show ws.map (fun x => eD (qe x)) = (ws.map qe).map eD by rw [List.map_map]; rfl]
    refine co_ne_lists (.obj (by kt_at_get)) (.lst _) (fun d hd => by
      rw [List.map_map] at hd
      obtain ⟨x, hx, rfl⟩ := List.mem_map.mp hd
      exact hpq x (hw9 x hx)) ?_
    kt_at_in
    refine ⟨(by kt_eqs), fun _ => ?_⟩
    kt_at_in
    refine ev_cp (cl := []) O (by kt_at_item) ?_
    kt_at_in
    refine ⟨_, .lst _, by simp; omega, fun cenv C O' => ?_⟩
    dsimp only at O'
    refine compL_map ss (fun (x : Nat) => D.int x) (fun x => eD (qe x)) (fun σ => ∃ o, σ = (C, .ns [(Str.ofString ".0", none), (Str.ofString "x", o)]) :: (wa, .list (((ws).map qe).map eD)) :: (L, .ns [(Str.ofString "script", some (D.lst (xs.map D.int))), (Str.ofString "draws", some (D.lst (dr.map fun (x : Nat) => D.int x))), (Str.ofString "seen", some (D.lst (fv.map fun x => seenD x))), (Str.ofString "rows", some (D.lst ((List.range 9).map fun i => D.str (sl (spell ((fv.getD i 0 / 288 : Nat) : Int) (wW (fv.getD i 0 % 9)) ++ [10]))))), (Str.ofString "tokens", some (D.lst (fv.map fun x => D.str (sl (wW (x % 9)))))), (Str.ofString "wishes", some (D.obj wa)), (Str.ofString "left", none), (Str.ofString "pairs", none), (Str.ofString "choices", none), (Str.ofString "hue", none), (Str.ofString "low", none), (Str.ofString "high", none), (Str.ofString "near", none), (Str.ofString "spot", none), (Str.ofString "due", none), (Str.ofString "ends", none)]) :: (c_served, .cell none) :: (c_mine, .cell none) :: (c_ways, .cell none) :: (c_word, .cell none) :: (c_j, .cell none) :: (c_stock, .cell (some (D.lst (ss.map fun (x : Nat) => D.int x)))) :: (c_wanted, .cell (some (D.lst (ws.map fun (x : Nat) => D.int x)))) :: (c_paints, .cell (some (D.lst (ss.map fun s => eD (qe s))))) :: (c_lexer, .cell (some (D.obj a.lx))) :: (c_k, .cell (kv)) :: (c_words, .cell (some (D.lst (fv.map fun x => D.str (sl (wW (x % 9))))))) :: (c_nine, .cell (some (D.lst (fv.map fun (x : Nat) => D.int x)))) :: (c_reach, .cell (some (D.int (r : Nat)))) :: (113, .raw (tabObj tps)) :: LexL a (RT rs 9) (lnT 11 (RT rs 9)) []) ?turb ?firb ⟨none, rfl⟩
    case turb =>
      rintro x hx σ ⟨o, rfl⟩
      have hx9 := hs9 x hx
      kt_at_in
      refine bo_divN x 16 rfl rfl (by kt_len) (by kt_len) ?_
      kt_at_in
      refine kpcl_K (kp_137 g) (pure_use (t_word g (by kt_len)) (by kt_len) ?_)
      kt_at_in
      exact ⟨by simp, rfl, _, rfl⟩
    case firb =>
    rintro σ ⟨o, rfl⟩
    refine ⟨_, _, rfl, ?_⟩
    refine co_ne_lists (.lst _) (.lst _) (fun d hd => by
      obtain ⟨x, hx, rfl⟩ := List.mem_map.mp hd
      exact hpq x (hs9 x hx)) ?_
    kt_at_in
    refine ⟨(by kt_eqs), fun _ => ?_⟩
    kt_at_in
    refine ⟨(by kt_eqs), fun _ => ?_⟩
    kt_at_in
    exact ⟨rfl, rfl⟩
  rintro _ rfl
  have hsq : ∀ j, j < 5 → (ss.map fun s => eD (qe s))[j]? = some (eD (qe (ss.getD j 0))) := fun j hj => by
    have : j < ss.length := by kt_len
    simp [this, List.getD_eq_getElem?_getD]
  have hwq : ∀ j, j < 4 → ((ws.map qe).map eD)[j]? = some (eD (qe (ws.getD j 0))) := fun j hj => by
    have : j < ws.length := by kt_len
    simp [this, List.getD_eq_getElem?_getD]
  refine xs_cut (fun σ' => ∃ la, σ' = (la, .list (((List.range 5).map (ql ss)).map eD)) :: (wa, .list (((ws).map qe).map eD)) :: (L, .ns [(Str.ofString "script", some (D.lst (xs.map D.int))), (Str.ofString "draws", some (D.lst (dr.map fun (x : Nat) => D.int x))), (Str.ofString "seen", some (D.lst (fv.map fun x => seenD x))), (Str.ofString "rows", some (D.lst ((List.range 9).map fun i => D.str (sl (spell ((fv.getD i 0 / 288 : Nat) : Int) (wW (fv.getD i 0 % 9)) ++ [10]))))), (Str.ofString "tokens", some (D.lst (fv.map fun x => D.str (sl (wW (x % 9)))))), (Str.ofString "wishes", some (D.obj wa)), (Str.ofString "left", some (D.obj la)), (Str.ofString "pairs", none), (Str.ofString "choices", none), (Str.ofString "hue", none), (Str.ofString "low", none), (Str.ofString "high", none), (Str.ofString "near", none), (Str.ofString "spot", none), (Str.ofString "due", none), (Str.ofString "ends", none)]) :: (c_served, .cell none) :: (c_mine, .cell none) :: (c_ways, .cell none) :: (c_word, .cell none) :: (c_j, .cell none) :: (c_stock, .cell (some (D.lst (ss.map fun (x : Nat) => D.int x)))) :: (c_wanted, .cell (some (D.lst (ws.map fun (x : Nat) => D.int x)))) :: (c_paints, .cell (some (D.lst (ss.map fun s => eD (qe s))))) :: (c_lexer, .cell (some (D.obj a.lx))) :: (c_k, .cell (kv)) :: (c_words, .cell (some (D.lst (fv.map fun x => D.str (sl (wW (x % 9))))))) :: (c_nine, .cell (some (D.lst (fv.map fun (x : Nat) => D.int x)))) :: (c_reach, .cell (some (D.int (r : Nat)))) :: (113, .raw (tabObj tps)) :: LexL a (RT rs 9) (lnT 11 (RT rs 9)) []) ?sleft ?_
  case sleft =>
    refine x_cpO (cl := [(Str.ofString "paints", c_paints)]) O (by kt_at_item) (by kt_at_get) ?_ rfl rfl
    kt_at_in
    refine cl_range1 ?_
    refine ⟨_, iter_upto (k := 5) (by kt_len), by simp, fun cenv C O' => ?_⟩
    dsimp only at O'
    refine compL_upto 5 _ (fun j => eD (ql ss j)) (fun _ σ => ∃ o, σ = (C, .ns [(Str.ofString ".0", none), (Str.ofString "j", o)]) :: (wa, .list (((ws).map qe).map eD)) :: (L, .ns [(Str.ofString "script", some (D.lst (xs.map D.int))), (Str.ofString "draws", some (D.lst (dr.map fun (x : Nat) => D.int x))), (Str.ofString "seen", some (D.lst (fv.map fun x => seenD x))), (Str.ofString "rows", some (D.lst ((List.range 9).map fun i => D.str (sl (spell ((fv.getD i 0 / 288 : Nat) : Int) (wW (fv.getD i 0 % 9)) ++ [10]))))), (Str.ofString "tokens", some (D.lst (fv.map fun x => D.str (sl (wW (x % 9)))))), (Str.ofString "wishes", some (D.obj wa)), (Str.ofString "left", none), (Str.ofString "pairs", none), (Str.ofString "choices", none), (Str.ofString "hue", none), (Str.ofString "low", none), (Str.ofString "high", none), (Str.ofString "near", none), (Str.ofString "spot", none), (Str.ofString "due", none), (Str.ofString "ends", none)]) :: (c_served, .cell none) :: (c_mine, .cell none) :: (c_ways, .cell none) :: (c_word, .cell none) :: (c_j, .cell none) :: (c_stock, .cell (some (D.lst (ss.map fun (x : Nat) => D.int x)))) :: (c_wanted, .cell (some (D.lst (ws.map fun (x : Nat) => D.int x)))) :: (c_paints, .cell (some (D.lst (ss.map fun s => eD (qe s))))) :: (c_lexer, .cell (some (D.obj a.lx))) :: (c_k, .cell (kv)) :: (c_words, .cell (some (D.lst (fv.map fun x => D.str (sl (wW (x % 9))))))) :: (c_nine, .cell (some (D.lst (fv.map fun (x : Nat) => D.int x)))) :: (c_reach, .cell (some (D.int (r : Nat)))) :: (113, .raw (tabObj tps)) :: LexL a (RT rs 9) (lnT 11 (RT rs 9)) []) ?tul ?fil ⟨none, rfl⟩
    case tul =>
      rintro i σ hi ⟨o, rfl⟩
      kt_at_in
      refine gi_lst i (.lst _) rfl (by kt_len) (hsq i hi) ?_
      kt_at_in
      refine gi_tup (i := 0) rfl (by kt_len) ?_
      kt_at_in
      refine gi_lst i (.lst _) rfl (by kt_len) (hsq i hi) ?_
      kt_at_in
      refine gi_tup (i := 1) rfl (by kt_len) ?_
      kt_at_in
      exact ⟨by simp, rfl, _, rfl⟩
    case fil =>
      rintro σ ⟨o, rfl⟩
      refine ⟨_, _, rfl, fun la => ?_⟩
      rw [show (List.range 5).map (fun j => eD (ql ss j)) = ((List.range 5).map (ql ss)).map eD by rw [List.map_map]; rfl]
      kt_at_in
      exact ⟨rfl, la, rfl⟩
  rintro _ ⟨la, rfl⟩
  refine xs_cut (fun σ' => ∃ qa, σ' = (qa, .list []) :: (la, .list (((List.range 5).map (ql ss)).map eD)) :: (wa, .list (((ws).map qe).map eD)) :: (L, .ns [(Str.ofString "script", some (D.lst (xs.map D.int))), (Str.ofString "draws", some (D.lst (dr.map fun (x : Nat) => D.int x))), (Str.ofString "seen", some (D.lst (fv.map fun x => seenD x))), (Str.ofString "rows", some (D.lst ((List.range 9).map fun i => D.str (sl (spell ((fv.getD i 0 / 288 : Nat) : Int) (wW (fv.getD i 0 % 9)) ++ [10]))))), (Str.ofString "tokens", some (D.lst (fv.map fun x => D.str (sl (wW (x % 9)))))), (Str.ofString "wishes", some (D.obj wa)), (Str.ofString "left", some (D.obj la)), (Str.ofString "pairs", some (D.obj qa)), (Str.ofString "choices", none), (Str.ofString "hue", none), (Str.ofString "low", none), (Str.ofString "high", none), (Str.ofString "near", none), (Str.ofString "spot", none), (Str.ofString "due", none), (Str.ofString "ends", none)]) :: (c_served, .cell none) :: (c_mine, .cell none) :: (c_ways, .cell none) :: (c_word, .cell none) :: (c_j, .cell none) :: (c_stock, .cell (some (D.lst (ss.map fun (x : Nat) => D.int x)))) :: (c_wanted, .cell (some (D.lst (ws.map fun (x : Nat) => D.int x)))) :: (c_paints, .cell (some (D.lst (ss.map fun s => eD (qe s))))) :: (c_lexer, .cell (some (D.obj a.lx))) :: (c_k, .cell (kv)) :: (c_words, .cell (some (D.lst (fv.map fun x => D.str (sl (wW (x % 9))))))) :: (c_nine, .cell (some (D.lst (fv.map fun (x : Nat) => D.int x)))) :: (c_reach, .cell (some (D.int (r : Nat)))) :: (113, .raw (tabObj tps)) :: LexL a (RT rs 9) (lnT 11 (RT rs 9)) []) ?spairs ?_
  case spairs =>
    kt_at_in
    (refine' ev_own ?_ ?k1; (case k1 => with_unfolding_all rfl))
    kt_at_in
    refine ⟨by simp, fun sh => ?_⟩
    kt_at_in
    exact ⟨rfl, sh, rfl⟩
  rintro _ ⟨qa, rfl⟩
  refine xs_cut (fun σ' => σ' = (qa, .list []) :: (la, .list (((List.range 5).map (ql ss)).map eD)) :: (wa, .list (((ws).map qe).map eD)) :: (L, .ns [(Str.ofString "script", some (D.lst (xs.map D.int))), (Str.ofString "draws", some (D.lst (dr.map fun (x : Nat) => D.int x))), (Str.ofString "seen", some (D.lst (fv.map fun x => seenD x))), (Str.ofString "rows", some (D.lst ((List.range 9).map fun i => D.str (sl (spell ((fv.getD i 0 / 288 : Nat) : Int) (wW (fv.getD i 0 % 9)) ++ [10]))))), (Str.ofString "tokens", some (D.lst (fv.map fun x => D.str (sl (wW (x % 9)))))), (Str.ofString "wishes", some (D.obj wa)), (Str.ofString "left", some (D.obj la)), (Str.ofString "pairs", some (D.obj qa)), (Str.ofString "choices", some (D.lst [D.tup [D.int 0, D.lst []]])), (Str.ofString "hue", none), (Str.ofString "low", none), (Str.ofString "high", none), (Str.ofString "near", none), (Str.ofString "spot", none), (Str.ofString "due", none), (Str.ofString "ends", none)]) :: (c_served, .cell none) :: (c_mine, .cell none) :: (c_ways, .cell none) :: (c_word, .cell none) :: (c_j, .cell none) :: (c_stock, .cell (some (D.lst (ss.map fun (x : Nat) => D.int x)))) :: (c_wanted, .cell (some (D.lst (ws.map fun (x : Nat) => D.int x)))) :: (c_paints, .cell (some (D.lst (ss.map fun s => eD (qe s))))) :: (c_lexer, .cell (some (D.obj a.lx))) :: (c_k, .cell (kv)) :: (c_words, .cell (some (D.lst (fv.map fun x => D.str (sl (wW (x % 9))))))) :: (c_nine, .cell (some (D.lst (fv.map fun (x : Nat) => D.int x)))) :: (c_reach, .cell (some (D.int (r : Nat)))) :: (113, .raw (tabObj tps)) :: LexL a (RT rs 9) (lnT 11 (RT rs 9)) []) ?schoices ?_
  case schoices =>
    kt_at_in
    (refine' ev_list ?_ ?k1; (case k1 => with_unfolding_all rfl))
    kt_at_in
    (refine' ev_list ?_ ?k1; (case k1 => with_unfolding_all rfl))
    kt_at_in
    refine ⟨by simp, ?_⟩
    kt_at_in
    refine ⟨by simp, ?_⟩
    kt_at_in
    refine ⟨by simp, ?_⟩
    kt_at_in
    exact ⟨rfl, rfl⟩
  rintro _ rfl
  obtain ⟨lo, hlo⟩ : ∃ lo : Nat → Nat, lo = fun i => loI ss (ws.getD i 0) r := ⟨_, rfl⟩
  obtain ⟨hi, hhi⟩ : ∃ hi : Nat → Nat, hi = fun i => hiI ss (ws.getD i 0) r := ⟨_, rfl⟩
  have hwg : ∀ i, i < 4 → ws.getD i 0 < 9 := fun i hi => getD9 hw9 (by kt_len)
  have hlo5 : ∀ i, lo i ≤ 5 := fun i => by rw [hlo]; exact (loI_spec hs5 hso' _ _).1
  have hhi5 : ∀ i, hi i ≤ 5 := fun i => by rw [hhi]; exact (hiI_spec hs5 hso' _ _).1
  have hlohi : ∀ i, lo i ≤ hi i := fun i => by rw [hlo, hhi]; exact lo_le_hi hs5 hso' _ _
  have hhiM : ∀ i, i < 3 → hi i ≤ hi (i + 1) := fun i hi => by rw [hhi]; exact hiI_mono hs5 hso' r (sorted_getD hwo' i (i + 1) (by kt_len) (by kt_len))
  have hwl : ∀ p, ∀ c ∈ wW p, isLet c = true := fun p c hc => by
    unfold wW at hc
    obtain ⟨i, hi, rfl⟩ := List.mem_map.mp hc
    have hi := List.mem_range.mp hi
    have h1 : ∀ i, i < 8 → isLet (65 + i) = true ∧ isLet (97 + i) = true := by decide
    split
    · exact (h1 i hi).1
    · exact (h1 i hi).2
  have hsi : ∀ j, j < 5 → (ss.map fun (x : Nat) => D.int x)[j]? = some (D.int (ss.getD j 0 : Nat)) := fun j hj => by
    have : j < ss.length := by kt_len
    simp [this, List.getD_eq_getElem?_getD]
  have hwi4 : ∀ j, j < 4 → (ws.map fun (x : Nat) => D.int x)[j]? = some (D.int (ws.getD j 0 : Nat)) := fun j hj => by
    have : j < ws.length := by kt_len
    simp [this, List.getD_eq_getElem?_getD]
  have hf90 := f_111 g
  have ht90 := ty_111 g
  have hk90 := k_111 g
  refine xs_cut (fun σ' => ∃ kv hv wv yv lv gv nv sv mv, σ' = (qa, .list ((prR lo hi (4)).map fun p => D.tup [D.int (p.1 : Nat), D.int (p.2 : Nat)])) :: (la, .list (((lfR lo hi (4)).map (ql ss)).map eD)) :: (wa, .list (((ws).map qe).map eD)) :: (L, .ns [(Str.ofString "script", some (D.lst (xs.map D.int))), (Str.ofString "draws", some (D.lst (dr.map fun (x : Nat) => D.int x))), (Str.ofString "seen", some (D.lst (fv.map fun x => seenD x))), (Str.ofString "rows", some (D.lst ((List.range 9).map fun i => D.str (sl (spell ((fv.getD i 0 / 288 : Nat) : Int) (wW (fv.getD i 0 % 9)) ++ [10]))))), (Str.ofString "tokens", some (D.lst (fv.map fun x => D.str (sl (wW (x % 9)))))), (Str.ofString "wishes", some (D.obj wa)), (Str.ofString "left", some (D.obj la)), (Str.ofString "pairs", some (D.obj qa)), (Str.ofString "choices", some (D.lst ((chW lo hi (4)).map fun p => chE p))), (Str.ofString "hue", hv), (Str.ofString "low", lv), (Str.ofString "high", gv), (Str.ofString "near", nv), (Str.ofString "spot", sv), (Str.ofString "due", none), (Str.ofString "ends", none)]) :: (c_served, .cell none) :: (c_mine, .cell (mv)) :: (c_ways, .cell (yv)) :: (c_word, .cell (wv)) :: (c_j, .cell none) :: (c_stock, .cell (some (D.lst (ss.map fun (x : Nat) => D.int x)))) :: (c_wanted, .cell (some (D.lst (ws.map fun (x : Nat) => D.int x)))) :: (c_paints, .cell (some (D.lst (ss.map fun s => eD (qe s))))) :: (c_lexer, .cell (some (D.obj a.lx))) :: (c_k, .cell (kv)) :: (c_words, .cell (some (D.lst (fv.map fun x => D.str (sl (wW (x % 9))))))) :: (c_nine, .cell (some (D.lst (fv.map fun (x : Nat) => D.int x)))) :: (c_reach, .cell (some (D.int (r : Nat)))) :: (113, .raw (tabObj tps)) :: LexL a (RT rs 9) (lnT 11 (RT rs 9)) ((puR lo hi (4)).map fun k => D.str (sl (wW (ws.getD k 0))))) ?sloop ?_
  case sloop =>
    kt_at_in
    refine cl_range1 ?_
    refine ⟨_, iter_upto (k := 4) (by kt_len), ?_⟩
    refine fork_upto (fun i σ => ∃ kv hv wv yv lv gv nv sv mv, σ = (qa, .list ((prR lo hi (i)).map fun p => D.tup [D.int (p.1 : Nat), D.int (p.2 : Nat)])) :: (la, .list (((lfR lo hi (i)).map (ql ss)).map eD)) :: (wa, .list (((ws).map qe).map eD)) :: (L, .ns [(Str.ofString "script", some (D.lst (xs.map D.int))), (Str.ofString "draws", some (D.lst (dr.map fun (x : Nat) => D.int x))), (Str.ofString "seen", some (D.lst (fv.map fun x => seenD x))), (Str.ofString "rows", some (D.lst ((List.range 9).map fun i => D.str (sl (spell ((fv.getD i 0 / 288 : Nat) : Int) (wW (fv.getD i 0 % 9)) ++ [10]))))), (Str.ofString "tokens", some (D.lst (fv.map fun x => D.str (sl (wW (x % 9)))))), (Str.ofString "wishes", some (D.obj wa)), (Str.ofString "left", some (D.obj la)), (Str.ofString "pairs", some (D.obj qa)), (Str.ofString "choices", some (D.lst ((chW lo hi (i)).map fun p => chE p))), (Str.ofString "hue", hv), (Str.ofString "low", lv), (Str.ofString "high", gv), (Str.ofString "near", nv), (Str.ofString "spot", sv), (Str.ofString "due", none), (Str.ofString "ends", none)]) :: (c_served, .cell none) :: (c_mine, .cell (mv)) :: (c_ways, .cell (yv)) :: (c_word, .cell (wv)) :: (c_j, .cell none) :: (c_stock, .cell (some (D.lst (ss.map fun (x : Nat) => D.int x)))) :: (c_wanted, .cell (some (D.lst (ws.map fun (x : Nat) => D.int x)))) :: (c_paints, .cell (some (D.lst (ss.map fun s => eD (qe s))))) :: (c_lexer, .cell (some (D.obj a.lx))) :: (c_k, .cell (kv)) :: (c_words, .cell (some (D.lst (fv.map fun x => D.str (sl (wW (x % 9))))))) :: (c_nine, .cell (some (D.lst (fv.map fun (x : Nat) => D.int x)))) :: (c_reach, .cell (some (D.int (r : Nat)))) :: (113, .raw (tabObj tps)) :: LexL a (RT rs 9) (lnT 11 (RT rs 9)) ((puR lo hi (i)).map fun k => D.str (sl (wW (ws.getD k 0))))) ?floop ?tloop ⟨kv, none, none, none, none, none, none, none, none, rfl⟩
    case floop =>
      rintro σ ⟨kv, hv, wv, yv, lv, gv, nv, sv, mv, rfl⟩
      exact ⟨rfl, kv, hv, wv, yv, lv, gv, nv, sv, mv, rfl⟩
    case tloop =>
      rintro i σ hi4 ⟨kv, hv, wv, yv, lv, gv, nv, sv, mv, rfl⟩
      have hwi := hwg i hi4
      (refine' as_cap O ?k2 ?k3 ?k4 ?_; (case k2 => kt_at_get); (case k3 => kt_at_get); (case k4 => (repeat (first | exact UpdL.head _ | apply UpdL.tail))))
      show XS G 8 env _ _ _
      refine xs_cut (fun σ' => σ' = (qa, .list ((prR lo hi (i)).map fun p => D.tup [D.int (p.1 : Nat), D.int (p.2 : Nat)])) :: (la, .list (((lfR lo hi (i)).map (ql ss)).map eD)) :: (wa, .list (((ws).map qe).map eD)) :: (L, .ns [(Str.ofString "script", some (D.lst (xs.map D.int))), (Str.ofString "draws", some (D.lst (dr.map fun (x : Nat) => D.int x))), (Str.ofString "seen", some (D.lst (fv.map fun x => seenD x))), (Str.ofString "rows", some (D.lst ((List.range 9).map fun i => D.str (sl (spell ((fv.getD i 0 / 288 : Nat) : Int) (wW (fv.getD i 0 % 9)) ++ [10]))))), (Str.ofString "tokens", some (D.lst (fv.map fun x => D.str (sl (wW (x % 9)))))), (Str.ofString "wishes", some (D.obj wa)), (Str.ofString "left", some (D.obj la)), (Str.ofString "pairs", some (D.obj qa)), (Str.ofString "choices", some (D.lst ((chW lo hi (i)).map fun p => chE p))), (Str.ofString "hue", some (D.float (fracF (ws.getD i 0) 16))), (Str.ofString "low", lv), (Str.ofString "high", gv), (Str.ofString "near", nv), (Str.ofString "spot", sv), (Str.ofString "due", none), (Str.ofString "ends", none)]) :: (c_served, .cell none) :: (c_mine, .cell (mv)) :: (c_ways, .cell (yv)) :: (c_word, .cell (some (D.str (sl (wW (ws.getD i 0)))))) :: (c_j, .cell none) :: (c_stock, .cell (some (D.lst (ss.map fun (x : Nat) => D.int x)))) :: (c_wanted, .cell (some (D.lst (ws.map fun (x : Nat) => D.int x)))) :: (c_paints, .cell (some (D.lst (ss.map fun s => eD (qe s))))) :: (c_lexer, .cell (some (D.obj a.lx))) :: (c_k, .cell (some (D.int (i : Nat)))) :: (c_words, .cell (some (D.lst (fv.map fun x => D.str (sl (wW (x % 9))))))) :: (c_nine, .cell (some (D.lst (fv.map fun (x : Nat) => D.int x)))) :: (c_reach, .cell (some (D.int (r : Nat)))) :: (113, .raw (tabObj tps)) :: LexL a (RT rs 9) (lnT 11 (RT rs 9)) ((puR lo hi (i)).map fun k => D.str (sl (wW (ws.getD k 0))))) ?l1 ?_
      case l1 =>
        kt_at_in
        refine gi_lst i (.obj (by kt_at_get)) rfl (by kt_len) (hwq i hi4) ?_
        kt_at_in
        exact ⟨rfl, rfl⟩
      rintro _ rfl
      refine xs_cut (fun σ' => σ' = (qa, .list ((prR lo hi (i)).map fun p => D.tup [D.int (p.1 : Nat), D.int (p.2 : Nat)])) :: (la, .list (((lfR lo hi (i)).map (ql ss)).map eD)) :: (wa, .list (((ws).map qe).map eD)) :: (L, .ns [(Str.ofString "script", some (D.lst (xs.map D.int))), (Str.ofString "draws", some (D.lst (dr.map fun (x : Nat) => D.int x))), (Str.ofString "seen", some (D.lst (fv.map fun x => seenD x))), (Str.ofString "rows", some (D.lst ((List.range 9).map fun i => D.str (sl (spell ((fv.getD i 0 / 288 : Nat) : Int) (wW (fv.getD i 0 % 9)) ++ [10]))))), (Str.ofString "tokens", some (D.lst (fv.map fun x => D.str (sl (wW (x % 9)))))), (Str.ofString "wishes", some (D.obj wa)), (Str.ofString "left", some (D.obj la)), (Str.ofString "pairs", some (D.obj qa)), (Str.ofString "choices", some (D.lst ((chW lo hi (i)).map fun p => chE p))), (Str.ofString "hue", some (D.float (fracF (ws.getD i 0) 16))), (Str.ofString "low", lv), (Str.ofString "high", gv), (Str.ofString "near", nv), (Str.ofString "spot", sv), (Str.ofString "due", none), (Str.ofString "ends", none)]) :: (c_served, .cell none) :: (c_mine, .cell (mv)) :: (c_ways, .cell (some (D.lst (ss.map fun s => D.int (lev (wW (ws.getD i 0)) (wW s) (r : Nat)))))) :: (c_word, .cell (some (D.str (sl (wW (ws.getD i 0)))))) :: (c_j, .cell none) :: (c_stock, .cell (some (D.lst (ss.map fun (x : Nat) => D.int x)))) :: (c_wanted, .cell (some (D.lst (ws.map fun (x : Nat) => D.int x)))) :: (c_paints, .cell (some (D.lst (ss.map fun s => eD (qe s))))) :: (c_lexer, .cell (some (D.obj a.lx))) :: (c_k, .cell (some (D.int (i : Nat)))) :: (c_words, .cell (some (D.lst (fv.map fun x => D.str (sl (wW (x % 9))))))) :: (c_nine, .cell (some (D.lst (fv.map fun (x : Nat) => D.int x)))) :: (c_reach, .cell (some (D.int (r : Nat)))) :: (113, .raw (tabObj tps)) :: LexL a (RT rs 9) (lnT 11 (RT rs 9)) ((puR lo hi (i)).map fun k => D.str (sl (wW (ws.getD k 0))))) ?l2 ?_
      case l2 =>
        (refine' x_assign_cell O ?k1 ?_ ?k2 ?k3; (case k1 => kt_at_get); (case k2 => with_unfolding_all rfl); (case k3 => with_unfolding_all rfl))
        refine ev_cp (cl := [(Str.ofString "word", c_word), (Str.ofString "reach", c_reach)]) O (by kt_at_item) ?_
        kt_at_in
        refine ⟨_, .lst _, by simp; omega, fun cenv C O' => ?_⟩
        dsimp only at O'
        refine compL_map ss (fun s => eD (qe s)) (fun s => D.int (lev (wW (ws.getD i 0)) (wW s) (r : Nat))) (fun σ => ∃ o, σ = (C, .ns [(Str.ofString ".0", none), (Str.ofString "paint", o)]) :: (qa, .list ((prR lo hi (i)).map fun p => D.tup [D.int (p.1 : Nat), D.int (p.2 : Nat)])) :: (la, .list (((lfR lo hi (i)).map (ql ss)).map eD)) :: (wa, .list (((ws).map qe).map eD)) :: (L, .ns [(Str.ofString "script", some (D.lst (xs.map D.int))), (Str.ofString "draws", some (D.lst (dr.map fun (x : Nat) => D.int x))), (Str.ofString "seen", some (D.lst (fv.map fun x => seenD x))), (Str.ofString "rows", some (D.lst ((List.range 9).map fun i => D.str (sl (spell ((fv.getD i 0 / 288 : Nat) : Int) (wW (fv.getD i 0 % 9)) ++ [10]))))), (Str.ofString "tokens", some (D.lst (fv.map fun x => D.str (sl (wW (x % 9)))))), (Str.ofString "wishes", some (D.obj wa)), (Str.ofString "left", some (D.obj la)), (Str.ofString "pairs", some (D.obj qa)), (Str.ofString "choices", some (D.lst ((chW lo hi (i)).map fun p => chE p))), (Str.ofString "hue", some (D.float (fracF (ws.getD i 0) 16))), (Str.ofString "low", lv), (Str.ofString "high", gv), (Str.ofString "near", nv), (Str.ofString "spot", sv), (Str.ofString "due", none), (Str.ofString "ends", none)]) :: (c_served, .cell none) :: (c_mine, .cell (mv)) :: (c_ways, .cell (yv)) :: (c_word, .cell (some (D.str (sl (wW (ws.getD i 0)))))) :: (c_j, .cell none) :: (c_stock, .cell (some (D.lst (ss.map fun (x : Nat) => D.int x)))) :: (c_wanted, .cell (some (D.lst (ws.map fun (x : Nat) => D.int x)))) :: (c_paints, .cell (some (D.lst (ss.map fun s => eD (qe s))))) :: (c_lexer, .cell (some (D.obj a.lx))) :: (c_k, .cell (some (D.int (i : Nat)))) :: (c_words, .cell (some (D.lst (fv.map fun x => D.str (sl (wW (x % 9))))))) :: (c_nine, .cell (some (D.lst (fv.map fun (x : Nat) => D.int x)))) :: (c_reach, .cell (some (D.int (r : Nat)))) :: (113, .raw (tabObj tps)) :: LexL a (RT rs 9) (lnT 11 (RT rs 9)) ((puR lo hi (i)).map fun k => D.str (sl (wW (ws.getD k 0))))) ?tw ?fw ⟨none, rfl⟩
        case tw =>
          rintro s hs σ ⟨o, rfl⟩
          kt_at_in
          refine gi_tup (i := 1) rfl (by kt_len) ?_
          kt_at_in
          refine kpcl_K (kp_111 g) (pure_use (t35 g (hwl _) (hwl _) (by rw [hww]; omega) (by rw [hww]; omega)) (by kt_len) ⟨rfl, _, rfl⟩)
        case fw =>
          rintro σ ⟨o, rfl⟩
          refine ⟨_, _, rfl, ?_⟩
          kt_at_in
          exact ⟨rfl, rfl⟩
      rintro _ rfl
      refine xs_cut (fun σ' => σ' = (qa, .list ((prR lo hi (i)).map fun p => D.tup [D.int (p.1 : Nat), D.int (p.2 : Nat)])) :: (la, .list (((lfR lo hi (i)).map (ql ss)).map eD)) :: (wa, .list (((ws).map qe).map eD)) :: (L, .ns [(Str.ofString "script", some (D.lst (xs.map D.int))), (Str.ofString "draws", some (D.lst (dr.map fun (x : Nat) => D.int x))), (Str.ofString "seen", some (D.lst (fv.map fun x => seenD x))), (Str.ofString "rows", some (D.lst ((List.range 9).map fun i => D.str (sl (spell ((fv.getD i 0 / 288 : Nat) : Int) (wW (fv.getD i 0 % 9)) ++ [10]))))), (Str.ofString "tokens", some (D.lst (fv.map fun x => D.str (sl (wW (x % 9)))))), (Str.ofString "wishes", some (D.obj wa)), (Str.ofString "left", some (D.obj la)), (Str.ofString "pairs", some (D.obj qa)), (Str.ofString "choices", some (D.lst ((chW lo hi (i)).map fun p => chE p))), (Str.ofString "hue", some (D.float (fracF (ws.getD i 0) 16))), (Str.ofString "low", lv), (Str.ofString "high", gv), (Str.ofString "near", nv), (Str.ofString "spot", sv), (Str.ofString "due", none), (Str.ofString "ends", none)]) :: (c_served, .cell none) :: (c_mine, .cell (mv)) :: (c_ways, .cell (some (D.lst (ss.map fun s => D.int (lev (wW (ws.getD i 0)) (wW s) (r : Nat)))))) :: (c_word, .cell (some (D.str (sl (wW (ws.getD i 0)))))) :: (c_j, .cell none) :: (c_stock, .cell (some (D.lst (ss.map fun (x : Nat) => D.int x)))) :: (c_wanted, .cell (some (D.lst (ws.map fun (x : Nat) => D.int x)))) :: (c_paints, .cell (some (D.lst (ss.map fun s => eD (qe s))))) :: (c_lexer, .cell (some (D.obj a.lx))) :: (c_k, .cell (some (D.int (i : Nat)))) :: (c_words, .cell (some (D.lst (fv.map fun x => D.str (sl (wW (x % 9))))))) :: (c_nine, .cell (some (D.lst (fv.map fun (x : Nat) => D.int x)))) :: (c_reach, .cell (some (D.int (r : Nat)))) :: (113, .raw (tabObj tps)) :: LexL a (RT rs 9) (lnT 11 (RT rs 9)) ((puR lo hi (i)).map fun k => D.str (sl (wW (ws.getD k 0))))) ?l3 ?_
      case l3 =>
        kt_at_in
        refine ev_cp (cl := [(Str.ofString "reach", c_reach)]) O (by kt_at_item) ?_
        kt_at_in
        refine ⟨_, .lst _, by simp; omega, fun cenv C O' => ?_⟩
        dsimp only at O'
        refine compL_map ss (fun s => D.int (lev (wW (ws.getD i 0)) (wW s) (r : Nat))) (fun s => D.int ((min (ws.getD i 0 - s + (s - ws.getD i 0)) (r + 1) : Nat) : Int)) (fun σ => ∃ o, σ = (C, .ns [(Str.ofString ".0", none), (Str.ofString "way", o)]) :: (qa, .list ((prR lo hi (i)).map fun p => D.tup [D.int (p.1 : Nat), D.int (p.2 : Nat)])) :: (la, .list (((lfR lo hi (i)).map (ql ss)).map eD)) :: (wa, .list (((ws).map qe).map eD)) :: (L, .ns [(Str.ofString "script", some (D.lst (xs.map D.int))), (Str.ofString "draws", some (D.lst (dr.map fun (x : Nat) => D.int x))), (Str.ofString "seen", some (D.lst (fv.map fun x => seenD x))), (Str.ofString "rows", some (D.lst ((List.range 9).map fun i => D.str (sl (spell ((fv.getD i 0 / 288 : Nat) : Int) (wW (fv.getD i 0 % 9)) ++ [10]))))), (Str.ofString "tokens", some (D.lst (fv.map fun x => D.str (sl (wW (x % 9)))))), (Str.ofString "wishes", some (D.obj wa)), (Str.ofString "left", some (D.obj la)), (Str.ofString "pairs", some (D.obj qa)), (Str.ofString "choices", some (D.lst ((chW lo hi (i)).map fun p => chE p))), (Str.ofString "hue", some (D.float (fracF (ws.getD i 0) 16))), (Str.ofString "low", lv), (Str.ofString "high", gv), (Str.ofString "near", nv), (Str.ofString "spot", sv), (Str.ofString "due", none), (Str.ofString "ends", none)]) :: (c_served, .cell none) :: (c_mine, .cell (mv)) :: (c_ways, .cell (some (D.lst (ss.map fun s => D.int (lev (wW (ws.getD i 0)) (wW s) (r : Nat)))))) :: (c_word, .cell (some (D.str (sl (wW (ws.getD i 0)))))) :: (c_j, .cell none) :: (c_stock, .cell (some (D.lst (ss.map fun (x : Nat) => D.int x)))) :: (c_wanted, .cell (some (D.lst (ws.map fun (x : Nat) => D.int x)))) :: (c_paints, .cell (some (D.lst (ss.map fun s => eD (qe s))))) :: (c_lexer, .cell (some (D.obj a.lx))) :: (c_k, .cell (some (D.int (i : Nat)))) :: (c_words, .cell (some (D.lst (fv.map fun x => D.str (sl (wW (x % 9))))))) :: (c_nine, .cell (some (D.lst (fv.map fun (x : Nat) => D.int x)))) :: (c_reach, .cell (some (D.int (r : Nat)))) :: (113, .raw (tabObj tps)) :: LexL a (RT rs 9) (lnT 11 (RT rs 9)) ((puR lo hi (i)).map fun k => D.str (sl (wW (ws.getD k 0))))) ?tw ?fw ⟨none, rfl⟩
        case tw =>
          rintro s hs σ ⟨o, rfl⟩
          kt_at_in
          refine cl_min2 (L := C) (by kt_at_get) ?_
          exact ⟨congrArg D.int (way_if hwi (hs9 s hs) hr), _, rfl⟩
        case fw =>
        rintro σ ⟨o, rfl⟩
        refine ⟨_, _, rfl, ?_⟩
        clear O'
        refine ev_cp (cl := [(Str.ofString "wanted", c_wanted), (Str.ofString "reach", c_reach), (Str.ofString "k", c_k)]) O (by kt_at_item) ?_
        kt_at_in
        refine ⟨_, .lst _, by simp; omega, fun cenv C O' => ?_⟩
        dsimp only at O'
        refine compL_map ss (fun (s : Nat) => D.int s) (fun s => D.int ((min (ws.getD i 0 - s + (s - ws.getD i 0)) (r + 1) : Nat) : Int)) (fun σ => ∃ o, σ = (C, .ns [(Str.ofString ".0", none), (Str.ofString "x", o)]) :: (qa, .list ((prR lo hi (i)).map fun p => D.tup [D.int (p.1 : Nat), D.int (p.2 : Nat)])) :: (la, .list (((lfR lo hi (i)).map (ql ss)).map eD)) :: (wa, .list (((ws).map qe).map eD)) :: (L, .ns [(Str.ofString "script", some (D.lst (xs.map D.int))), (Str.ofString "draws", some (D.lst (dr.map fun (x : Nat) => D.int x))), (Str.ofString "seen", some (D.lst (fv.map fun x => seenD x))), (Str.ofString "rows", some (D.lst ((List.range 9).map fun i => D.str (sl (spell ((fv.getD i 0 / 288 : Nat) : Int) (wW (fv.getD i 0 % 9)) ++ [10]))))), (Str.ofString "tokens", some (D.lst (fv.map fun x => D.str (sl (wW (x % 9)))))), (Str.ofString "wishes", some (D.obj wa)), (Str.ofString "left", some (D.obj la)), (Str.ofString "pairs", some (D.obj qa)), (Str.ofString "choices", some (D.lst ((chW lo hi (i)).map fun p => chE p))), (Str.ofString "hue", some (D.float (fracF (ws.getD i 0) 16))), (Str.ofString "low", lv), (Str.ofString "high", gv), (Str.ofString "near", nv), (Str.ofString "spot", sv), (Str.ofString "due", none), (Str.ofString "ends", none)]) :: (c_served, .cell none) :: (c_mine, .cell (mv)) :: (c_ways, .cell (some (D.lst (ss.map fun s => D.int (lev (wW (ws.getD i 0)) (wW s) (r : Nat)))))) :: (c_word, .cell (some (D.str (sl (wW (ws.getD i 0)))))) :: (c_j, .cell none) :: (c_stock, .cell (some (D.lst (ss.map fun (x : Nat) => D.int x)))) :: (c_wanted, .cell (some (D.lst (ws.map fun (x : Nat) => D.int x)))) :: (c_paints, .cell (some (D.lst (ss.map fun s => eD (qe s))))) :: (c_lexer, .cell (some (D.obj a.lx))) :: (c_k, .cell (some (D.int (i : Nat)))) :: (c_words, .cell (some (D.lst (fv.map fun x => D.str (sl (wW (x % 9))))))) :: (c_nine, .cell (some (D.lst (fv.map fun (x : Nat) => D.int x)))) :: (c_reach, .cell (some (D.int (r : Nat)))) :: (113, .raw (tabObj tps)) :: LexL a (RT rs 9) (lnT 11 (RT rs 9)) ((puR lo hi (i)).map fun k => D.str (sl (wW (ws.getD k 0))))) ?tw ?fw ⟨none, rfl⟩
        case tw =>
          rintro s hs σ ⟨o, rfl⟩
          kt_at_in
          refine gi_lst i (.lst _) rfl (by kt_len) (hwi4 i hi4) ?_
          kt_at_in
          refine cl_abs ?_
          kt_at_in
          refine cl_min2 (L := C) (by kt_at_get) ?_
          exact ⟨congrArg D.int (abs_if s _ r), _, rfl⟩
        case fw =>
        rintro σ ⟨o, rfl⟩
        refine ⟨_, _, rfl, ?_⟩
        refine co_ne_lists (.lst _) (.lst _) (fun d hd => by obtain ⟨x, _, rfl⟩ := List.mem_map.mp hd; exact .int _ _) ?_
        kt_at_in
        refine ⟨(by kt_eqs), fun _ => ?_⟩
        kt_at_in
        exact ⟨rfl, rfl⟩
      rintro _ rfl
      refine xs_cut (fun σ' => σ' = (qa, .list ((prR lo hi (i)).map fun p => D.tup [D.int (p.1 : Nat), D.int (p.2 : Nat)])) :: (la, .list (((lfR lo hi (i)).map (ql ss)).map eD)) :: (wa, .list (((ws).map qe).map eD)) :: (L, .ns [(Str.ofString "script", some (D.lst (xs.map D.int))), (Str.ofString "draws", some (D.lst (dr.map fun (x : Nat) => D.int x))), (Str.ofString "seen", some (D.lst (fv.map fun x => seenD x))), (Str.ofString "rows", some (D.lst ((List.range 9).map fun i => D.str (sl (spell ((fv.getD i 0 / 288 : Nat) : Int) (wW (fv.getD i 0 % 9)) ++ [10]))))), (Str.ofString "tokens", some (D.lst (fv.map fun x => D.str (sl (wW (x % 9)))))), (Str.ofString "wishes", some (D.obj wa)), (Str.ofString "left", some (D.obj la)), (Str.ofString "pairs", some (D.obj qa)), (Str.ofString "choices", some (D.lst ((chW lo hi (i)).map fun p => chE p))), (Str.ofString "hue", some (D.float (fracF (ws.getD i 0) 16))), (Str.ofString "low", some (D.int (lo i : Nat))), (Str.ofString "high", gv), (Str.ofString "near", nv), (Str.ofString "spot", sv), (Str.ofString "due", none), (Str.ofString "ends", none)]) :: (c_served, .cell none) :: (c_mine, .cell (mv)) :: (c_ways, .cell (some (D.lst (ss.map fun s => D.int (lev (wW (ws.getD i 0)) (wW s) (r : Nat)))))) :: (c_word, .cell (some (D.str (sl (wW (ws.getD i 0)))))) :: (c_j, .cell none) :: (c_stock, .cell (some (D.lst (ss.map fun (x : Nat) => D.int x)))) :: (c_wanted, .cell (some (D.lst (ws.map fun (x : Nat) => D.int x)))) :: (c_paints, .cell (some (D.lst (ss.map fun s => eD (qe s))))) :: (c_lexer, .cell (some (D.obj a.lx))) :: (c_k, .cell (some (D.int (i : Nat)))) :: (c_words, .cell (some (D.lst (fv.map fun x => D.str (sl (wW (x % 9))))))) :: (c_nine, .cell (some (D.lst (fv.map fun (x : Nat) => D.int x)))) :: (c_reach, .cell (some (D.int (r : Nat)))) :: (113, .raw (tabObj tps)) :: LexL a (RT rs 9) (lnT 11 (RT rs 9)) ((puR lo hi (i)).map fun k => D.str (sl (wW (ws.getD k 0))))) ?l4 ?_
      case l4 =>
        kt_at_in
        refine ev_call_kw ?_
        kt_at_in
        refine ⟨_, rfl, ?_⟩
        kt_at_in
        refine bo_divN r 16 rfl rfl (by kt_len) (by kt_len) ?_
        kt_at_in
        refine ⟨kp_K (kp_41 g), ?_⟩
        refine CLkw.mono (CLkw.le (bisk_l g (ws := ss.map qe) (by simp; omega) (fun _ => by rw [hpe]; exact .lst _) (.inr rfl)) (by kt_len)) fun d σ' hd => ?_
        obtain ⟨rfl, rfl⟩ := hd
        rw [bis_lo hs5 hs9 hwi hr, show loI ss (ws.getD i 0) r = lo i by rw [hlo]]
        kt_at_in
        exact ⟨rfl, rfl⟩
      rintro _ rfl
      refine xs_cut (fun σ' => σ' = (qa, .list ((prR lo hi (i)).map fun p => D.tup [D.int (p.1 : Nat), D.int (p.2 : Nat)])) :: (la, .list (((lfR lo hi (i)).map (ql ss)).map eD)) :: (wa, .list (((ws).map qe).map eD)) :: (L, .ns [(Str.ofString "script", some (D.lst (xs.map D.int))), (Str.ofString "draws", some (D.lst (dr.map fun (x : Nat) => D.int x))), (Str.ofString "seen", some (D.lst (fv.map fun x => seenD x))), (Str.ofString "rows", some (D.lst ((List.range 9).map fun i => D.str (sl (spell ((fv.getD i 0 / 288 : Nat) : Int) (wW (fv.getD i 0 % 9)) ++ [10]))))), (Str.ofString "tokens", some (D.lst (fv.map fun x => D.str (sl (wW (x % 9)))))), (Str.ofString "wishes", some (D.obj wa)), (Str.ofString "left", some (D.obj la)), (Str.ofString "pairs", some (D.obj qa)), (Str.ofString "choices", some (D.lst ((chW lo hi (i)).map fun p => chE p))), (Str.ofString "hue", some (D.float (fracF (ws.getD i 0) 16))), (Str.ofString "low", some (D.int (lo i : Nat))), (Str.ofString "high", some (D.int (hi i : Nat))), (Str.ofString "near", nv), (Str.ofString "spot", sv), (Str.ofString "due", none), (Str.ofString "ends", none)]) :: (c_served, .cell none) :: (c_mine, .cell (mv)) :: (c_ways, .cell (some (D.lst (ss.map fun s => D.int (lev (wW (ws.getD i 0)) (wW s) (r : Nat)))))) :: (c_word, .cell (some (D.str (sl (wW (ws.getD i 0)))))) :: (c_j, .cell none) :: (c_stock, .cell (some (D.lst (ss.map fun (x : Nat) => D.int x)))) :: (c_wanted, .cell (some (D.lst (ws.map fun (x : Nat) => D.int x)))) :: (c_paints, .cell (some (D.lst (ss.map fun s => eD (qe s))))) :: (c_lexer, .cell (some (D.obj a.lx))) :: (c_k, .cell (some (D.int (i : Nat)))) :: (c_words, .cell (some (D.lst (fv.map fun x => D.str (sl (wW (x % 9))))))) :: (c_nine, .cell (some (D.lst (fv.map fun (x : Nat) => D.int x)))) :: (c_reach, .cell (some (D.int (r : Nat)))) :: (113, .raw (tabObj tps)) :: LexL a (RT rs 9) (lnT 11 (RT rs 9)) ((puR lo hi (i)).map fun k => D.str (sl (wW (ws.getD k 0))))) ?l5 ?_
      case l5 =>
        kt_at_in
        refine ev_call_kw ?_
        kt_at_in
        refine ⟨_, rfl, ?_⟩
        kt_at_in
        refine bo_divN r 16 rfl rfl (by kt_len) (by kt_len) ?_
        kt_at_in
        refine ⟨kp_K (k_53 g), ?_⟩
        refine CLkw.mono (CLkw.le (bisk_r g (ws := ss.map qe) (by simp; omega) (fun _ => by rw [hpe]; exact .lst _) (.inr rfl)) (by kt_len)) fun d σ' hd => ?_
        obtain ⟨rfl, rfl⟩ := hd
        rw [bis_hi hs5 hs9 hwi hr, show hiI ss (ws.getD i 0) r = hi i by rw [hhi]]
        kt_at_in
        exact ⟨rfl, rfl⟩
      rintro _ rfl
      refine xs_cut (fun σ' => σ' = (qa, .list ((prR lo hi (i)).map fun p => D.tup [D.int (p.1 : Nat), D.int (p.2 : Nat)])) :: (la, .list (((lfR lo hi (i)).map (ql ss)).map eD)) :: (wa, .list (((ws).map qe).map eD)) :: (L, .ns [(Str.ofString "script", some (D.lst (xs.map D.int))), (Str.ofString "draws", some (D.lst (dr.map fun (x : Nat) => D.int x))), (Str.ofString "seen", some (D.lst (fv.map fun x => seenD x))), (Str.ofString "rows", some (D.lst ((List.range 9).map fun i => D.str (sl (spell ((fv.getD i 0 / 288 : Nat) : Int) (wW (fv.getD i 0 % 9)) ++ [10]))))), (Str.ofString "tokens", some (D.lst (fv.map fun x => D.str (sl (wW (x % 9)))))), (Str.ofString "wishes", some (D.obj wa)), (Str.ofString "left", some (D.obj la)), (Str.ofString "pairs", some (D.obj qa)), (Str.ofString "choices", some (D.lst ((chW lo hi (i)).map fun p => chE p))), (Str.ofString "hue", some (D.float (fracF (ws.getD i 0) 16))), (Str.ofString "low", some (D.int (lo i : Nat))), (Str.ofString "high", some (D.int (hi i : Nat))), (Str.ofString "near", some (D.lst ((nearN (lo i) (hi i)).map fun (j : Nat) => D.int j))), (Str.ofString "spot", sv), (Str.ofString "due", none), (Str.ofString "ends", none)]) :: (c_served, .cell none) :: (c_mine, .cell (mv)) :: (c_ways, .cell (some (D.lst (ss.map fun s => D.int (lev (wW (ws.getD i 0)) (wW s) (r : Nat)))))) :: (c_word, .cell (some (D.str (sl (wW (ws.getD i 0)))))) :: (c_j, .cell none) :: (c_stock, .cell (some (D.lst (ss.map fun (x : Nat) => D.int x)))) :: (c_wanted, .cell (some (D.lst (ws.map fun (x : Nat) => D.int x)))) :: (c_paints, .cell (some (D.lst (ss.map fun s => eD (qe s))))) :: (c_lexer, .cell (some (D.obj a.lx))) :: (c_k, .cell (some (D.int (i : Nat)))) :: (c_words, .cell (some (D.lst (fv.map fun x => D.str (sl (wW (x % 9))))))) :: (c_nine, .cell (some (D.lst (fv.map fun (x : Nat) => D.int x)))) :: (c_reach, .cell (some (D.int (r : Nat)))) :: (113, .raw (tabObj tps)) :: LexL a (RT rs 9) (lnT 11 (RT rs 9)) ((puR lo hi (i)).map fun k => D.str (sl (wW (ws.getD k 0))))) ?l6 ?_
      case l6 =>
        refine x_cp (cl := [(Str.ofString "ways", c_ways), (Str.ofString "reach", c_reach)]) O (by kt_at_item) (by kt_at_get) ?_ rfl rfl
        kt_at_in
        refine cl_range1 ?_
        refine ⟨_, iter_upto (k := 5) (by kt_len), by simp, fun cenv C O' => ?_⟩
        dsimp only at O'
        refine compL_if (List.range 5) _ (fun (j : Nat) => D.int j) (fun j => decide (lo i ≤ j) && decide (j < hi i)) (fun σ => ∃ o, σ = (C, .ns [(Str.ofString ".0", none), (Str.ofString "j", o)]) :: (qa, .list ((prR lo hi (i)).map fun p => D.tup [D.int (p.1 : Nat), D.int (p.2 : Nat)])) :: (la, .list (((lfR lo hi (i)).map (ql ss)).map eD)) :: (wa, .list (((ws).map qe).map eD)) :: (L, .ns [(Str.ofString "script", some (D.lst (xs.map D.int))), (Str.ofString "draws", some (D.lst (dr.map fun (x : Nat) => D.int x))), (Str.ofString "seen", some (D.lst (fv.map fun x => seenD x))), (Str.ofString "rows", some (D.lst ((List.range 9).map fun i => D.str (sl (spell ((fv.getD i 0 / 288 : Nat) : Int) (wW (fv.getD i 0 % 9)) ++ [10]))))), (Str.ofString "tokens", some (D.lst (fv.map fun x => D.str (sl (wW (x % 9)))))), (Str.ofString "wishes", some (D.obj wa)), (Str.ofString "left", some (D.obj la)), (Str.ofString "pairs", some (D.obj qa)), (Str.ofString "choices", some (D.lst ((chW lo hi (i)).map fun p => chE p))), (Str.ofString "hue", some (D.float (fracF (ws.getD i 0) 16))), (Str.ofString "low", some (D.int (lo i : Nat))), (Str.ofString "high", some (D.int (hi i : Nat))), (Str.ofString "near", nv), (Str.ofString "spot", sv), (Str.ofString "due", none), (Str.ofString "ends", none)]) :: (c_served, .cell none) :: (c_mine, .cell (mv)) :: (c_ways, .cell (some (D.lst (ss.map fun s => D.int (lev (wW (ws.getD i 0)) (wW s) (r : Nat)))))) :: (c_word, .cell (some (D.str (sl (wW (ws.getD i 0)))))) :: (c_j, .cell none) :: (c_stock, .cell (some (D.lst (ss.map fun (x : Nat) => D.int x)))) :: (c_wanted, .cell (some (D.lst (ws.map fun (x : Nat) => D.int x)))) :: (c_paints, .cell (some (D.lst (ss.map fun s => eD (qe s))))) :: (c_lexer, .cell (some (D.obj a.lx))) :: (c_k, .cell (some (D.int (i : Nat)))) :: (c_words, .cell (some (D.lst (fv.map fun x => D.str (sl (wW (x % 9))))))) :: (c_nine, .cell (some (D.lst (fv.map fun (x : Nat) => D.int x)))) :: (c_reach, .cell (some (D.int (r : Nat)))) :: (113, .raw (tabObj tps)) :: LexL a (RT rs 9) (lnT 11 (RT rs 9)) ((puR lo hi (i)).map fun k => D.str (sl (wW (ws.getD k 0))))) ?tw ?fw ⟨none, rfl⟩
        case tw =>
          rintro j hj σ ⟨o, rfl⟩
          have hj := List.mem_range.mp hj
          have hjs : j < ss.length := by kt_len
          kt_at_in
          refine gi_lst j (.lst _) rfl (by kt_len) (x := .int (lev (wW (ws.getD i 0)) (wW (ss.getD j 0)) (r : Nat))) (by simp [hjs, List.getD_eq_getElem?_getD]) ?_
          kt_at_in
          refine ⟨?_, fun _ => ?_, fun _ => ⟨_, rfl⟩⟩
          · rw [way_near hwi (getD9 hs9 hjs) hr, loI_hiI hs5 hso' _ _ _ hj, hlo, hhi]
          kt_at_in
          exact ⟨rfl, _, rfl⟩
        case fw =>
          rintro σ ⟨o, rfl⟩
          refine ⟨_, _, rfl, ?_⟩
          kt_at_in
          exact ⟨rfl, rfl⟩
      rintro _ rfl
      refine xs_cut (fun σ' => σ' = (qa, .list ((prR lo hi (i)).map fun p => D.tup [D.int (p.1 : Nat), D.int (p.2 : Nat)])) :: (la, .list (((lfR lo hi (i)).map (ql ss)).map eD)) :: (wa, .list (((ws).map qe).map eD)) :: (L, .ns [(Str.ofString "script", some (D.lst (xs.map D.int))), (Str.ofString "draws", some (D.lst (dr.map fun (x : Nat) => D.int x))), (Str.ofString "seen", some (D.lst (fv.map fun x => seenD x))), (Str.ofString "rows", some (D.lst ((List.range 9).map fun i => D.str (sl (spell ((fv.getD i 0 / 288 : Nat) : Int) (wW (fv.getD i 0 % 9)) ++ [10]))))), (Str.ofString "tokens", some (D.lst (fv.map fun x => D.str (sl (wW (x % 9)))))), (Str.ofString "wishes", some (D.obj wa)), (Str.ofString "left", some (D.obj la)), (Str.ofString "pairs", some (D.obj qa)), (Str.ofString "choices", some (D.lst ((chW lo hi (i)).map fun p => chE p))), (Str.ofString "hue", some (D.float (fracF (ws.getD i 0) 16))), (Str.ofString "low", some (D.int (lo i : Nat))), (Str.ofString "high", some (D.int (hi i : Nat))), (Str.ofString "near", some (D.lst ((nearN (lo i) (hi i)).map fun (j : Nat) => D.int j))), (Str.ofString "spot", sv), (Str.ofString "due", none), (Str.ofString "ends", none)]) :: (c_served, .cell none) :: (c_mine, .cell (mv)) :: (c_ways, .cell (some (D.lst (ss.map fun s => D.int (lev (wW (ws.getD i 0)) (wW s) (r : Nat)))))) :: (c_word, .cell (some (D.str (sl (wW (ws.getD i 0)))))) :: (c_j, .cell none) :: (c_stock, .cell (some (D.lst (ss.map fun (x : Nat) => D.int x)))) :: (c_wanted, .cell (some (D.lst (ws.map fun (x : Nat) => D.int x)))) :: (c_paints, .cell (some (D.lst (ss.map fun s => eD (qe s))))) :: (c_lexer, .cell (some (D.obj a.lx))) :: (c_k, .cell (some (D.int (i : Nat)))) :: (c_words, .cell (some (D.lst (fv.map fun x => D.str (sl (wW (x % 9))))))) :: (c_nine, .cell (some (D.lst (fv.map fun (x : Nat) => D.int x)))) :: (c_reach, .cell (some (D.int (r : Nat)))) :: (113, .raw (tabObj tps)) :: LexL a (RT rs 9) (lnT 11 (RT rs 9)) ((puR lo hi (i)).map fun k => D.str (sl (wW (ws.getD k 0))))) ?l7 ?_
      case l7 =>
        kt_at_in
        refine cl_range2 ?_
        kt_at_in
        refine cl_list_range (k := hi i - lo i) (small_of (by kt_len) (by have := hlo5 i; omega) (by kt_len) (by have := hhi5 i; omega) (by kt_len) (by kt_len)) (rng_size (hlohi i)) (by have := hhi5 i; omega) fun nl => ?_
        rw [near_rng (hlohi i) (hhi5 i)]
        refine co_ne_lists (.lst _) (.obj (.head _)) (fun d hd => by obtain ⟨x, _, rfl⟩ := List.mem_map.mp hd; exact .int _ _) ?_
        kt_at_in
        refine ⟨(by kt_eqs), fun _ => ?_⟩
        refine W.sub (.cons _ (List.Sublist.refl _)) ?_
        kt_at_in
        exact ⟨rfl, rfl⟩
      rintro _ rfl
      refine xs_cut (fun σ' => σ' = (qa, .list ((prR lo hi (i)).map fun p => D.tup [D.int (p.1 : Nat), D.int (p.2 : Nat)])) :: (la, .list (((lfR lo hi (i)).map (ql ss)).map eD)) :: (wa, .list (((ws).map qe).map eD)) :: (L, .ns [(Str.ofString "script", some (D.lst (xs.map D.int))), (Str.ofString "draws", some (D.lst (dr.map fun (x : Nat) => D.int x))), (Str.ofString "seen", some (D.lst (fv.map fun x => seenD x))), (Str.ofString "rows", some (D.lst ((List.range 9).map fun i => D.str (sl (spell ((fv.getD i 0 / 288 : Nat) : Int) (wW (fv.getD i 0 % 9)) ++ [10]))))), (Str.ofString "tokens", some (D.lst (fv.map fun x => D.str (sl (wW (x % 9)))))), (Str.ofString "wishes", some (D.obj wa)), (Str.ofString "left", some (D.obj la)), (Str.ofString "pairs", some (D.obj qa)), (Str.ofString "choices", some (D.lst ((chW lo hi (i)).map fun p => chE p))), (Str.ofString "hue", some (D.float (fracF (ws.getD i 0) 16))), (Str.ofString "low", some (D.int (lo i : Nat))), (Str.ofString "high", some (D.int (hi i : Nat))), (Str.ofString "near", some (D.lst ((nearN (lo i) (hi i)).map fun (j : Nat) => D.int j))), (Str.ofString "spot", some (D.int (spotN (lo i) (lfR lo hi i) : Nat))), (Str.ofString "due", none), (Str.ofString "ends", none)]) :: (c_served, .cell none) :: (c_mine, .cell (mv)) :: (c_ways, .cell (some (D.lst (ss.map fun s => D.int (lev (wW (ws.getD i 0)) (wW s) (r : Nat)))))) :: (c_word, .cell (some (D.str (sl (wW (ws.getD i 0)))))) :: (c_j, .cell none) :: (c_stock, .cell (some (D.lst (ss.map fun (x : Nat) => D.int x)))) :: (c_wanted, .cell (some (D.lst (ws.map fun (x : Nat) => D.int x)))) :: (c_paints, .cell (some (D.lst (ss.map fun s => eD (qe s))))) :: (c_lexer, .cell (some (D.obj a.lx))) :: (c_k, .cell (some (D.int (i : Nat)))) :: (c_words, .cell (some (D.lst (fv.map fun x => D.str (sl (wW (x % 9))))))) :: (c_nine, .cell (some (D.lst (fv.map fun (x : Nat) => D.int x)))) :: (c_reach, .cell (some (D.int (r : Nat)))) :: (113, .raw (tabObj tps)) :: LexL a (RT rs 9) (lnT 11 (RT rs 9)) ((puR lo hi (i)).map fun k => D.str (sl (wW (ws.getD k 0))))) ?l8 ?_
      case l8 =>
        kt_at_in
        refine ev_call_kw ?_
        kt_at_in
        refine ⟨_, rfl, ?_⟩
        kt_at_in
        refine bo_divN r 16 rfl rfl (by kt_len) (by kt_len) ?_
        kt_at_in
        refine ⟨kp_K (kp_41 g), ?_⟩
        refine CLkw.mono (CLkw.le (bisk_l g (ws := (lfR lo hi i).map (ql ss)) (by have := lfR_len lo hi i; simp; omega) (fun _ => .obj (.tail _ (by kt_at_get))) (.inr rfl)) (by kt_len)) fun d σ' hd => ?_
        obtain ⟨rfl, rfl⟩ := hd
        rw [bis_left hs5 hso' hs9 (lfR_lt lo hi i) (lfR_sorted lo hi i) hwi hr, show loI ss (ws.getD i 0) r = lo i by rw [hlo]]
        kt_at_in
        exact ⟨rfl, rfl⟩
      rintro _ rfl
      refine xs_cut (fun σ' => σ' = (qa, .list ((prR lo hi (i + 1)).map fun p => D.tup [D.int (p.1 : Nat), D.int (p.2 : Nat)])) :: (la, .list (((lfR lo hi (i + 1)).map (ql ss)).map eD)) :: (wa, .list (((ws).map qe).map eD)) :: (L, .ns [(Str.ofString "script", some (D.lst (xs.map D.int))), (Str.ofString "draws", some (D.lst (dr.map fun (x : Nat) => D.int x))), (Str.ofString "seen", some (D.lst (fv.map fun x => seenD x))), (Str.ofString "rows", some (D.lst ((List.range 9).map fun i => D.str (sl (spell ((fv.getD i 0 / 288 : Nat) : Int) (wW (fv.getD i 0 % 9)) ++ [10]))))), (Str.ofString "tokens", some (D.lst (fv.map fun x => D.str (sl (wW (x % 9)))))), (Str.ofString "wishes", some (D.obj wa)), (Str.ofString "left", some (D.obj la)), (Str.ofString "pairs", some (D.obj qa)), (Str.ofString "choices", some (D.lst ((chW lo hi (i)).map fun p => chE p))), (Str.ofString "hue", some (D.float (fracF (ws.getD i 0) 16))), (Str.ofString "low", some (D.int (lo i : Nat))), (Str.ofString "high", some (D.int (hi i : Nat))), (Str.ofString "near", some (D.lst ((nearN (lo i) (hi i)).map fun (j : Nat) => D.int j))), (Str.ofString "spot", some (D.int (spotN (lo i) (lfR lo hi i) : Nat))), (Str.ofString "due", none), (Str.ofString "ends", none)]) :: (c_served, .cell none) :: (c_mine, .cell (mv)) :: (c_ways, .cell (some (D.lst (ss.map fun s => D.int (lev (wW (ws.getD i 0)) (wW s) (r : Nat)))))) :: (c_word, .cell (some (D.str (sl (wW (ws.getD i 0)))))) :: (c_j, .cell none) :: (c_stock, .cell (some (D.lst (ss.map fun (x : Nat) => D.int x)))) :: (c_wanted, .cell (some (D.lst (ws.map fun (x : Nat) => D.int x)))) :: (c_paints, .cell (some (D.lst (ss.map fun s => eD (qe s))))) :: (c_lexer, .cell (some (D.obj a.lx))) :: (c_k, .cell (some (D.int (i : Nat)))) :: (c_words, .cell (some (D.lst (fv.map fun x => D.str (sl (wW (x % 9))))))) :: (c_nine, .cell (some (D.lst (fv.map fun (x : Nat) => D.int x)))) :: (c_reach, .cell (some (D.int (r : Nat)))) :: (113, .raw (tabObj tps)) :: LexL a (RT rs 9) (lnT 11 (RT rs 9)) ((puR lo hi (i + 1)).map fun k => D.str (sl (wW (ws.getD k 0))))) ?l9 ?_
      case l9 =>
        have hl5 := lfR_len lo hi i
        kt_at_in
        refine cl_len_list (.obj (by kt_at_get)) (by simp; omega) ?_
        kt_at_in
        refine ⟨fun hc => ?_, fun hc => ?_⟩
        case' refine_2 =>
          have hlt : ¬ spotN (lo i) (lfR lo hi i) < (lfR lo hi i).length := by
            have := of_decide_eq_false hc
            simp only [List.length_map] at this
            omega
          have hh := hit_not (lo := lo i) (hi := hi i) (lf := lfR lo hi i) (fun q => hlt q.1)
          refine ⟨(by kt_eqs), fun _ => ?_⟩
          kt_at_in
          (refine' ev_imeth (f := 90) P hf90 ht90 hk90 ?_ ?k1 ?k2 ?k3 ?k4; (case k1 => with_unfolding_all rfl); (case k2 => with_unfolding_all rfl); (case k3 => with_unfolding_all rfl); (case k4 => with_unfolding_all rfl))
          kt_at_in
          refine ⟨a.lx, a.ld, _, _, rfl, by kt_at_get, by kt_at_get, by kt_at_get, ?_⟩
          kt_at_in
          refine WI.mono (WI.le (pushCall g (by have := puR_len lo hi i; simp; omega) [(qa, .list ((prR lo hi (i)).map fun p => D.tup [D.int (p.1 : Nat), D.int (p.2 : Nat)])), (la, .list (((lfR lo hi (i)).map (ql ss)).map eD)), (wa, .list (((ws).map qe).map eD)), (L, .ns [(Str.ofString "script", some (D.lst (xs.map D.int))), (Str.ofString "draws", some (D.lst (dr.map fun (x : Nat) => D.int x))), (Str.ofString "seen", some (D.lst (fv.map fun x => seenD x))), (Str.ofString "rows", some (D.lst ((List.range 9).map fun i => D.str (sl (spell ((fv.getD i 0 / 288 : Nat) : Int) (wW (fv.getD i 0 % 9)) ++ [10]))))), (Str.ofString "tokens", some (D.lst (fv.map fun x => D.str (sl (wW (x % 9)))))), (Str.ofString "wishes", some (D.obj wa)), (Str.ofString "left", some (D.obj la)), (Str.ofString "pairs", some (D.obj qa)), (Str.ofString "choices", some (D.lst ((chW lo hi (i)).map fun p => chE p))), (Str.ofString "hue", some (D.float (fracF (ws.getD i 0) 16))), (Str.ofString "low", some (D.int (lo i : Nat))), (Str.ofString "high", some (D.int (hi i : Nat))), (Str.ofString "near", some (D.lst ((nearN (lo i) (hi i)).map fun (j : Nat) => D.int j))), (Str.ofString "spot", some (D.int (spotN (lo i) (lfR lo hi i) : Nat))), (Str.ofString "due", none), (Str.ofString "ends", none)]), (c_served, .cell none), (c_mine, .cell (mv)), (c_ways, .cell (some (D.lst (ss.map fun s => D.int (lev (wW (ws.getD i 0)) (wW s) (r : Nat)))))), (c_word, .cell (some (D.str (sl (wW (ws.getD i 0)))))), (c_j, .cell none), (c_stock, .cell (some (D.lst (ss.map fun (x : Nat) => D.int x)))), (c_wanted, .cell (some (D.lst (ws.map fun (x : Nat) => D.int x)))), (c_paints, .cell (some (D.lst (ss.map fun s => eD (qe s))))), (c_lexer, .cell (some (D.obj a.lx))), (c_k, .cell (some (D.int (i : Nat)))), (c_words, .cell (some (D.lst (fv.map fun x => D.str (sl (wW (x % 9))))))), (c_nine, .cell (some (D.lst (fv.map fun (x : Nat) => D.int x)))), (c_reach, .cell (some (D.int (r : Nat)))), (113, .raw (tabObj tps))]).cl (by kt_len)) fun d σ' hd => ?_
          obtain ⟨rfl, rfl⟩ := hd
          kt_at_in
          obtain ⟨e1, e2, e3⟩ := step_miss hh
          rw [e1, e2, e3, List.map_append]
          exact ⟨rfl, rfl⟩
        have hlt : spotN (lo i) (lfR lo hi i) < (lfR lo hi i).length := by
          have := of_decide_eq_true hc
          simp only [List.length_map] at this
          omega
        have hx5 := lfR_get hlt
        kt_at_in
        refine gi_lst (spotN (lo i) (lfR lo hi i)) (.obj (by kt_at_get)) rfl (by kt_len) (lfR_at hlt) ?_
        kt_at_in
        refine gi_tup (i := 2) rfl (by kt_len) ?_
        kt_at_in
        refine co_in_ints (seq_ints _) ?_
        rw [near_any hx5]
        kt_at_in
        refine ⟨fun hd => ?_, fun hd => ?_⟩
        case' refine_2 =>
          have hh := hit_not (lo := lo i) (hi := hi i) (lf := lfR lo hi i) (fun q => by
            rw [Bool.and_eq_false_iff] at hd
            rcases hd with hd | hd
            · exact of_decide_eq_false hd q.2.1
            · exact of_decide_eq_false hd q.2.2)
          refine ⟨(by kt_eqs), fun _ => ?_⟩
          kt_at_in
          (refine' ev_imeth (f := 90) P hf90 ht90 hk90 ?_ ?k1 ?k2 ?k3 ?k4; (case k1 => with_unfolding_all rfl); (case k2 => with_unfolding_all rfl); (case k3 => with_unfolding_all rfl); (case k4 => with_unfolding_all rfl))
          kt_at_in
          refine ⟨a.lx, a.ld, _, _, rfl, by kt_at_get, by kt_at_get, by kt_at_get, ?_⟩
          kt_at_in
          refine WI.mono (WI.le (pushCall g (by have := puR_len lo hi i; simp; omega) [(qa, .list ((prR lo hi (i)).map fun p => D.tup [D.int (p.1 : Nat), D.int (p.2 : Nat)])), (la, .list (((lfR lo hi (i)).map (ql ss)).map eD)), (wa, .list (((ws).map qe).map eD)), (L, .ns [(Str.ofString "script", some (D.lst (xs.map D.int))), (Str.ofString "draws", some (D.lst (dr.map fun (x : Nat) => D.int x))), (Str.ofString "seen", some (D.lst (fv.map fun x => seenD x))), (Str.ofString "rows", some (D.lst ((List.range 9).map fun i => D.str (sl (spell ((fv.getD i 0 / 288 : Nat) : Int) (wW (fv.getD i 0 % 9)) ++ [10]))))), (Str.ofString "tokens", some (D.lst (fv.map fun x => D.str (sl (wW (x % 9)))))), (Str.ofString "wishes", some (D.obj wa)), (Str.ofString "left", some (D.obj la)), (Str.ofString "pairs", some (D.obj qa)), (Str.ofString "choices", some (D.lst ((chW lo hi (i)).map fun p => chE p))), (Str.ofString "hue", some (D.float (fracF (ws.getD i 0) 16))), (Str.ofString "low", some (D.int (lo i : Nat))), (Str.ofString "high", some (D.int (hi i : Nat))), (Str.ofString "near", some (D.lst ((nearN (lo i) (hi i)).map fun (j : Nat) => D.int j))), (Str.ofString "spot", some (D.int (spotN (lo i) (lfR lo hi i) : Nat))), (Str.ofString "due", none), (Str.ofString "ends", none)]), (c_served, .cell none), (c_mine, .cell (mv)), (c_ways, .cell (some (D.lst (ss.map fun s => D.int (lev (wW (ws.getD i 0)) (wW s) (r : Nat)))))), (c_word, .cell (some (D.str (sl (wW (ws.getD i 0)))))), (c_j, .cell none), (c_stock, .cell (some (D.lst (ss.map fun (x : Nat) => D.int x)))), (c_wanted, .cell (some (D.lst (ws.map fun (x : Nat) => D.int x)))), (c_paints, .cell (some (D.lst (ss.map fun s => eD (qe s))))), (c_lexer, .cell (some (D.obj a.lx))), (c_k, .cell (some (D.int (i : Nat)))), (c_words, .cell (some (D.lst (fv.map fun x => D.str (sl (wW (x % 9))))))), (c_nine, .cell (some (D.lst (fv.map fun (x : Nat) => D.int x)))), (c_reach, .cell (some (D.int (r : Nat)))), (113, .raw (tabObj tps))]).cl (by kt_len)) fun d σ' hd => ?_
          obtain ⟨rfl, rfl⟩ := hd
          kt_at_in
          obtain ⟨e1, e2, e3⟩ := step_miss hh
          rw [e1, e2, e3, List.map_append]
          exact ⟨rfl, rfl⟩
        rw [Bool.and_eq_true] at hd
        have hh := hit_of hlt (of_decide_eq_true hd.1) (of_decide_eq_true hd.2)
        kt_at_in
        refine ⟨fun _ => ?_, (by kt_eqs)⟩
        kt_at_in
        refine ⟨qa, _, rfl, by kt_at_get, ?_⟩
        kt_at_in
        refine ⟨la, _, rfl, by kt_at_get, ?_⟩
        kt_at_in
        refine cl_pop_at (i := spotN (lo i) (lfR lo hi i)) (by (repeat (first | exact UpdL.head _ | apply UpdL.tail))) (lfR_at hlt) (by simp; omega) ?_
        kt_at_in
        refine gi_tup (i := 2) rfl (by kt_len) ?_
        kt_at_in
        refine ⟨by simp, ?_⟩
        kt_at_in
        refine cl_append (by (repeat (first | exact UpdL.head _ | apply UpdL.tail))) (by have := prR_len lo hi i; simp; omega) ?_
        kt_at_in
        obtain ⟨e1, e2, e3⟩ := step_hit hh
        rw [e1, e2, e3, List.map_append, erase_map]
        exact ⟨rfl, rfl⟩
      rintro _ rfl
      refine xs_cut (fun σ' => σ' = (qa, .list ((prR lo hi (i + 1)).map fun p => D.tup [D.int (p.1 : Nat), D.int (p.2 : Nat)])) :: (la, .list (((lfR lo hi (i + 1)).map (ql ss)).map eD)) :: (wa, .list (((ws).map qe).map eD)) :: (L, .ns [(Str.ofString "script", some (D.lst (xs.map D.int))), (Str.ofString "draws", some (D.lst (dr.map fun (x : Nat) => D.int x))), (Str.ofString "seen", some (D.lst (fv.map fun x => seenD x))), (Str.ofString "rows", some (D.lst ((List.range 9).map fun i => D.str (sl (spell ((fv.getD i 0 / 288 : Nat) : Int) (wW (fv.getD i 0 % 9)) ++ [10]))))), (Str.ofString "tokens", some (D.lst (fv.map fun x => D.str (sl (wW (x % 9)))))), (Str.ofString "wishes", some (D.obj wa)), (Str.ofString "left", some (D.obj la)), (Str.ofString "pairs", some (D.obj qa)), (Str.ofString "choices", some (D.lst ((chW lo hi (i)).map fun p => chE p))), (Str.ofString "hue", some (D.float (fracF (ws.getD i 0) 16))), (Str.ofString "low", some (D.int (lo i : Nat))), (Str.ofString "high", some (D.int (hi i : Nat))), (Str.ofString "near", some (D.lst ((nearN (lo i) (hi i)).map fun (j : Nat) => D.int j))), (Str.ofString "spot", some (D.int (spotN (lo i) (lfR lo hi i) : Nat))), (Str.ofString "due", none), (Str.ofString "ends", none)]) :: (c_served, .cell none) :: (c_mine, .cell (some (D.lst ((nearN (lo i) (hi i)).map fun (j : Nat) => D.int j)))) :: (c_ways, .cell (some (D.lst (ss.map fun s => D.int (lev (wW (ws.getD i 0)) (wW s) (r : Nat)))))) :: (c_word, .cell (some (D.str (sl (wW (ws.getD i 0)))))) :: (c_j, .cell none) :: (c_stock, .cell (some (D.lst (ss.map fun (x : Nat) => D.int x)))) :: (c_wanted, .cell (some (D.lst (ws.map fun (x : Nat) => D.int x)))) :: (c_paints, .cell (some (D.lst (ss.map fun s => eD (qe s))))) :: (c_lexer, .cell (some (D.obj a.lx))) :: (c_k, .cell (some (D.int (i : Nat)))) :: (c_words, .cell (some (D.lst (fv.map fun x => D.str (sl (wW (x % 9))))))) :: (c_nine, .cell (some (D.lst (fv.map fun (x : Nat) => D.int x)))) :: (c_reach, .cell (some (D.int (r : Nat)))) :: (113, .raw (tabObj tps)) :: LexL a (RT rs 9) (lnT 11 (RT rs 9)) ((puR lo hi (i + 1)).map fun k => D.str (sl (wW (ws.getD k 0))))) ?l10 ?_
      case l10 =>
        (refine' x_assign_cell O ?k1 ?_ ?k2 ?k3; (case k1 => kt_at_get); (case k2 => with_unfolding_all rfl); (case k3 => with_unfolding_all rfl))
        refine ev_cp (cl := [(Str.ofString "wanted", c_wanted), (Str.ofString "stock", c_stock), (Str.ofString "reach", c_reach), (Str.ofString "k", c_k)]) O (by kt_at_item) ?_
        kt_at_in
        refine cl_range1 ?_
        refine ⟨_, iter_upto (k := 5) (by kt_len), by simp, fun cenv C O' => ?_⟩
        dsimp only at O'
        refine compL_if (List.range 5) _ (fun (j : Nat) => D.int j) (fun j => decide (lo i ≤ j) && decide (j < hi i)) (fun σ => ∃ o, σ = (C, .ns [(Str.ofString ".0", none), (Str.ofString "j", o)]) :: (qa, .list ((prR lo hi (i + 1)).map fun p => D.tup [D.int (p.1 : Nat), D.int (p.2 : Nat)])) :: (la, .list (((lfR lo hi (i + 1)).map (ql ss)).map eD)) :: (wa, .list (((ws).map qe).map eD)) :: (L, .ns [(Str.ofString "script", some (D.lst (xs.map D.int))), (Str.ofString "draws", some (D.lst (dr.map fun (x : Nat) => D.int x))), (Str.ofString "seen", some (D.lst (fv.map fun x => seenD x))), (Str.ofString "rows", some (D.lst ((List.range 9).map fun i => D.str (sl (spell ((fv.getD i 0 / 288 : Nat) : Int) (wW (fv.getD i 0 % 9)) ++ [10]))))), (Str.ofString "tokens", some (D.lst (fv.map fun x => D.str (sl (wW (x % 9)))))), (Str.ofString "wishes", some (D.obj wa)), (Str.ofString "left", some (D.obj la)), (Str.ofString "pairs", some (D.obj qa)), (Str.ofString "choices", some (D.lst ((chW lo hi (i)).map fun p => chE p))), (Str.ofString "hue", some (D.float (fracF (ws.getD i 0) 16))), (Str.ofString "low", some (D.int (lo i : Nat))), (Str.ofString "high", some (D.int (hi i : Nat))), (Str.ofString "near", some (D.lst ((nearN (lo i) (hi i)).map fun (j : Nat) => D.int j))), (Str.ofString "spot", some (D.int (spotN (lo i) (lfR lo hi i) : Nat))), (Str.ofString "due", none), (Str.ofString "ends", none)]) :: (c_served, .cell none) :: (c_mine, .cell (mv)) :: (c_ways, .cell (some (D.lst (ss.map fun s => D.int (lev (wW (ws.getD i 0)) (wW s) (r : Nat)))))) :: (c_word, .cell (some (D.str (sl (wW (ws.getD i 0)))))) :: (c_j, .cell none) :: (c_stock, .cell (some (D.lst (ss.map fun (x : Nat) => D.int x)))) :: (c_wanted, .cell (some (D.lst (ws.map fun (x : Nat) => D.int x)))) :: (c_paints, .cell (some (D.lst (ss.map fun s => eD (qe s))))) :: (c_lexer, .cell (some (D.obj a.lx))) :: (c_k, .cell (some (D.int (i : Nat)))) :: (c_words, .cell (some (D.lst (fv.map fun x => D.str (sl (wW (x % 9))))))) :: (c_nine, .cell (some (D.lst (fv.map fun (x : Nat) => D.int x)))) :: (c_reach, .cell (some (D.int (r : Nat)))) :: (113, .raw (tabObj tps)) :: LexL a (RT rs 9) (lnT 11 (RT rs 9)) ((puR lo hi (i + 1)).map fun k => D.str (sl (wW (ws.getD k 0))))) ?tw ?fw ⟨none, rfl⟩
        case tw =>
          rintro j hj σ ⟨o, rfl⟩
          have hj := List.mem_range.mp hj
          kt_at_in
          refine gi_lst j (.lst _) rfl (by kt_len) (hsi j hj) ?_
          kt_at_in
          refine gi_lst i (.lst _) rfl (by kt_len) (hwi4 i hi4) ?_
          kt_at_in
          refine cl_abs ?_
          kt_at_in
          refine ⟨?_, fun _ => ?_, fun _ => ⟨_, rfl⟩⟩
          · rw [abs_near, loI_hiI hs5 hso' _ _ _ hj, hlo, hhi]
          kt_at_in
          exact ⟨rfl, _, rfl⟩
        case fw =>
          rintro σ ⟨o, rfl⟩
          refine ⟨_, _, rfl, ?_⟩
          kt_at_in
          exact ⟨rfl, rfl⟩
      rintro _ rfl
      refine xs_cut (fun σ' => σ' = (qa, .list ((prR lo hi (i + 1)).map fun p => D.tup [D.int (p.1 : Nat), D.int (p.2 : Nat)])) :: (la, .list (((lfR lo hi (i + 1)).map (ql ss)).map eD)) :: (wa, .list (((ws).map qe).map eD)) :: (L, .ns [(Str.ofString "script", some (D.lst (xs.map D.int))), (Str.ofString "draws", some (D.lst (dr.map fun (x : Nat) => D.int x))), (Str.ofString "seen", some (D.lst (fv.map fun x => seenD x))), (Str.ofString "rows", some (D.lst ((List.range 9).map fun i => D.str (sl (spell ((fv.getD i 0 / 288 : Nat) : Int) (wW (fv.getD i 0 % 9)) ++ [10]))))), (Str.ofString "tokens", some (D.lst (fv.map fun x => D.str (sl (wW (x % 9)))))), (Str.ofString "wishes", some (D.obj wa)), (Str.ofString "left", some (D.obj la)), (Str.ofString "pairs", some (D.obj qa)), (Str.ofString "choices", some (D.lst ((chW lo hi (i + 1)).map fun p => chE p))), (Str.ofString "hue", some (D.float (fracF (ws.getD i 0) 16))), (Str.ofString "low", some (D.int (lo i : Nat))), (Str.ofString "high", some (D.int (hi i : Nat))), (Str.ofString "near", some (D.lst ((nearN (lo i) (hi i)).map fun (j : Nat) => D.int j))), (Str.ofString "spot", some (D.int (spotN (lo i) (lfR lo hi i) : Nat))), (Str.ofString "due", none), (Str.ofString "ends", none)]) :: (c_served, .cell none) :: (c_mine, .cell (some (D.lst ((nearN (lo i) (hi i)).map fun (j : Nat) => D.int j)))) :: (c_ways, .cell (some (D.lst (ss.map fun s => D.int (lev (wW (ws.getD i 0)) (wW s) (r : Nat)))))) :: (c_word, .cell (some (D.str (sl (wW (ws.getD i 0)))))) :: (c_j, .cell none) :: (c_stock, .cell (some (D.lst (ss.map fun (x : Nat) => D.int x)))) :: (c_wanted, .cell (some (D.lst (ws.map fun (x : Nat) => D.int x)))) :: (c_paints, .cell (some (D.lst (ss.map fun s => eD (qe s))))) :: (c_lexer, .cell (some (D.obj a.lx))) :: (c_k, .cell (some (D.int (i : Nat)))) :: (c_words, .cell (some (D.lst (fv.map fun x => D.str (sl (wW (x % 9))))))) :: (c_nine, .cell (some (D.lst (fv.map fun (x : Nat) => D.int x)))) :: (c_reach, .cell (some (D.int (r : Nat)))) :: (113, .raw (tabObj tps)) :: LexL a (RT rs 9) (lnT 11 (RT rs 9)) ((puR lo hi (i + 1)).map fun k => D.str (sl (wW (ws.getD k 0))))) ?l11 ?_
      case l11 =>
        obtain ⟨hcl, hcf⟩ := chW_facts lo hi i (by kt_len) fun j _ => hhi5 j
        have hcl16 : (chW lo hi i).length ≤ 16 := by
          rw [hcl]
          exact Nat.pow_le_pow_right (n := 2) (by decide) (show i ≤ 4 by kt_len)
        kt_at_in
        refine ev_cpC (cl := [(Str.ofString "mine", c_mine)]) O ⟨by with_unfolding_all rfl, by with_unfolding_all rfl, rfl, by decide +kernel, by decide +kernel, (by simp only [List.map_cons, List.map_nil]; decide +kernel), (fun _ => by with_unfolding_all rfl)⟩ ?_
        kt_at_in
        refine ⟨_, .lst _, by simp; omega, fun cenv C O0 => ?_⟩
        dsimp only at O0
        rw [show cellsFrom (C + 1) [(Str.ofString ".0", NameKind.local), (Str.ofString "size", NameKind.local), (Str.ofString "held", NameKind.cell), (Str.ofString "range", NameKind.globalImplicit), (Str.ofString "mine", NameKind.free)] [] ++ [(Str.ofString "mine", c_mine)] = [(Str.ofString "held", C + 1), (Str.ofString "mine", c_mine)] from rfl] at O0
        show CompL G 8 cenv _ [] _ _ _ [] ((C, .ns [(Str.ofString ".0", none), (Str.ofString "size", none)]) :: (C + 1, .cell none) :: (qa, .list ((prR lo hi (i + 1)).map fun p => D.tup [D.int (p.1 : Nat), D.int (p.2 : Nat)])) :: (la, .list (((lfR lo hi (i + 1)).map (ql ss)).map eD)) :: (wa, .list (((ws).map qe).map eD)) :: (L, .ns [(Str.ofString "script", some (D.lst (xs.map D.int))), (Str.ofString "draws", some (D.lst (dr.map fun (x : Nat) => D.int x))), (Str.ofString "seen", some (D.lst (fv.map fun x => seenD x))), (Str.ofString "rows", some (D.lst ((List.range 9).map fun i => D.str (sl (spell ((fv.getD i 0 / 288 : Nat) : Int) (wW (fv.getD i 0 % 9)) ++ [10]))))), (Str.ofString "tokens", some (D.lst (fv.map fun x => D.str (sl (wW (x % 9)))))), (Str.ofString "wishes", some (D.obj wa)), (Str.ofString "left", some (D.obj la)), (Str.ofString "pairs", some (D.obj qa)), (Str.ofString "choices", some (D.lst ((chW lo hi (i)).map fun p => chE p))), (Str.ofString "hue", some (D.float (fracF (ws.getD i 0) 16))), (Str.ofString "low", some (D.int (lo i : Nat))), (Str.ofString "high", some (D.int (hi i : Nat))), (Str.ofString "near", some (D.lst ((nearN (lo i) (hi i)).map fun (j : Nat) => D.int j))), (Str.ofString "spot", some (D.int (spotN (lo i) (lfR lo hi i) : Nat))), (Str.ofString "due", none), (Str.ofString "ends", none)]) :: (c_served, .cell none) :: (c_mine, .cell (some (D.lst ((nearN (lo i) (hi i)).map fun (j : Nat) => D.int j)))) :: (c_ways, .cell (some (D.lst (ss.map fun s => D.int (lev (wW (ws.getD i 0)) (wW s) (r : Nat)))))) :: (c_word, .cell (some (D.str (sl (wW (ws.getD i 0)))))) :: (c_j, .cell none) :: (c_stock, .cell (some (D.lst (ss.map fun (x : Nat) => D.int x)))) :: (c_wanted, .cell (some (D.lst (ws.map fun (x : Nat) => D.int x)))) :: (c_paints, .cell (some (D.lst (ss.map fun s => eD (qe s))))) :: (c_lexer, .cell (some (D.obj a.lx))) :: (c_k, .cell (some (D.int (i : Nat)))) :: (c_words, .cell (some (D.lst (fv.map fun x => D.str (sl (wW (x % 9))))))) :: (c_nine, .cell (some (D.lst (fv.map fun (x : Nat) => D.int x)))) :: (c_reach, .cell (some (D.int (r : Nat)))) :: (113, .raw (tabObj tps)) :: LexL a (RT rs 9) (lnT 11 (RT rs 9)) ((puR lo hi (i + 1)).map fun k => D.str (sl (wW (ws.getD k 0)))))
        generalize C + 1 = T at O0 ⊢
        refine compL_map (chW lo hi i) (fun p => chE p) (fun p => D.tup [D.int ((p.1 + 1 : Nat) : Int), D.lst ((hM (p.2 ||| imN (lo i) (hi i))).map fun (x : Nat) => D.int x)]) (fun σ => ∃ o q, σ = (C, .ns [(Str.ofString ".0", none), (Str.ofString "size", q)]) :: (T, .cell o) :: (qa, .list ((prR lo hi (i + 1)).map fun p => D.tup [D.int (p.1 : Nat), D.int (p.2 : Nat)])) :: (la, .list (((lfR lo hi (i + 1)).map (ql ss)).map eD)) :: (wa, .list (((ws).map qe).map eD)) :: (L, .ns [(Str.ofString "script", some (D.lst (xs.map D.int))), (Str.ofString "draws", some (D.lst (dr.map fun (x : Nat) => D.int x))), (Str.ofString "seen", some (D.lst (fv.map fun x => seenD x))), (Str.ofString "rows", some (D.lst ((List.range 9).map fun i => D.str (sl (spell ((fv.getD i 0 / 288 : Nat) : Int) (wW (fv.getD i 0 % 9)) ++ [10]))))), (Str.ofString "tokens", some (D.lst (fv.map fun x => D.str (sl (wW (x % 9)))))), (Str.ofString "wishes", some (D.obj wa)), (Str.ofString "left", some (D.obj la)), (Str.ofString "pairs", some (D.obj qa)), (Str.ofString "choices", some (D.lst ((chW lo hi (i)).map fun p => chE p))), (Str.ofString "hue", some (D.float (fracF (ws.getD i 0) 16))), (Str.ofString "low", some (D.int (lo i : Nat))), (Str.ofString "high", some (D.int (hi i : Nat))), (Str.ofString "near", some (D.lst ((nearN (lo i) (hi i)).map fun (j : Nat) => D.int j))), (Str.ofString "spot", some (D.int (spotN (lo i) (lfR lo hi i) : Nat))), (Str.ofString "due", none), (Str.ofString "ends", none)]) :: (c_served, .cell none) :: (c_mine, .cell (some (D.lst ((nearN (lo i) (hi i)).map fun (j : Nat) => D.int j)))) :: (c_ways, .cell (some (D.lst (ss.map fun s => D.int (lev (wW (ws.getD i 0)) (wW s) (r : Nat)))))) :: (c_word, .cell (some (D.str (sl (wW (ws.getD i 0)))))) :: (c_j, .cell none) :: (c_stock, .cell (some (D.lst (ss.map fun (x : Nat) => D.int x)))) :: (c_wanted, .cell (some (D.lst (ws.map fun (x : Nat) => D.int x)))) :: (c_paints, .cell (some (D.lst (ss.map fun s => eD (qe s))))) :: (c_lexer, .cell (some (D.obj a.lx))) :: (c_k, .cell (some (D.int (i : Nat)))) :: (c_words, .cell (some (D.lst (fv.map fun x => D.str (sl (wW (x % 9))))))) :: (c_nine, .cell (some (D.lst (fv.map fun (x : Nat) => D.int x)))) :: (c_reach, .cell (some (D.int (r : Nat)))) :: (113, .raw (tabObj tps)) :: LexL a (RT rs 9) (lnT 11 (RT rs 9)) ((puR lo hi (i + 1)).map fun k => D.str (sl (wW (ws.getD k 0))))) ?tw ?fw ⟨none, none, rfl⟩
        case tw =>
          rintro p hp σ ⟨o, q, rfl⟩
          have hpf := hcf p hp
          kt_at_in
          refine ev_cp (cl := [(Str.ofString "mine", c_mine), (Str.ofString "held", T)]) O0 (by kt_at_item) ?_
          kt_at_in
          refine cl_range1 ?_
          refine ⟨_, iter_upto (k := 5) (by kt_len), by simp, fun cenv2 C2 O2 => ?_⟩
          dsimp only at O2
          refine compL_if (List.range 5) _ (fun (j : Nat) => D.int j) (fun j => (hM p.2).any (· == j) || (decide (lo i ≤ j) && decide (j < hi i))) (fun σ => ∃ q, σ = (C2, .ns [(Str.ofString ".0", none), (Str.ofString "j", q)]) :: (C, .ns [(Str.ofString ".0", none), (Str.ofString "size", (some (D.int (p.1 : Nat))))]) :: (T, .cell (some (D.lst ((hM (p.2)).map fun (x : Nat) => D.int x)))) :: (qa, .list ((prR lo hi (i + 1)).map fun p => D.tup [D.int (p.1 : Nat), D.int (p.2 : Nat)])) :: (la, .list (((lfR lo hi (i + 1)).map (ql ss)).map eD)) :: (wa, .list (((ws).map qe).map eD)) :: (L, .ns [(Str.ofString "script", some (D.lst (xs.map D.int))), (Str.ofString "draws", some (D.lst (dr.map fun (x : Nat) => D.int x))), (Str.ofString "seen", some (D.lst (fv.map fun x => seenD x))), (Str.ofString "rows", some (D.lst ((List.range 9).map fun i => D.str (sl (spell ((fv.getD i 0 / 288 : Nat) : Int) (wW (fv.getD i 0 % 9)) ++ [10]))))), (Str.ofString "tokens", some (D.lst (fv.map fun x => D.str (sl (wW (x % 9)))))), (Str.ofString "wishes", some (D.obj wa)), (Str.ofString "left", some (D.obj la)), (Str.ofString "pairs", some (D.obj qa)), (Str.ofString "choices", some (D.lst ((chW lo hi (i)).map fun p => chE p))), (Str.ofString "hue", some (D.float (fracF (ws.getD i 0) 16))), (Str.ofString "low", some (D.int (lo i : Nat))), (Str.ofString "high", some (D.int (hi i : Nat))), (Str.ofString "near", some (D.lst ((nearN (lo i) (hi i)).map fun (j : Nat) => D.int j))), (Str.ofString "spot", some (D.int (spotN (lo i) (lfR lo hi i) : Nat))), (Str.ofString "due", none), (Str.ofString "ends", none)]) :: (c_served, .cell none) :: (c_mine, .cell (some (D.lst ((nearN (lo i) (hi i)).map fun (j : Nat) => D.int j)))) :: (c_ways, .cell (some (D.lst (ss.map fun s => D.int (lev (wW (ws.getD i 0)) (wW s) (r : Nat)))))) :: (c_word, .cell (some (D.str (sl (wW (ws.getD i 0)))))) :: (c_j, .cell none) :: (c_stock, .cell (some (D.lst (ss.map fun (x : Nat) => D.int x)))) :: (c_wanted, .cell (some (D.lst (ws.map fun (x : Nat) => D.int x)))) :: (c_paints, .cell (some (D.lst (ss.map fun s => eD (qe s))))) :: (c_lexer, .cell (some (D.obj a.lx))) :: (c_k, .cell (some (D.int (i : Nat)))) :: (c_words, .cell (some (D.lst (fv.map fun x => D.str (sl (wW (x % 9))))))) :: (c_nine, .cell (some (D.lst (fv.map fun (x : Nat) => D.int x)))) :: (c_reach, .cell (some (D.int (r : Nat)))) :: (113, .raw (tabObj tps)) :: LexL a (RT rs 9) (lnT 11 (RT rs 9)) ((puR lo hi (i + 1)).map fun k => D.str (sl (wW (ws.getD k 0))))) ?t2 ?f2 ⟨none, rfl⟩
          case t2 =>
            rintro j hj σ ⟨q, rfl⟩
            have hj := List.mem_range.mp hj
            kt_at_in
            refine co_in_ints (seq_ints _) ?_
            rw [hM_any]
            kt_at_in
            refine ⟨fun h1 => ⟨by rw [h1]; rfl, fun _ => ?_, fun _ => ⟨_, rfl⟩⟩, fun h1 => ?_⟩
            · kt_at_in
              exact ⟨rfl, _, rfl⟩
            kt_at_in
            refine co_in_ints (seq_ints _) ?_
            rw [near_any hj]
            kt_at_in
            refine ⟨fun h2 => ⟨by rw [h1, h2]; rfl, fun _ => ?_, fun _ => ⟨_, rfl⟩⟩, fun h2 => ?_⟩
            · kt_at_in
              exact ⟨rfl, _, rfl⟩
            kt_at_in
            refine ⟨by rw [h1, h2]; rfl, fun h => ?_, fun _ => ⟨_, rfl⟩⟩
            rw [h1, h2] at h
            cases h
          case f2 =>
            rintro σ ⟨q, rfl⟩
            refine ⟨_, _, rfl, ?_⟩
            rw [hM_step hpf.2 (hlo5 i) (hhi5 i)]
            kt_at_in
            exact ⟨by simp, rfl, _, _, rfl⟩
        case fw =>
          rintro σ ⟨o, q, rfl⟩
          refine ⟨_, _, (List.Sublist.refl _).cons _ |>.cons_cons _, ?_⟩
          refine bo_lists (.lst _) (.lst _) (by kt_at_get) (by simp; omega) ?_
          kt_at_in
          rw [chD]
          exact ⟨rfl, rfl⟩
      rintro _ rfl
      kt_at_in
      exact ⟨_, _, _, _, _, _, _, _, _, rfl⟩
  rintro _ ⟨kv, hv, wv, yv, lv, gv, nv, sv, mv, rfl⟩
  refine W.freezeNs (a := qa) (L := L) (x := Str.ofString "pairs") (σ₁ := [(la, .list (((lfR lo hi (4)).map (ql ss)).map eD)), (wa, .list (((ws).map qe).map eD))]) (m₁ := [(Str.ofString "script", some (D.lst (xs.map D.int))), (Str.ofString "draws", some (D.lst (dr.map fun (x : Nat) => D.int x))), (Str.ofString "seen", some (D.lst (fv.map fun x => seenD x))), (Str.ofString "rows", some (D.lst ((List.range 9).map fun i => D.str (sl (spell ((fv.getD i 0 / 288 : Nat) : Int) (wW (fv.getD i 0 % 9)) ++ [10]))))), (Str.ofString "tokens", some (D.lst (fv.map fun x => D.str (sl (wW (x % 9)))))), (Str.ofString "wishes", some (D.obj wa)), (Str.ofString "left", some (D.obj la))]) (m₂ := [(Str.ofString "choices", some (D.lst ((chW lo hi (4)).map fun p => chE p))), (Str.ofString "hue", hv), (Str.ofString "low", lv), (Str.ofString "high", gv), (Str.ofString "near", nv), (Str.ofString "spot", sv), (Str.ofString "due", none), (Str.ofString "ends", none)]) ?_
  simp only [List.cons_append, List.nil_append]
  refine xs_cut (fun σ' => ∃ kv jv dv, σ' = (la, .list (((lfR lo hi (4)).map (ql ss)).map eD)) :: (wa, .list (((ws).map qe).map eD)) :: (L, .ns [(Str.ofString "script", some (D.lst (xs.map D.int))), (Str.ofString "draws", some (D.lst (dr.map fun (x : Nat) => D.int x))), (Str.ofString "seen", some (D.lst (fv.map fun x => seenD x))), (Str.ofString "rows", some (D.lst ((List.range 9).map fun i => D.str (sl (spell ((fv.getD i 0 / 288 : Nat) : Int) (wW (fv.getD i 0 % 9)) ++ [10]))))), (Str.ofString "tokens", some (D.lst (fv.map fun x => D.str (sl (wW (x % 9)))))), (Str.ofString "wishes", some (D.obj wa)), (Str.ofString "left", some (D.obj la)), (Str.ofString "pairs", some (D.lst ((prR lo hi (4)).map fun p => D.tup [D.int (p.1 : Nat), D.int (p.2 : Nat)]))), (Str.ofString "choices", some (D.lst ((chW lo hi (4)).map fun p => chE p))), (Str.ofString "hue", hv), (Str.ofString "low", lv), (Str.ofString "high", gv), (Str.ofString "near", nv), (Str.ofString "spot", sv), (Str.ofString "due", dv), (Str.ofString "ends", none)]) :: (c_served, .cell none) :: (c_mine, .cell (mv)) :: (c_ways, .cell (yv)) :: (c_word, .cell (wv)) :: (c_j, .cell (jv)) :: (c_stock, .cell (some (D.lst (ss.map fun (x : Nat) => D.int x)))) :: (c_wanted, .cell (some (D.lst (ws.map fun (x : Nat) => D.int x)))) :: (c_paints, .cell (some (D.lst (ss.map fun s => eD (qe s))))) :: (c_lexer, .cell (some (D.obj a.lx))) :: (c_k, .cell (kv)) :: (c_words, .cell (some (D.lst (fv.map fun x => D.str (sl (wW (x % 9))))))) :: (c_nine, .cell (some (D.lst (fv.map fun (x : Nat) => D.int x)))) :: (c_reach, .cell (some (D.int (r : Nat)))) :: (113, .raw (tabObj tps)) :: LexL a (RT rs 9) (lnT 11 (RT rs 9)) ((puR lo hi (4)).map fun k => D.str (sl (wW (ws.getD k 0))))) ?sdue ?_
  case sdue =>
    kt_at_in
    refine cl_range2 ?_
    refine ⟨_, iter_from (a := 1) (b := 5) (by kt_len) (by kt_len), ?_⟩
    refine fork_upto (fun i σ => ∃ kv jv dv, σ = (la, .list (((lfR lo hi (4)).map (ql ss)).map eD)) :: (wa, .list (((ws).map qe).map eD)) :: (L, .ns [(Str.ofString "script", some (D.lst (xs.map D.int))), (Str.ofString "draws", some (D.lst (dr.map fun (x : Nat) => D.int x))), (Str.ofString "seen", some (D.lst (fv.map fun x => seenD x))), (Str.ofString "rows", some (D.lst ((List.range 9).map fun i => D.str (sl (spell ((fv.getD i 0 / 288 : Nat) : Int) (wW (fv.getD i 0 % 9)) ++ [10]))))), (Str.ofString "tokens", some (D.lst (fv.map fun x => D.str (sl (wW (x % 9)))))), (Str.ofString "wishes", some (D.obj wa)), (Str.ofString "left", some (D.obj la)), (Str.ofString "pairs", some (D.lst ((prR lo hi (4)).map fun p => D.tup [D.int (p.1 : Nat), D.int (p.2 : Nat)]))), (Str.ofString "choices", some (D.lst ((chW lo hi (4)).map fun p => chE p))), (Str.ofString "hue", hv), (Str.ofString "low", lv), (Str.ofString "high", gv), (Str.ofString "near", nv), (Str.ofString "spot", sv), (Str.ofString "due", dv), (Str.ofString "ends", none)]) :: (c_served, .cell none) :: (c_mine, .cell (mv)) :: (c_ways, .cell (yv)) :: (c_word, .cell (wv)) :: (c_j, .cell (jv)) :: (c_stock, .cell (some (D.lst (ss.map fun (x : Nat) => D.int x)))) :: (c_wanted, .cell (some (D.lst (ws.map fun (x : Nat) => D.int x)))) :: (c_paints, .cell (some (D.lst (ss.map fun s => eD (qe s))))) :: (c_lexer, .cell (some (D.obj a.lx))) :: (c_k, .cell (kv)) :: (c_words, .cell (some (D.lst (fv.map fun x => D.str (sl (wW (x % 9))))))) :: (c_nine, .cell (some (D.lst (fv.map fun (x : Nat) => D.int x)))) :: (c_reach, .cell (some (D.int (r : Nat)))) :: (113, .raw (tabObj tps)) :: LexL a (RT rs 9) (lnT 11 (RT rs 9)) ((puR lo hi (4)).map fun k => D.str (sl (wW (ws.getD k 0))))) ?fdue ?tdue ⟨kv, none, none, rfl⟩
    case fdue =>
      rintro σ ⟨kv, jv, dv, rfl⟩
      exact ⟨rfl, kv, jv, dv, rfl⟩
    case tdue =>
      rintro i σ hi4 ⟨kv, jv, dv, rfl⟩
      have hi4 : i < 4 := hi4
      (refine' as_cap O ?k2 ?k3 ?k4 ?_; (case k2 => kt_at_get); (case k3 => kt_at_get); (case k4 => (repeat (first | exact UpdL.head _ | apply UpdL.tail))))
      kt_at_in
      refine cl_range2 ?_
      refine ⟨_, iter_from (a := 1) (b := 6) (by kt_len) (by kt_len), ?_⟩
      refine fork_upto (fun j σ => ∃ jv dv, σ = (la, .list (((lfR lo hi (4)).map (ql ss)).map eD)) :: (wa, .list (((ws).map qe).map eD)) :: (L, .ns [(Str.ofString "script", some (D.lst (xs.map D.int))), (Str.ofString "draws", some (D.lst (dr.map fun (x : Nat) => D.int x))), (Str.ofString "seen", some (D.lst (fv.map fun x => seenD x))), (Str.ofString "rows", some (D.lst ((List.range 9).map fun i => D.str (sl (spell ((fv.getD i 0 / 288 : Nat) : Int) (wW (fv.getD i 0 % 9)) ++ [10]))))), (Str.ofString "tokens", some (D.lst (fv.map fun x => D.str (sl (wW (x % 9)))))), (Str.ofString "wishes", some (D.obj wa)), (Str.ofString "left", some (D.obj la)), (Str.ofString "pairs", some (D.lst ((prR lo hi (4)).map fun p => D.tup [D.int (p.1 : Nat), D.int (p.2 : Nat)]))), (Str.ofString "choices", some (D.lst ((chW lo hi (4)).map fun p => chE p))), (Str.ofString "hue", hv), (Str.ofString "low", lv), (Str.ofString "high", gv), (Str.ofString "near", nv), (Str.ofString "spot", sv), (Str.ofString "due", dv), (Str.ofString "ends", none)]) :: (c_served, .cell none) :: (c_mine, .cell (mv)) :: (c_ways, .cell (yv)) :: (c_word, .cell (wv)) :: (c_j, .cell (jv)) :: (c_stock, .cell (some (D.lst (ss.map fun (x : Nat) => D.int x)))) :: (c_wanted, .cell (some (D.lst (ws.map fun (x : Nat) => D.int x)))) :: (c_paints, .cell (some (D.lst (ss.map fun s => eD (qe s))))) :: (c_lexer, .cell (some (D.obj a.lx))) :: (c_k, .cell (some (D.int ((1 + i : Nat) : Int)))) :: (c_words, .cell (some (D.lst (fv.map fun x => D.str (sl (wW (x % 9))))))) :: (c_nine, .cell (some (D.lst (fv.map fun (x : Nat) => D.int x)))) :: (c_reach, .cell (some (D.int (r : Nat)))) :: (113, .raw (tabObj tps)) :: LexL a (RT rs 9) (lnT 11 (RT rs 9)) ((puR lo hi (4)).map fun k => D.str (sl (wW (ws.getD k 0))))) ?fdj ?tdj ⟨jv, dv, rfl⟩
      case fdj =>
        rintro σ ⟨jv, dv, rfl⟩
        kt_at_in
        exact ⟨_, jv, dv, rfl⟩
      case tdj =>
        rintro j σ hj5 ⟨jv, dv, rfl⟩
        have hj5 : j < 5 := hj5
        (refine' as_cap O ?k2 ?k3 ?k4 ?_; (case k2 => kt_at_get); (case k3 => kt_at_get); (case k4 => (repeat (first | exact UpdL.head _ | apply UpdL.tail))))
        show XS G 8 env _ _ _
        obtain ⟨hcl, hcf⟩ := chW_facts lo hi (1 + i) (by kt_len) fun j _ => hhi5 j
        have hcl16 : (chW lo hi (1 + i)).length ≤ 16 := by
          rw [hcl]
          exact Nat.pow_le_pow_right (n := 2) (by decide) (show 1 + i ≤ 4 by kt_len)
        have hcl4 : (chW lo hi 4).length ≤ 16 := by rw [(chW_facts lo hi 4 (by kt_len) fun j _ => hhi5 j).1]; decide
        refine xs_cut (fun σ' => σ' = (la, .list (((lfR lo hi (4)).map (ql ss)).map eD)) :: (wa, .list (((ws).map qe).map eD)) :: (L, .ns [(Str.ofString "script", some (D.lst (xs.map D.int))), (Str.ofString "draws", some (D.lst (dr.map fun (x : Nat) => D.int x))), (Str.ofString "seen", some (D.lst (fv.map fun x => seenD x))), (Str.ofString "rows", some (D.lst ((List.range 9).map fun i => D.str (sl (spell ((fv.getD i 0 / 288 : Nat) : Int) (wW (fv.getD i 0 % 9)) ++ [10]))))), (Str.ofString "tokens", some (D.lst (fv.map fun x => D.str (sl (wW (x % 9)))))), (Str.ofString "wishes", some (D.obj wa)), (Str.ofString "left", some (D.obj la)), (Str.ofString "pairs", some (D.lst ((prR lo hi (4)).map fun p => D.tup [D.int (p.1 : Nat), D.int (p.2 : Nat)]))), (Str.ofString "choices", some (D.lst ((chW lo hi (4)).map fun p => chE p))), (Str.ofString "hue", hv), (Str.ofString "low", lv), (Str.ofString "high", gv), (Str.ofString "near", nv), (Str.ofString "spot", sv), (Str.ofString "due", some (D.int (under (tkR lo hi (1 + i)) (1 + j) : Nat))), (Str.ofString "ends", none)]) :: (c_served, .cell none) :: (c_mine, .cell (mv)) :: (c_ways, .cell (yv)) :: (c_word, .cell (wv)) :: (c_j, .cell (some (D.int ((1 + j : Nat) : Int)))) :: (c_stock, .cell (some (D.lst (ss.map fun (x : Nat) => D.int x)))) :: (c_wanted, .cell (some (D.lst (ws.map fun (x : Nat) => D.int x)))) :: (c_paints, .cell (some (D.lst (ss.map fun s => eD (qe s))))) :: (c_lexer, .cell (some (D.obj a.lx))) :: (c_k, .cell (some (D.int ((1 + i : Nat) : Int)))) :: (c_words, .cell (some (D.lst (fv.map fun x => D.str (sl (wW (x % 9))))))) :: (c_nine, .cell (some (D.lst (fv.map fun (x : Nat) => D.int x)))) :: (c_reach, .cell (some (D.int (r : Nat)))) :: (113, .raw (tabObj tps)) :: LexL a (RT rs 9) (lnT 11 (RT rs 9)) ((puR lo hi (4)).map fun k => D.str (sl (wW (ws.getD k 0))))) ?d1 ?_
        case d1 =>
          kt_at_in
          refine ev_cp (cl := [(Str.ofString "k", c_k), (Str.ofString "j", c_j)]) O (by kt_at_item) ?_
          kt_at_in
          refine bo_pow2 (1 + i) rfl (by kt_len) (by kt_len) ?_
          kt_at_in
          refine sl_to (2 ^ (1 + i)) (.lst _) (by simp; omega) ?_
          rw [← List.map_take, chW_take lo hi hhi5 (1 + i) (by kt_len) 4 (by kt_len) (by kt_len)]
          refine ⟨_, .lst _, by simp; omega, fun cenv C O' => ?_⟩
          dsimp only at O'
          refine compL_map (chW lo hi (1 + i)) (fun p => chE p) (fun p => D.int ((dueN (1 + i) (1 + j) p : Nat) : Int)) (fun σ => ∃ o q, σ = (C, .ns [(Str.ofString ".0", none), (Str.ofString "size", o), (Str.ofString "held", q)]) :: (la, .list (((lfR lo hi (4)).map (ql ss)).map eD)) :: (wa, .list (((ws).map qe).map eD)) :: (L, .ns [(Str.ofString "script", some (D.lst (xs.map D.int))), (Str.ofString "draws", some (D.lst (dr.map fun (x : Nat) => D.int x))), (Str.ofString "seen", some (D.lst (fv.map fun x => seenD x))), (Str.ofString "rows", some (D.lst ((List.range 9).map fun i => D.str (sl (spell ((fv.getD i 0 / 288 : Nat) : Int) (wW (fv.getD i 0 % 9)) ++ [10]))))), (Str.ofString "tokens", some (D.lst (fv.map fun x => D.str (sl (wW (x % 9)))))), (Str.ofString "wishes", some (D.obj wa)), (Str.ofString "left", some (D.obj la)), (Str.ofString "pairs", some (D.lst ((prR lo hi (4)).map fun p => D.tup [D.int (p.1 : Nat), D.int (p.2 : Nat)]))), (Str.ofString "choices", some (D.lst ((chW lo hi (4)).map fun p => chE p))), (Str.ofString "hue", hv), (Str.ofString "low", lv), (Str.ofString "high", gv), (Str.ofString "near", nv), (Str.ofString "spot", sv), (Str.ofString "due", dv), (Str.ofString "ends", none)]) :: (c_served, .cell none) :: (c_mine, .cell (mv)) :: (c_ways, .cell (yv)) :: (c_word, .cell (wv)) :: (c_j, .cell (some (D.int ((1 + j : Nat) : Int)))) :: (c_stock, .cell (some (D.lst (ss.map fun (x : Nat) => D.int x)))) :: (c_wanted, .cell (some (D.lst (ws.map fun (x : Nat) => D.int x)))) :: (c_paints, .cell (some (D.lst (ss.map fun s => eD (qe s))))) :: (c_lexer, .cell (some (D.obj a.lx))) :: (c_k, .cell (some (D.int ((1 + i : Nat) : Int)))) :: (c_words, .cell (some (D.lst (fv.map fun x => D.str (sl (wW (x % 9))))))) :: (c_nine, .cell (some (D.lst (fv.map fun (x : Nat) => D.int x)))) :: (c_reach, .cell (some (D.int (r : Nat)))) :: (113, .raw (tabObj tps)) :: LexL a (RT rs 9) (lnT 11 (RT rs 9)) ((puR lo hi (4)).map fun k => D.str (sl (wW (ws.getD k 0))))) ?td ?fd ⟨none, none, rfl⟩
          case td =>
            rintro p hp σ ⟨o, q, rfl⟩
            have hpf := hcf p hp
            have hmc := hM_count (j := 1 + j) hpf.2 (by kt_len)
            have hml := hM_len p.2
            kt_at_in
            refine ev_cp (cl := [(Str.ofString "j", c_j)]) O' (by kt_at_item) ?_
            kt_at_in
            refine ⟨_, .lst _, by simp; omega, fun cenv2 C2 O2 => ?_⟩
            dsimp only at O2
            refine compL_if (hM p.2) (fun (x : Nat) => D.int x) (fun (x : Nat) => D.int x) (fun x => decide (x < 1 + j)) (fun σ => ∃ q, σ = (C2, .ns [(Str.ofString ".0", none), (Str.ofString "x", q)]) :: (C, .ns [(Str.ofString ".0", none), (Str.ofString "size", some (D.int (p.1 : Nat))), (Str.ofString "held", some (D.lst ((hM (p.2)).map fun (x : Nat) => D.int x)))]) :: (la, .list (((lfR lo hi (4)).map (ql ss)).map eD)) :: (wa, .list (((ws).map qe).map eD)) :: (L, .ns [(Str.ofString "script", some (D.lst (xs.map D.int))), (Str.ofString "draws", some (D.lst (dr.map fun (x : Nat) => D.int x))), (Str.ofString "seen", some (D.lst (fv.map fun x => seenD x))), (Str.ofString "rows", some (D.lst ((List.range 9).map fun i => D.str (sl (spell ((fv.getD i 0 / 288 : Nat) : Int) (wW (fv.getD i 0 % 9)) ++ [10]))))), (Str.ofString "tokens", some (D.lst (fv.map fun x => D.str (sl (wW (x % 9)))))), (Str.ofString "wishes", some (D.obj wa)), (Str.ofString "left", some (D.obj la)), (Str.ofString "pairs", some (D.lst ((prR lo hi (4)).map fun p => D.tup [D.int (p.1 : Nat), D.int (p.2 : Nat)]))), (Str.ofString "choices", some (D.lst ((chW lo hi (4)).map fun p => chE p))), (Str.ofString "hue", hv), (Str.ofString "low", lv), (Str.ofString "high", gv), (Str.ofString "near", nv), (Str.ofString "spot", sv), (Str.ofString "due", dv), (Str.ofString "ends", none)]) :: (c_served, .cell none) :: (c_mine, .cell (mv)) :: (c_ways, .cell (yv)) :: (c_word, .cell (wv)) :: (c_j, .cell (some (D.int ((1 + j : Nat) : Int)))) :: (c_stock, .cell (some (D.lst (ss.map fun (x : Nat) => D.int x)))) :: (c_wanted, .cell (some (D.lst (ws.map fun (x : Nat) => D.int x)))) :: (c_paints, .cell (some (D.lst (ss.map fun s => eD (qe s))))) :: (c_lexer, .cell (some (D.obj a.lx))) :: (c_k, .cell (some (D.int ((1 + i : Nat) : Int)))) :: (c_words, .cell (some (D.lst (fv.map fun x => D.str (sl (wW (x % 9))))))) :: (c_nine, .cell (some (D.lst (fv.map fun (x : Nat) => D.int x)))) :: (c_reach, .cell (some (D.int (r : Nat)))) :: (113, .raw (tabObj tps)) :: LexL a (RT rs 9) (lnT 11 (RT rs 9)) ((puR lo hi (4)).map fun k => D.str (sl (wW (ws.getD k 0))))) ?t2 ?f2 ⟨none, rfl⟩
            case t2 =>
              rintro x hx σ ⟨q, rfl⟩
              kt_at_in
              refine ⟨decide_eq_decide.mpr (by kt_len), fun _ => ?_, fun _ => ⟨_, rfl⟩⟩
              kt_at_in
              exact ⟨rfl, _, rfl⟩
            case f2 =>
              rintro σ ⟨q, rfl⟩
              refine ⟨_, _, rfl, ?_⟩
              kt_at_in
              refine cl_len_list (.lst _) (by rw [List.length_map, hmc]; have := List.length_filter_le (fun x => decide (x < 1 + j)) (hM p.2); omega) ?_
              kt_at_in
              refine ⟨congrArg D.int ?_, _, _, rfl⟩
              rw [List.length_map, hmc]
              simp only [dueN]
              omega
          case fd =>
            rintro σ ⟨o, q, rfl⟩
            refine ⟨_, _, rfl, ?_⟩
            kt_at_in
            refine cl_min_list (L := L) (ns := (chW lo hi (1 + i)).map fun p => ((dueN (1 + i) (1 + j) p : Nat) : Int)) (seq_mapI (fun p => ((dueN (1 + i) (1 + j) p : Nat) : Int)) _) (by kt_at_get) (by rw [List.length_map, hcl]; exact Nat.two_pow_pos _) fun M m1 m2 => ?_
            have hM := due_is hhiM hlohi hhi5 hi4 hj5 m1 m2
            subst hM
            kt_at_in
            exact ⟨rfl, rfl⟩
        rintro _ rfl
        refine xs_cut (fun σ' => σ' = (la, .list (((lfR lo hi (4)).map (ql ss)).map eD)) :: (wa, .list (((ws).map qe).map eD)) :: (L, .ns [(Str.ofString "script", some (D.lst (xs.map D.int))), (Str.ofString "draws", some (D.lst (dr.map fun (x : Nat) => D.int x))), (Str.ofString "seen", some (D.lst (fv.map fun x => seenD x))), (Str.ofString "rows", some (D.lst ((List.range 9).map fun i => D.str (sl (spell ((fv.getD i 0 / 288 : Nat) : Int) (wW (fv.getD i 0 % 9)) ++ [10]))))), (Str.ofString "tokens", some (D.lst (fv.map fun x => D.str (sl (wW (x % 9)))))), (Str.ofString "wishes", some (D.obj wa)), (Str.ofString "left", some (D.obj la)), (Str.ofString "pairs", some (D.lst ((prR lo hi (4)).map fun p => D.tup [D.int (p.1 : Nat), D.int (p.2 : Nat)]))), (Str.ofString "choices", some (D.lst ((chW lo hi (4)).map fun p => chE p))), (Str.ofString "hue", hv), (Str.ofString "low", lv), (Str.ofString "high", gv), (Str.ofString "near", nv), (Str.ofString "spot", sv), (Str.ofString "due", some (D.int (under (tkR lo hi (1 + i)) (1 + j) : Nat))), (Str.ofString "ends", none)]) :: (c_served, .cell none) :: (c_mine, .cell (mv)) :: (c_ways, .cell (yv)) :: (c_word, .cell (wv)) :: (c_j, .cell (some (D.int ((1 + j : Nat) : Int)))) :: (c_stock, .cell (some (D.lst (ss.map fun (x : Nat) => D.int x)))) :: (c_wanted, .cell (some (D.lst (ws.map fun (x : Nat) => D.int x)))) :: (c_paints, .cell (some (D.lst (ss.map fun s => eD (qe s))))) :: (c_lexer, .cell (some (D.obj a.lx))) :: (c_k, .cell (some (D.int ((1 + i : Nat) : Int)))) :: (c_words, .cell (some (D.lst (fv.map fun x => D.str (sl (wW (x % 9))))))) :: (c_nine, .cell (some (D.lst (fv.map fun (x : Nat) => D.int x)))) :: (c_reach, .cell (some (D.int (r : Nat)))) :: (113, .raw (tabObj tps)) :: LexL a (RT rs 9) (lnT 11 (RT rs 9)) ((puR lo hi (4)).map fun k => D.str (sl (wW (ws.getD k 0))))) ?d2 ?_
        case d2 =>
          have hpl := prR_len lo hi 4
          kt_at_in
          refine ev_cp (cl := [(Str.ofString "k", c_k), (Str.ofString "j", c_j)]) O (by kt_at_item) ?_
          kt_at_in
          refine ⟨_, .lst _, by simp; omega, fun cenv C O' => ?_⟩
          dsimp only at O'
          refine compL_if (prR lo hi 4) (fun p => D.tup [D.int (p.1 : Nat), D.int (p.2 : Nat)]) (fun _ => D.int 1) (fun p => decide (p.1 < 1 + i) && decide (p.2 < 1 + j)) (fun σ => ∃ o q, σ = (C, .ns [(Str.ofString ".0", none), (Str.ofString "a", o), (Str.ofString "b", q)]) :: (la, .list (((lfR lo hi (4)).map (ql ss)).map eD)) :: (wa, .list (((ws).map qe).map eD)) :: (L, .ns [(Str.ofString "script", some (D.lst (xs.map D.int))), (Str.ofString "draws", some (D.lst (dr.map fun (x : Nat) => D.int x))), (Str.ofString "seen", some (D.lst (fv.map fun x => seenD x))), (Str.ofString "rows", some (D.lst ((List.range 9).map fun i => D.str (sl (spell ((fv.getD i 0 / 288 : Nat) : Int) (wW (fv.getD i 0 % 9)) ++ [10]))))), (Str.ofString "tokens", some (D.lst (fv.map fun x => D.str (sl (wW (x % 9)))))), (Str.ofString "wishes", some (D.obj wa)), (Str.ofString "left", some (D.obj la)), (Str.ofString "pairs", some (D.lst ((prR lo hi (4)).map fun p => D.tup [D.int (p.1 : Nat), D.int (p.2 : Nat)]))), (Str.ofString "choices", some (D.lst ((chW lo hi (4)).map fun p => chE p))), (Str.ofString "hue", hv), (Str.ofString "low", lv), (Str.ofString "high", gv), (Str.ofString "near", nv), (Str.ofString "spot", sv), (Str.ofString "due", some (D.int (under (tkR lo hi (1 + i)) (1 + j) : Nat))), (Str.ofString "ends", none)]) :: (c_served, .cell none) :: (c_mine, .cell (mv)) :: (c_ways, .cell (yv)) :: (c_word, .cell (wv)) :: (c_j, .cell (some (D.int ((1 + j : Nat) : Int)))) :: (c_stock, .cell (some (D.lst (ss.map fun (x : Nat) => D.int x)))) :: (c_wanted, .cell (some (D.lst (ws.map fun (x : Nat) => D.int x)))) :: (c_paints, .cell (some (D.lst (ss.map fun s => eD (qe s))))) :: (c_lexer, .cell (some (D.obj a.lx))) :: (c_k, .cell (some (D.int ((1 + i : Nat) : Int)))) :: (c_words, .cell (some (D.lst (fv.map fun x => D.str (sl (wW (x % 9))))))) :: (c_nine, .cell (some (D.lst (fv.map fun (x : Nat) => D.int x)))) :: (c_reach, .cell (some (D.int (r : Nat)))) :: (113, .raw (tabObj tps)) :: LexL a (RT rs 9) (lnT 11 (RT rs 9)) ((puR lo hi (4)).map fun k => D.str (sl (wW (ws.getD k 0))))) ?td ?fd ⟨none, none, rfl⟩
          case td =>
            rintro p hp σ ⟨o, q, rfl⟩
            kt_at_in
            refine ⟨fun h1 => ?_, fun h1 => ?_⟩
            case' refine_2 =>
              have h1' : decide (p.1 < 1 + i) = false := decide_eq_false (by have := of_decide_eq_false h1; omega)
              refine ⟨by rw [h1']; rfl, fun h => ?_, fun _ => ⟨_, _, rfl⟩⟩
              rw [h1'] at h
              cases h
            have h1' : decide (p.1 < 1 + i) = true := decide_eq_true (by have := of_decide_eq_true h1; omega)
            kt_at_in
            refine ⟨fun h2 => ?_, fun h2 => ?_⟩
            case' refine_2 =>
              have h2' : decide (p.2 < 1 + j) = false := decide_eq_false (by have := of_decide_eq_false h2; omega)
              refine ⟨by rw [h1', h2']; rfl, fun h => ?_, fun _ => ⟨_, _, rfl⟩⟩
              rw [h1', h2'] at h
              cases h
            have h2' : decide (p.2 < 1 + j) = true := decide_eq_true (by have := of_decide_eq_true h2; omega)
            kt_at_in
            refine ⟨by rw [h1', h2']; rfl, fun _ => ?_, fun _ => ⟨_, _, rfl⟩⟩
            kt_at_in
            exact ⟨rfl, _, _, rfl⟩
          case fd =>
            rintro σ ⟨o, q, rfl⟩
            refine ⟨_, _, rfl, ?_⟩
            have hcn := pr_count lo hi (1 + i) (1 + j) 4 (by kt_len)
            kt_at_in
            refine cl_len_list (.lst _) (by rw [List.length_map]; have := List.length_filter_le (fun p => decide (p.1 < 1 + i) && decide (p.2 < 1 + j)) (prR lo hi 4); omega) ?_
            rw [List.length_map, hcn]
            kt_at_in
            refine ⟨fun h => by simp at h, fun _ => ?_⟩
            kt_at_in
            exact ⟨rfl, rfl⟩
        rintro _ rfl
        kt_at_in
        exact ⟨_, _, rfl⟩
  rintro _ ⟨kv, jv, dv, rfl⟩
  refine xs_cut (fun σ' => σ' = (la, .list (((lfR lo hi (4)).map (ql ss)).map eD)) :: (wa, .list (((ws).map qe).map eD)) :: (L, .ns [(Str.ofString "script", some (D.lst (xs.map D.int))), (Str.ofString "draws", some (D.lst (dr.map fun (x : Nat) => D.int x))), (Str.ofString "seen", some (D.lst (fv.map fun x => seenD x))), (Str.ofString "rows", some (D.lst ((List.range 9).map fun i => D.str (sl (spell ((fv.getD i 0 / 288 : Nat) : Int) (wW (fv.getD i 0 % 9)) ++ [10]))))), (Str.ofString "tokens", some (D.lst (fv.map fun x => D.str (sl (wW (x % 9)))))), (Str.ofString "wishes", some (D.obj wa)), (Str.ofString "left", some (D.obj la)), (Str.ofString "pairs", some (D.lst ((prR lo hi (4)).map fun p => D.tup [D.int (p.1 : Nat), D.int (p.2 : Nat)]))), (Str.ofString "choices", some (D.lst ((chW lo hi (4)).map fun p => chE p))), (Str.ofString "hue", hv), (Str.ofString "low", lv), (Str.ofString "high", gv), (Str.ofString "near", nv), (Str.ofString "spot", sv), (Str.ofString "due", dv), (Str.ofString "ends", none)]) :: (c_served, .cell (some (D.lst ((prR lo hi 4).map fun p => D.int (p.1 : Nat))))) :: (c_mine, .cell (mv)) :: (c_ways, .cell (yv)) :: (c_word, .cell (wv)) :: (c_j, .cell (jv)) :: (c_stock, .cell (some (D.lst (ss.map fun (x : Nat) => D.int x)))) :: (c_wanted, .cell (some (D.lst (ws.map fun (x : Nat) => D.int x)))) :: (c_paints, .cell (some (D.lst (ss.map fun s => eD (qe s))))) :: (c_lexer, .cell (some (D.obj a.lx))) :: (c_k, .cell (kv)) :: (c_words, .cell (some (D.lst (fv.map fun x => D.str (sl (wW (x % 9))))))) :: (c_nine, .cell (some (D.lst (fv.map fun (x : Nat) => D.int x)))) :: (c_reach, .cell (some (D.int (r : Nat)))) :: (113, .raw (tabObj tps)) :: LexL a (RT rs 9) (lnT 11 (RT rs 9)) ((puR lo hi (4)).map fun k => D.str (sl (wW (ws.getD k 0))))) ?e1 ?_
  case e1 =>
    have hpl := prR_len lo hi 4
    (refine' x_assign_cell O ?k1 ?_ ?k2 ?k3; (case k1 => kt_at_get); (case k2 => with_unfolding_all rfl); (case k3 => with_unfolding_all rfl))
    refine ev_cp (cl := []) O (by kt_at_item) ?_
    kt_at_in
    refine ⟨_, .lst _, by simp; omega, fun cenv C O' => ?_⟩
    dsimp only at O'
    refine compL_map (prR lo hi 4) (fun p => D.tup [D.int (p.1 : Nat), D.int (p.2 : Nat)]) (fun p => D.int (p.1 : Nat)) (fun σ => ∃ o q, σ = (C, .ns [(Str.ofString ".0", none), (Str.ofString "a", o), (Str.ofString "b", q)]) :: (la, .list (((lfR lo hi (4)).map (ql ss)).map eD)) :: (wa, .list (((ws).map qe).map eD)) :: (L, .ns [(Str.ofString "script", some (D.lst (xs.map D.int))), (Str.ofString "draws", some (D.lst (dr.map fun (x : Nat) => D.int x))), (Str.ofString "seen", some (D.lst (fv.map fun x => seenD x))), (Str.ofString "rows", some (D.lst ((List.range 9).map fun i => D.str (sl (spell ((fv.getD i 0 / 288 : Nat) : Int) (wW (fv.getD i 0 % 9)) ++ [10]))))), (Str.ofString "tokens", some (D.lst (fv.map fun x => D.str (sl (wW (x % 9)))))), (Str.ofString "wishes", some (D.obj wa)), (Str.ofString "left", some (D.obj la)), (Str.ofString "pairs", some (D.lst ((prR lo hi (4)).map fun p => D.tup [D.int (p.1 : Nat), D.int (p.2 : Nat)]))), (Str.ofString "choices", some (D.lst ((chW lo hi (4)).map fun p => chE p))), (Str.ofString "hue", hv), (Str.ofString "low", lv), (Str.ofString "high", gv), (Str.ofString "near", nv), (Str.ofString "spot", sv), (Str.ofString "due", dv), (Str.ofString "ends", none)]) :: (c_served, .cell none) :: (c_mine, .cell (mv)) :: (c_ways, .cell (yv)) :: (c_word, .cell (wv)) :: (c_j, .cell (jv)) :: (c_stock, .cell (some (D.lst (ss.map fun (x : Nat) => D.int x)))) :: (c_wanted, .cell (some (D.lst (ws.map fun (x : Nat) => D.int x)))) :: (c_paints, .cell (some (D.lst (ss.map fun s => eD (qe s))))) :: (c_lexer, .cell (some (D.obj a.lx))) :: (c_k, .cell (kv)) :: (c_words, .cell (some (D.lst (fv.map fun x => D.str (sl (wW (x % 9))))))) :: (c_nine, .cell (some (D.lst (fv.map fun (x : Nat) => D.int x)))) :: (c_reach, .cell (some (D.int (r : Nat)))) :: (113, .raw (tabObj tps)) :: LexL a (RT rs 9) (lnT 11 (RT rs 9)) ((puR lo hi (4)).map fun k => D.str (sl (wW (ws.getD k 0))))) ?te ?fe ⟨none, none, rfl⟩
    case te =>
      rintro p hp σ ⟨o, q, rfl⟩
      kt_at_in
      exact ⟨rfl, _, _, rfl⟩
    case fe =>
      rintro σ ⟨o, q, rfl⟩
      refine ⟨_, _, rfl, ?_⟩
      kt_at_in
      exact ⟨rfl, rfl⟩
  rintro _ rfl
  obtain ⟨pu, hpu⟩ : ∃ pu, pu = puR lo hi 4 := ⟨_, rfl⟩
  have hpul : pu.length ≤ 4 := by rw [hpu]; exact puR_len lo hi 4
  obtain ⟨wf, hwf⟩ : ∃ wf : Nat → D, wf = fun k => D.str (sl (wW (ws.getD k 0))) := ⟨_, rfl⟩
  refine xs_cut (fun σ' => σ' = (la, .list (((lfR lo hi (4)).map (ql ss)).map eD)) :: (wa, .list (((ws).map qe).map eD)) :: (L, .ns [(Str.ofString "script", some (D.lst (xs.map D.int))), (Str.ofString "draws", some (D.lst (dr.map fun (x : Nat) => D.int x))), (Str.ofString "seen", some (D.lst (fv.map fun x => seenD x))), (Str.ofString "rows", some (D.lst ((List.range 9).map fun i => D.str (sl (spell ((fv.getD i 0 / 288 : Nat) : Int) (wW (fv.getD i 0 % 9)) ++ [10]))))), (Str.ofString "tokens", some (D.lst (fv.map fun x => D.str (sl (wW (x % 9)))))), (Str.ofString "wishes", some (D.obj wa)), (Str.ofString "left", some (D.obj la)), (Str.ofString "pairs", some (D.lst ((prR lo hi (4)).map fun p => D.tup [D.int (p.1 : Nat), D.int (p.2 : Nat)]))), (Str.ofString "choices", some (D.lst ((chW lo hi (4)).map fun p => chE p))), (Str.ofString "hue", hv), (Str.ofString "low", lv), (Str.ofString "high", gv), (Str.ofString "near", nv), (Str.ofString "spot", sv), (Str.ofString "due", dv), (Str.ofString "ends", some (D.lst ((List.range (pu.length + 2)).map (endD (fun k => D.str (sl (wW (ws.getD k 0)))) pu))))]) :: (c_served, .cell (some (D.lst ((prR lo hi 4).map fun p => D.int (p.1 : Nat))))) :: (c_mine, .cell (mv)) :: (c_ways, .cell (yv)) :: (c_word, .cell (wv)) :: (c_j, .cell (jv)) :: (c_stock, .cell (some (D.lst (ss.map fun (x : Nat) => D.int x)))) :: (c_wanted, .cell (some (D.lst (ws.map fun (x : Nat) => D.int x)))) :: (c_paints, .cell (some (D.lst (ss.map fun s => eD (qe s))))) :: (c_lexer, .cell (some (D.obj a.lx))) :: (c_k, .cell (kv)) :: (c_words, .cell (some (D.lst (fv.map fun x => D.str (sl (wW (x % 9))))))) :: (c_nine, .cell (some (D.lst (fv.map fun (x : Nat) => D.int x)))) :: (c_reach, .cell (some (D.int (r : Nat)))) :: (113, .raw (tabObj tps)) :: LexL a (RT rs 9) (lnT 11 (RT rs 9)) ((puR lo hi (4)).map fun k => D.str (sl (wW (ws.getD k 0))))) ?e2 ?_
  case e2 =>
    kt_at_in
    refine ev_cp (cl := [(Str.ofString "wanted", c_wanted), (Str.ofString "served", c_served)]) O (by kt_at_item) ?_
    kt_at_in
    refine cl_range1 ?_
    refine ⟨_, iter_upto (k := 4) (by kt_len), by simp, fun cenv C O' => ?_⟩
    dsimp only at O'
    refine compL_if (List.range 4) _ (fun k => D.str (sl (wW (ws.getD k 0)))) (freeB lo hi 4) (fun σ => ∃ o, σ = (C, .ns [(Str.ofString ".0", none), (Str.ofString "k", o)]) :: (la, .list (((lfR lo hi (4)).map (ql ss)).map eD)) :: (wa, .list (((ws).map qe).map eD)) :: (L, .ns [(Str.ofString "script", some (D.lst (xs.map D.int))), (Str.ofString "draws", some (D.lst (dr.map fun (x : Nat) => D.int x))), (Str.ofString "seen", some (D.lst (fv.map fun x => seenD x))), (Str.ofString "rows", some (D.lst ((List.range 9).map fun i => D.str (sl (spell ((fv.getD i 0 / 288 : Nat) : Int) (wW (fv.getD i 0 % 9)) ++ [10]))))), (Str.ofString "tokens", some (D.lst (fv.map fun x => D.str (sl (wW (x % 9)))))), (Str.ofString "wishes", some (D.obj wa)), (Str.ofString "left", some (D.obj la)), (Str.ofString "pairs", some (D.lst ((prR lo hi (4)).map fun p => D.tup [D.int (p.1 : Nat), D.int (p.2 : Nat)]))), (Str.ofString "choices", some (D.lst ((chW lo hi (4)).map fun p => chE p))), (Str.ofString "hue", hv), (Str.ofString "low", lv), (Str.ofString "high", gv), (Str.ofString "near", nv), (Str.ofString "spot", sv), (Str.ofString "due", dv), (Str.ofString "ends", none)]) :: (c_served, .cell (some (D.lst ((prR lo hi 4).map fun p => D.int (p.1 : Nat))))) :: (c_mine, .cell (mv)) :: (c_ways, .cell (yv)) :: (c_word, .cell (wv)) :: (c_j, .cell (jv)) :: (c_stock, .cell (some (D.lst (ss.map fun (x : Nat) => D.int x)))) :: (c_wanted, .cell (some (D.lst (ws.map fun (x : Nat) => D.int x)))) :: (c_paints, .cell (some (D.lst (ss.map fun s => eD (qe s))))) :: (c_lexer, .cell (some (D.obj a.lx))) :: (c_k, .cell (kv)) :: (c_words, .cell (some (D.lst (fv.map fun x => D.str (sl (wW (x % 9))))))) :: (c_nine, .cell (some (D.lst (fv.map fun (x : Nat) => D.int x)))) :: (c_reach, .cell (some (D.int (r : Nat)))) :: (113, .raw (tabObj tps)) :: LexL a (RT rs 9) (lnT 11 (RT rs 9)) ((puR lo hi (4)).map fun k => D.str (sl (wW (ws.getD k 0))))) ?te ?fe ⟨none, rfl⟩
    case te =>
      rintro k hk σ ⟨o, rfl⟩
      have hk := List.mem_range.mp hk
      have hwk := hwg k hk
      kt_at_in
      refine co_notin_ints (seq_mapI (fun (p : Nat × Nat) => ((p.1 : Nat) : Int)) _) ?_
      kt_at_in
      refine ⟨rfl, fun _ => ?_, fun _ => ⟨_, rfl⟩⟩
      kt_at_in
      refine gi_lst k (.lst _) rfl (by kt_len) (hwi4 k hk) ?_
      kt_at_in
      refine kpcl_K (kp_137 g) (pure_use (t_word g (by kt_len)) (by kt_len) ⟨rfl, _, rfl⟩)
    case fe =>
      rintro σ ⟨o, rfl⟩
      refine ⟨_, _, rfl, ?_⟩
      rw [pu_filter, ← hpu]
      (refine' ev_list ?_ ?k1; (case k1 => with_unfolding_all rfl))
      kt_at_in
      refine ⟨by simp, ?_⟩
      rw [show Str.ofString "end" = sl [101, 110, 100] by decide +kernel, show Str.ofString "" = sl [] by decide +kernel]
      refine bo_lists (.lst _) (.lst _) (by kt_at_get) (by simp; omega) ?_
      rw [ends_eq]
      kt_at_in
      exact ⟨rfl, rfl⟩
  rintro _ rfl
  rw [show puR lo hi 4 = pu from hpu.symm]
  have hwe : ∀ q, q < 9 → (wordsOf rs ++ [[]]).getD (9 + 0) [] = [101, 110, 100] := fun q hq => by
    rw [hrs0, wordsOf]; rfl
  have hR11 : RT rs 11 = [] := by
    have h := RT_last rs
    rw [hrl] at h
    exact h
  have hw9e : (wordsOf rs ++ [[]]).getD 9 [] = [101, 110, 100] := by rw [hrs0, wordsOf]; rfl
  have hw10 : (wordsOf rs ++ [[]]).getD 10 [] = [] := by rw [hrs0, wordsOf]; rfl
  kt_at_in
  refine ev_cp (cl := [(Str.ofString "lexer", c_lexer)]) O (by kt_at_item) ?_
  kt_at_in
  refine ⟨_, .lst _, by simp; omega, fun cenv C O' => ?_⟩
  dsimp only at O'
  refine compL_upto (pu.length + 2) _ (endD (fun k => D.str (sl (wW (ws.getD k 0)))) pu) (fun q σ => ∃ o, σ = (C, .ns [(Str.ofString ".0", none), (Str.ofString "row", o)]) :: (la, .list (((lfR lo hi (4)).map (ql ss)).map eD)) :: (wa, .list (((ws).map qe).map eD)) :: (L, .ns [(Str.ofString "script", some (D.lst (xs.map D.int))), (Str.ofString "draws", some (D.lst (dr.map fun (x : Nat) => D.int x))), (Str.ofString "seen", some (D.lst (fv.map fun x => seenD x))), (Str.ofString "rows", some (D.lst ((List.range 9).map fun i => D.str (sl (spell ((fv.getD i 0 / 288 : Nat) : Int) (wW (fv.getD i 0 % 9)) ++ [10]))))), (Str.ofString "tokens", some (D.lst (fv.map fun x => D.str (sl (wW (x % 9)))))), (Str.ofString "wishes", some (D.obj wa)), (Str.ofString "left", some (D.obj la)), (Str.ofString "pairs", some (D.lst ((prR lo hi (4)).map fun p => D.tup [D.int (p.1 : Nat), D.int (p.2 : Nat)]))), (Str.ofString "choices", some (D.lst ((chW lo hi (4)).map fun p => chE p))), (Str.ofString "hue", hv), (Str.ofString "low", lv), (Str.ofString "high", gv), (Str.ofString "near", nv), (Str.ofString "spot", sv), (Str.ofString "due", dv), (Str.ofString "ends", some (D.lst ((List.range (pu.length + 2)).map (endD (fun k => D.str (sl (wW (ws.getD k 0)))) pu))))]) :: (c_served, .cell (some (D.lst ((prR lo hi 4).map fun p => D.int (p.1 : Nat))))) :: (c_mine, .cell (mv)) :: (c_ways, .cell (yv)) :: (c_word, .cell (wv)) :: (c_j, .cell (jv)) :: (c_stock, .cell (some (D.lst (ss.map fun (x : Nat) => D.int x)))) :: (c_wanted, .cell (some (D.lst (ws.map fun (x : Nat) => D.int x)))) :: (c_paints, .cell (some (D.lst (ss.map fun s => eD (qe s))))) :: (c_lexer, .cell (some (D.obj a.lx))) :: (c_k, .cell (kv)) :: (c_words, .cell (some (D.lst (fv.map fun x => D.str (sl (wW (x % 9))))))) :: (c_nine, .cell (some (D.lst (fv.map fun (x : Nat) => D.int x)))) :: (c_reach, .cell (some (D.int (r : Nat)))) :: (113, .raw (tabObj tps)) :: LexL a (RT rs (9 + (q - pu.length))) (lnT 11 (RT rs (9 + (q - pu.length)))) ((pu.drop (q)).map fun k => D.str (sl (wW (ws.getD k 0))))) ?te3 ?fe3 ⟨none, by rw [Nat.zero_sub, Nat.add_zero, List.drop_zero]; rfl⟩
  case te3 =>
    rintro q σ hq ⟨o, rfl⟩
    kt_at_in
    (refine' ev_imeth (f := 83) P hf104 ht104 hk104 ?_ ?k1 ?k2 ?k3 ?k4; (case k1 => with_unfolding_all rfl); (case k2 => with_unfolding_all rfl); (case k3 => with_unfolding_all rfl); (case k4 => with_unfolding_all rfl))
    kt_at_in
    refine ⟨a.lx, a.ld, _, _, rfl, by kt_at_get, by kt_at_get, by kt_at_get, ?_⟩
    kt_at_in
    by_cases hqm : q < pu.length
    · have ed : pu.drop q = pu.getD q 0 :: pu.drop (q + 1) := by
        rw [List.drop_eq_getElem_cons hqm]
        simp [hqm]
      have e9 : q + 1 - pu.length = q - pu.length := by kt_len
      rw [ed, e9, List.map_cons]
      refine WI.mono (WI.le (popCall g (by simp; omega) [(C, .ns [(Str.ofString ".0", none), (Str.ofString "row", some (endD (fun k => D.str (sl (wW (ws.getD k 0)))) pu q))]), (la, .list (((lfR lo hi (4)).map (ql ss)).map eD)), (wa, .list (((ws).map qe).map eD)), (L, .ns [(Str.ofString "script", some (D.lst (xs.map D.int))), (Str.ofString "draws", some (D.lst (dr.map fun (x : Nat) => D.int x))), (Str.ofString "seen", some (D.lst (fv.map fun x => seenD x))), (Str.ofString "rows", some (D.lst ((List.range 9).map fun i => D.str (sl (spell ((fv.getD i 0 / 288 : Nat) : Int) (wW (fv.getD i 0 % 9)) ++ [10]))))), (Str.ofString "tokens", some (D.lst (fv.map fun x => D.str (sl (wW (x % 9)))))), (Str.ofString "wishes", some (D.obj wa)), (Str.ofString "left", some (D.obj la)), (Str.ofString "pairs", some (D.lst ((prR lo hi (4)).map fun p => D.tup [D.int (p.1 : Nat), D.int (p.2 : Nat)]))), (Str.ofString "choices", some (D.lst ((chW lo hi (4)).map fun p => chE p))), (Str.ofString "hue", hv), (Str.ofString "low", lv), (Str.ofString "high", gv), (Str.ofString "near", nv), (Str.ofString "spot", sv), (Str.ofString "due", dv), (Str.ofString "ends", some (D.lst ((List.range (pu.length + 2)).map (endD (fun k => D.str (sl (wW (ws.getD k 0)))) pu))))]), (c_served, .cell (some (D.lst ((prR lo hi 4).map fun p => D.int (p.1 : Nat))))), (c_mine, .cell (mv)), (c_ways, .cell (yv)), (c_word, .cell (wv)), (c_j, .cell (jv)), (c_stock, .cell (some (D.lst (ss.map fun (x : Nat) => D.int x)))), (c_wanted, .cell (some (D.lst (ws.map fun (x : Nat) => D.int x)))), (c_paints, .cell (some (D.lst (ss.map fun s => eD (qe s))))), (c_lexer, .cell (some (D.obj a.lx))), (c_k, .cell (kv)), (c_words, .cell (some (D.lst (fv.map fun x => D.str (sl (wW (x % 9))))))), (c_nine, .cell (some (D.lst (fv.map fun (x : Nat) => D.int x)))), (c_reach, .cell (some (D.int (r : Nat)))), (113, .raw (tabObj tps))]).cl (by kt_len)) fun d σ' hd => ?_
      obtain ⟨rfl, rfl⟩ := hd
      exact ⟨by unfold endD; rw [if_pos hqm], _, rfl⟩
    · have ed : pu.drop q = [] := List.drop_eq_nil_of_le (by kt_len)
      have ed1 : pu.drop (q + 1) = [] := List.drop_eq_nil_of_le (by kt_len)
      have htk := RT_step hrs (show 9 + (q - pu.length) < rs.length + 1 by kt_len)
      have e9 : 9 + (q + 1 - pu.length) = 9 + (q - pu.length) + 1 := by kt_len
      rw [ed, ed1, e9, List.map_nil]
      refine WI.mono (WI.le (gtCall g ha (T := 11) htk (hrr _) [(C, .ns [(Str.ofString ".0", none), (Str.ofString "row", some (endD (fun k => D.str (sl (wW (ws.getD k 0)))) pu q))]), (la, .list (((lfR lo hi (4)).map (ql ss)).map eD)), (wa, .list (((ws).map qe).map eD)), (L, .ns [(Str.ofString "script", some (D.lst (xs.map D.int))), (Str.ofString "draws", some (D.lst (dr.map fun (x : Nat) => D.int x))), (Str.ofString "seen", some (D.lst (fv.map fun x => seenD x))), (Str.ofString "rows", some (D.lst ((List.range 9).map fun i => D.str (sl (spell ((fv.getD i 0 / 288 : Nat) : Int) (wW (fv.getD i 0 % 9)) ++ [10]))))), (Str.ofString "tokens", some (D.lst (fv.map fun x => D.str (sl (wW (x % 9)))))), (Str.ofString "wishes", some (D.obj wa)), (Str.ofString "left", some (D.obj la)), (Str.ofString "pairs", some (D.lst ((prR lo hi (4)).map fun p => D.tup [D.int (p.1 : Nat), D.int (p.2 : Nat)]))), (Str.ofString "choices", some (D.lst ((chW lo hi (4)).map fun p => chE p))), (Str.ofString "hue", hv), (Str.ofString "low", lv), (Str.ofString "high", gv), (Str.ofString "near", nv), (Str.ofString "spot", sv), (Str.ofString "due", dv), (Str.ofString "ends", some (D.lst ((List.range (pu.length + 2)).map (endD (fun k => D.str (sl (wW (ws.getD k 0)))) pu))))]), (c_served, .cell (some (D.lst ((prR lo hi 4).map fun p => D.int (p.1 : Nat))))), (c_mine, .cell (mv)), (c_ways, .cell (yv)), (c_word, .cell (wv)), (c_j, .cell (jv)), (c_stock, .cell (some (D.lst (ss.map fun (x : Nat) => D.int x)))), (c_wanted, .cell (some (D.lst (ws.map fun (x : Nat) => D.int x)))), (c_paints, .cell (some (D.lst (ss.map fun s => eD (qe s))))), (c_lexer, .cell (some (D.obj a.lx))), (c_k, .cell (kv)), (c_words, .cell (some (D.lst (fv.map fun x => D.str (sl (wW (x % 9))))))), (c_nine, .cell (some (D.lst (fv.map fun (x : Nat) => D.int x)))), (c_reach, .cell (some (D.int (r : Nat)))), (113, .raw (tabObj tps))]).cl (by kt_len)) fun d σ' hd => ?_
      obtain ⟨rfl, rfl⟩ := hd
      refine ⟨?_, _, rfl⟩
      unfold endD
      rw [if_neg hqm]
      rcases (show q = pu.length ∨ q = pu.length + 1 by kt_len) with rfl | rfl
      · rw [if_pos rfl, Nat.sub_self, hw9e]
      · rw [if_neg (by kt_len), show 9 + (pu.length + 1 - pu.length) = 10 by kt_len, hw10]
  case fe3 =>
    rintro σ ⟨o, rfl⟩
    refine ⟨_, _, rfl, ?_⟩
    rw [show 9 + (pu.length + 2 - pu.length) = 11 by kt_len, hR11]
    kt_at_in
    refine co_eq_lists (.lst _) (.lst _) (fun d hd => ?_) ?_
    · obtain ⟨x, _, rfl⟩ := List.mem_map.mp hd
      unfold endD
      (repeat' split) <;> exact .str _ _
    kt_at_in
    refine ⟨fun _ => ?_, (by kt_eqs)⟩
    kt_at_in
    refine ⟨[(113, .raw (tabObj tps))], ?_, congrArg D.bool (by decide), tps, rfl⟩
    (repeat (first | exact List.Sublist.cons_cons _ (List.nil_sublist _) | apply List.Sublist.cons))
end Mine
set_option maxHeartbeats 8000000
theorem PySem.Challenge.cw_sc0081_02_holds : PySem.Challenge.rw_sc0081_02.Holds :=
  Mine.hd (by
  k_fill
  intro w s₀ s₁ mg mb G Y fa o pm cd doc dV kV ho hd hcd hD hmg hg args vals as hpre hlay hrd hwl hlo
  have KX := km_in_of Y
  km_tabs Y
  have X := (Ground.X G).1
  have V := (Ground.X G).2
  refine Ground.open G ?_
  intro T B D TE TW
  have hfa : fa = 149 := by
    have e := mg_of KX T.g (n := PySem.Str.ofString "law") (v := .ref 149) (by kernel_rfl)
    have e2 := hmg.symm.trans e
    injection e2 with e3
    injection e3
  try (refine guard_noD D (by decide +kernel) ?_; clear D)
  km_lay T hmg ho hd cd
  clear hmg
  wrow_args hpre hlay hrd hwl hlo
  all_goals (
    first | refine callC_kw (enter_call ?_) | refine enter_call ?_
    w_top on
    kn_posts
    subst hfa
    refine Mine.law_run T KX (by kernel_rfl) hT9 (by kernel_rfl) (by assumption) (by assumption) (fun G hK hw hc => Mine.t149 (G := G) ⟨by rw [hK, hw], hc⟩ (by kt_len)) fun s' hk hos hgs hgr => ⟨?_, hgr⟩
    exact ⟨.inl ⟨.bool true, .bool true, [], rfl, fun _ => rfl, .bool _, by with_unfolding_all rfl, fun _ => ⟨.nil, fun a ha => nomatch ha⟩⟩, hk, hos, hgs.trans hg⟩))

