import PyProof.Rows.All
import Wide.All
import OpenK.AllK
import Wide.FinOn
import PySem.Challenge.RW_wy0023_01
set_option Elab.async false
set_option maxRecDepth 100000
set_option maxHeartbeats 4000000
set_option linter.unusedVariables false
set_option genSizeOf false
set_option compiler.extract_closed false
section
open PySem PySem.Calls PyProof.Rows
namespace Mine
section
structure Wd where
  Z : Addr → Option Obj
  τ : Tok → Option Str

noncomputable def Wd.le (W W' : Wd) : Prop := (∀ a o, W.Z a = some o → W'.Z a = some o) ∧ (∀ t x, W.τ t = some x → W'.τ t = some x)
theorem Wd.le.refl (W : Wd) : W.le W := ⟨fun _ _ h => h, fun _ _ h => h⟩
theorem Wd.le.trans {W W' W'' : Wd} (h : W.le W') (h' : W'.le W'') : W.le W'' := ⟨fun a o x => h'.1 a o (h.1 a o x), fun a o x => h'.2 a o (h.2 a o x)⟩

inductive V where
  | none
  | bool (b : Bool)
  | int (i : Int)
  | str (s : Str)
  | txt (s : Str)
  | bytes (b : List UInt8)
  | ref (a : Addr)
  | type (n : String)
  | bi (id : String)
  | fn (x : Str)
  | lst (vs : List V)
  | tup (vs : List V)
  | dct (ks : List Str) (vs : List V)
  | clo (x : Str) (cs : List (Str × Addr))

structure Def where
  name : Str
  params : Arguments
  body : List Stmt
  scope : Scope

structure Fx where
  prog : Program
  w : World
  mg : Str → Option Value
  nested : Str → Option Def
  hb : Heap
  os : OsState

noncomputable def KeysR (X : Fx) (W : Wd) : List DictEntry → List Str → Prop
  | [], [] => True
  | e :: es, k :: r => (∃ t, e.key = .str k t ∧ t ≠ 0 ∧ W.τ t = some k) ∧ e.hash = hashStr X.w k ∧ KeysR X W es r
  | _, _ => False
theorem KeysR.mono {X : Fx} {W W' : Wd} (h : W.le W') : ∀ {es : List DictEntry} {r : List Str}, KeysR X W es r → KeysR X W' es r
  | [], [], _ => trivial
  | _ :: _, _ :: _, x => ⟨let ⟨t, h1, h2, h3⟩ := x.1; ⟨t, h1, h2, h.2 _ _ h3⟩, x.2.1, KeysR.mono h x.2.2⟩
  | [], _ :: _, x => x.elim
  | _ :: _, [], x => x.elim

mutual
noncomputable def Is (X : Fx) (W : Wd) (v : Value) : V → Prop
  | .none => v = .none
  | .bool b => v = .bool b
  | .int i => ∃ t, v = .int i t
  | .str s => ∃ t, v = .str s t ∧ t ≠ 0 ∧ W.τ t = some s
  | .txt s => ∃ t, v = .str s t
  | .bytes b => ∃ t, v = .bytes b.toArray t
  | .ref a => v = .ref a
  | .type n => v = .type n
  | .bi id => v = .builtin id
  | .fn x => ∃ a, v = .ref a ∧ X.mg x = some (.ref a)
  | .lst vs => ∃ a o ws n, v = .ref a ∧ W.Z a = some o ∧ o.cls = .type "list" ∧ o.data = .seq ws n ∧ IsL X W ws.toList vs
  | .tup vs => ∃ a o ws n, v = .ref a ∧ W.Z a = some o ∧ o.cls = .type "tuple" ∧ o.data = .seq ws n ∧ IsL X W ws.toList vs
  | .dct ks vs => ∃ a o es n, v = .ref a ∧ W.Z a = some o ∧ o.ExactDict ∧ o.data = .dict es n ∧ KeysR X W es.toList ks ∧ ks.Nodup ∧ IsL X W (es.toList.map (·.val)) vs ∧ (a == sysModules) = false
  | .clo x cs => ∃ a o doc pm c' ctv d oc vs t, v = .ref a ∧ W.Z a = some o ∧ X.nested x = some d ∧ o.data = .func (PySem.W.fnX d.name x d.params d.body d.scope cs .none .none doc pm none (.ref c') ctv) ∧ W.Z c' = some oc ∧ oc.data = .fields vs ∧ vs[1]? = some (.str x t)
noncomputable def IsL (X : Fx) (W : Wd) (ws : List Value) : List V → Prop
  | [] => ws = []
  | b :: bs => ∃ w r, ws = w :: r ∧ Is X W w b ∧ IsL X W r bs
end

mutual
theorem Is.mono {X : Fx} {W W' : Wd} (h : W.le W') {v : Value} : (b : V) → Is X W v b → Is X W' v b
  | .none, x => by simpa only [Is] using x
  | .bool b, x => by simpa only [Is] using x
  | .int i, x => by simpa only [Is] using x
  | .str s, x => by
    simp only [Is] at x ⊢
    obtain ⟨t, h1, h2, h3⟩ := x; exact ⟨t, h1, h2, h.2 _ _ h3⟩
  | .txt s, x => by simpa only [Is] using x
  | .bytes b, x => by simpa only [Is] using x
  | .ref a, x => by simpa only [Is] using x
  | .type n, x => by simpa only [Is] using x
  | .bi id, x => by simpa only [Is] using x
  | .fn n, x => by simpa only [Is] using x
  | .lst vs, x => by
    simp only [Is] at x ⊢
    obtain ⟨a, o, ws, n, h1, h2, h3, h4, h5⟩ := x; exact ⟨a, o, ws, n, h1, h.1 _ _ h2, h3, h4, IsL.mono h vs h5⟩
  | .tup vs, x => by
    simp only [Is] at x ⊢
    obtain ⟨a, o, ws, n, h1, h2, h3, h4, h5⟩ := x; exact ⟨a, o, ws, n, h1, h.1 _ _ h2, h3, h4, IsL.mono h vs h5⟩
  | .dct ks vs, x => by
    simp only [Is] at x ⊢
    obtain ⟨a, o, es, n, h1, h2, h3, h4, h5, h6, h7, h8⟩ := x; exact ⟨a, o, es, n, h1, h.1 _ _ h2, h3, h4, h5.mono h, h6, IsL.mono h vs h7, h8⟩
  | .clo n cs, x => by
    simp only [Is] at x ⊢
    obtain ⟨a, o, doc, pm, c', ctv, d, oc, vs, t, h1, h2, h3, h4, h5, h6⟩ := x; exact ⟨a, o, doc, pm, c', ctv, d, oc, vs, t, h1, h.1 _ _ h2, h3, h4, h.1 _ _ h5, h6⟩
theorem IsL.mono {X : Fx} {W W' : Wd} (h : W.le W') {ws : List Value} : (bs : List V) → IsL X W ws bs → IsL X W' ws bs
  | [], x => by simpa only [IsL] using x
  | b :: bs, x => by
    simp only [IsL] at x ⊢
    obtain ⟨w, r, h1, h2, h3⟩ := x; exact ⟨w, r, h1, Is.mono h b h2, IsL.mono h bs h3⟩
end

section
variable {X : Fx} {W : Wd}
theorem IsL.nil : IsL X W [] [] := by simp only [IsL]
theorem IsL.cons {w : Value} {ws : List Value} {b : V} {bs : List V} (h : Is X W w b) (h' : IsL X W ws bs) : IsL X W (w :: ws) (b :: bs) := by
  simp only [IsL]; exact ⟨w, ws, rfl, h, h'⟩
theorem IsL.length {ws : List Value} {bs : List V} (h : IsL X W ws bs) : ws.length = bs.length := by
  induction bs generalizing ws with
  | nil => simp only [IsL] at h; subst h; rfl
  | cons b bs ih =>
    simp only [IsL] at h
    obtain ⟨w, r, rfl, _, h3⟩ := h
    simp only [List.length_cons, ih h3]
theorem IsL.get {ws : List Value} {bs : List V} (h : IsL X W ws bs) {i : Nat} {b : V} (hb : bs[i]? = some b) : ∃ w, ws[i]? = some w ∧ Is X W w b := by
  induction bs generalizing ws i with
  | nil => simp at hb
  | cons c bs ih =>
    simp only [IsL] at h
    obtain ⟨w, r, rfl, h2, h3⟩ := h
    cases i with
    | zero => simp at hb; subst hb; exact ⟨w, rfl, h2⟩
    | succ i => simpa using ih h3 (by simpa using hb)
theorem IsL.append {ws ws' : List Value} {bs bs' : List V} (h : IsL X W ws bs) (h' : IsL X W ws' bs') : IsL X W (ws ++ ws') (bs ++ bs') := by
  induction bs generalizing ws with
  | nil => simp only [IsL] at h; subst h; exact h'
  | cons c bs ih =>
    simp only [IsL] at h
    obtain ⟨w, r, rfl, h2, h3⟩ := h
    exact IsL.cons h2 (ih h3)
theorem IsL.set {ws : List Value} {bs : List V} (h : IsL X W ws bs) (i : Nat) {w : Value} {b : V} (hw : Is X W w b) : IsL X W (ws.set i w) (bs.set i b) := by
  induction bs generalizing ws i with
  | nil => simp only [IsL] at h; subst h; exact IsL.nil
  | cons c bs ih =>
    simp only [IsL] at h
    obtain ⟨w', r, rfl, h2, h3⟩ := h
    cases i with
    | zero => exact IsL.cons hw h3
    | succ i => exact IsL.cons h2 (ih h3 i)
theorem IsL.drop {ws : List Value} {bs : List V} (h : IsL X W ws bs) (n : Nat) : IsL X W (ws.drop n) (bs.drop n) := by
  induction n generalizing ws bs with
  | zero => exact h
  | succ n ih =>
    cases bs with
    | nil => simp only [IsL] at h; subst h; exact IsL.nil
    | cons c bs =>
      simp only [IsL] at h
      obtain ⟨w', r, rfl, h2, h3⟩ := h
      exact ih h3
theorem IsL.take {ws : List Value} {bs : List V} (h : IsL X W ws bs) (n : Nat) : IsL X W (ws.take n) (bs.take n) := by
  induction n generalizing ws bs with
  | zero => exact IsL.nil
  | succ n ih =>
    cases bs with
    | nil => simp only [IsL] at h; subst h; exact IsL.nil
    | cons c bs =>
      simp only [IsL] at h
      obtain ⟨w', r, rfl, h2, h3⟩ := h
      exact IsL.cons h2 (ih h3)
theorem IsL.reverse {ws : List Value} {bs : List V} (h : IsL X W ws bs) : IsL X W ws.reverse bs.reverse := by
  induction bs generalizing ws with
  | nil => simp only [IsL] at h; subst h; exact IsL.nil
  | cons c bs ih =>
    simp only [IsL] at h
    obtain ⟨w', r, rfl, h2, h3⟩ := h
    simp only [List.reverse_cons]
    exact (ih h3).append (IsL.cons h2 IsL.nil)
end

inductive AO where
  | ns (m : List (Str × V))
  | cell (v : Option V)
  | list (vs : List V)
  | dict (es : List (Str × V))
  | barr (b : List UInt8)
  | tab (pos : Pos) (qual : Str)

noncomputable def OptIs (X : Fx) (W : Wd) : Option Value → Option V → Prop
  | some v, some b => Is X W v b
  | none, none => True
  | _, _ => False
theorem OptIs.mono {X : Fx} {W W' : Wd} (h : W.le W') : ∀ {v : Option Value} {b : Option V}, OptIs X W v b → OptIs X W' v b
  | some _, some _, x => Is.mono h _ x
  | none, none, _ => trivial
  | none, some _, x => x.elim
  | some _, none, x => x.elim


noncomputable def EntR (X : Fx) (W : Wd) : List DictEntry → List (Str × V) → Prop
  | [], [] => True
  | e :: es, (k, b) :: r => (∃ t, e.key = .str k t ∧ t ≠ 0 ∧ W.τ t = some k) ∧ e.hash = hashStr X.w k ∧ Is X W e.val b ∧ EntR X W es r
  | _, _ => False

theorem EntR.mono {X : Fx} {W W' : Wd} (h : W.le W') : ∀ {es : List DictEntry} {r : List (Str × V)}, EntR X W es r → EntR X W' es r
  | [], [], _ => trivial
  | _ :: _, (_, _) :: _, x => ⟨let ⟨t, h1, h2, h3⟩ := x.1; ⟨t, h1, h2, h.2 _ _ h3⟩, x.2.1, x.2.2.1.mono h, EntR.mono h x.2.2.2⟩
  | [], _ :: _, x => x.elim
  | _ :: _, [], x => x.elim

noncomputable def ObjR (X : Fx) (W : Wd) (h : Heap) (a : Addr) : AO → Prop
  | .ns m => ∃ mc, h.Ns a mc ∧ ∀ x b, m.lookup x = some b → ∃ v, mc x = some v ∧ Is X W v b
  | .cell v => ∃ vo, h.IsCell a vo ∧ OptIs X W vo v
  | .list vs => ∃ ws n, h.get? a = some (seqObj "list" ws n) ∧ IsL X W ws.toList vs
  | .dict r => ∃ o es n, h.get? a = some o ∧ o.ExactDict ∧ o.data = .dict es n ∧ EntR X W es.toList r ∧ (r.map (·.1)).Nodup ∧ (a == sysModules) = false
  | .barr b => ∃ o, h.get? a = some o ∧ o.cls = .type "bytearray" ∧ o.data = .bytearray b.toArray 0
  | .tab pos qual => ∃ ps, h.get? a = some (PySem.W.tabObj ps) ∧ (ps = #[] ∨ ∃ c' oc vs t, ps = #[rawInt pos.line, rawInt pos.col, .ref c'] ∧ W.Z c' = some oc ∧ oc.data = .fields vs ∧ vs[1]? = some (.str qual t))

theorem ObjR.mono {X : Fx} {W W' : Wd} (h : W.le W') {hp : Heap} {a : Addr} : ∀ {o : AO}, ObjR X W hp a o → ObjR X W' hp a o
  | .ns _, ⟨mc, h1, h2⟩ => ⟨mc, h1, fun x b e => let ⟨v, h3, h4⟩ := h2 x b e; ⟨v, h3, h4.mono h⟩⟩
  | .cell _, ⟨vo, h1, h2⟩ => ⟨vo, h1, h2.mono h⟩
  | .list _, ⟨ws, n, h1, h4⟩ => ⟨ws, n, h1, h4.mono h⟩
  | .dict _, ⟨o, es, n, h1, h2, h3, h4, h5⟩ => ⟨o, es, n, h1, h2, h3, h4.mono h, h5⟩
  | .barr _, x => x
  | .tab _ _, ⟨ps, h1, h2⟩ => ⟨ps, h1, h2.imp id fun ⟨c', oc, vs, t, h3, h4, h5⟩ => ⟨c', oc, vs, t, h3, h.1 _ _ h4, h5⟩⟩

theorem ObjR.at {X : Fx} {W : Wd} {hp hp' : Heap} {a : Addr} (h : ∀ o, hp.get? a = some o → hp'.get? a = some o) : ∀ {o : AO}, ObjR X W hp a o → ObjR X W hp' a o
  | .ns _, ⟨mc, ⟨o, es, ep, h1, h2⟩, h3⟩ => ⟨mc, ⟨o, es, ep, h _ h1, h2⟩, h3⟩
  | .cell _, ⟨vo, ⟨o, h1, h2⟩, h3⟩ => ⟨vo, ⟨o, h _ h1, h2⟩, h3⟩
  | .list _, ⟨ws, n, h1, h2⟩ => ⟨ws, n, h _ h1, h2⟩
  | .dict _, ⟨o, es, n, h1, h2⟩ => ⟨o, es, n, h _ h1, h2⟩
  | .barr _, ⟨o, h1, h2⟩ => ⟨o, h _ h1, h2⟩
  | .tab _ _, ⟨ps, h1, h2⟩ => ⟨ps, h _ h1, h2⟩

theorem ObjR.some {X : Fx} {W : Wd} {hp : Heap} {a : Addr} : ∀ {o : AO}, ObjR X W hp a o → ∃ ob, hp.get? a = some ob
  | .ns _, ⟨_, ⟨o, _, _, h1, _⟩, _⟩ => ⟨o, h1⟩
  | .cell _, ⟨_, ⟨o, h1, _⟩, _⟩ => ⟨o, h1⟩
  | .list _, ⟨_, _, h1, _⟩ => ⟨_, h1⟩
  | .dict _, ⟨o, _, _, h1, _⟩ => ⟨o, h1⟩
  | .barr _, ⟨o, h1, _⟩ => ⟨o, h1⟩
  | .tab _ _, ⟨_, h1, _⟩ => ⟨_, h1⟩

noncomputable abbrev HS := List (Addr × AO)

structure Rel (X : Fx) (B : Addr → Option Obj) (W : Wd) (hs : HS) (s : Shared) : Prop where
  hb : ∀ b o, X.hb.get? b = some o → B b = some o
  base : ∀ b o, B b = some o → s.heap.get? b = some o
  froz : ∀ b o, W.Z b = some o → s.heap.get? b = some o
  sep : ∀ b o, W.Z b = some o → B b = none ∨ X.hb.get? b = some o
  objs : ∀ a o, (a, o) ∈ hs → ObjR X W s.heap a o
  nodup : hs.Pairwise fun p q => p.1 ≠ q.1
  apB : ∀ a o, (a, o) ∈ hs → B a = none
  apZ : ∀ a o, (a, o) ∈ hs → W.Z a = none
  tok : ∀ t x, W.τ t = some x → t < s.toks
  pos : 0 < s.toks
  gens : s.gens = #[]
  os : s.os = X.os

inductive Upd : HS → Addr → AO → AO → HS → Prop
  | here {a o o' r} : Upd ((a, o) :: r) a o o' ((a, o') :: r)
  | there {a o o' p r r'} : Upd r a o o' r' → Upd (p :: r) a o o' (p :: r')

theorem Upd.mem {hs hs' : HS} {a : Addr} {o o' : AO} (u : Upd hs a o o' hs') : (a, o) ∈ hs := by
  induction u with
  | here => exact List.mem_cons_self
  | there _ ih => exact List.mem_cons_of_mem _ ih
theorem Upd.mem' {hs hs' : HS} {a : Addr} {o o' : AO} (u : Upd hs a o o' hs') : ∀ b p, (b, p) ∈ hs' → (b = a ∧ p = o') ∨ (b, p) ∈ hs := by
  induction u with
  | here =>
    intro b p hm
    rcases List.mem_cons.mp hm with e | hm
    · cases e; exact .inl ⟨rfl, rfl⟩
    · exact .inr (List.mem_cons_of_mem _ hm)
  | there _ ih =>
    intro b p hm
    rcases List.mem_cons.mp hm with e | hm
    · subst e; exact .inr List.mem_cons_self
    · rcases ih b p hm with h | h
      · exact .inl h
      · exact .inr (List.mem_cons_of_mem _ h)
theorem Upd.keys {hs hs' : HS} {a : Addr} {o o' : AO} (u : Upd hs a o o' hs') : hs'.map (·.1) = hs.map (·.1) := by
  induction u with
  | here => rfl
  | there _ ih => simp [ih]
theorem pairwise_keys {hs : HS} : (hs.Pairwise fun p q => p.1 ≠ q.1) ↔ (hs.map (·.1)).Nodup := by
  rw [List.Nodup, List.pairwise_map]

namespace Rel
variable {X : Fx} {B : Addr → Option Obj} {W : Wd} {hs hs' : HS} {s : Shared}

theorem none_size (r : Rel X B W hs s) : B s.heap.objs.size = none ∧ W.Z s.heap.objs.size = none ∧ ∀ o, (s.heap.objs.size, o) ∉ hs := by
  refine ⟨?_, ?_, ?_⟩
  · cases h : B s.heap.objs.size with
    | none => rfl
    | some o => exact absurd (Heap.lt_size (r.base _ _ h)) (Nat.lt_irrefl _)
  · cases h : W.Z s.heap.objs.size with
    | none => rfl
    | some o => exact absurd (Heap.lt_size (r.froz _ _ h)) (Nat.lt_irrefl _)
  · intro o hm
    obtain ⟨ob, h⟩ := (r.objs _ _ hm).some
    exact absurd (Heap.lt_size h) (Nat.lt_irrefl _)

theorem keeps (r : Rel X B W hs s) {h' : Heap} {tk : Nat} (hk : ∀ b o, s.heap.get? b = some o → h'.get? b = some o) (ht : s.toks ≤ tk) : Rel X B W hs { s with heap := h', toks := tk } where
  hb := r.hb
  base := fun b o e => hk _ _ (r.base b o e)
  froz := fun b o e => hk _ _ (r.froz b o e)
  sep := r.sep
  objs := fun a o hm => (r.objs a o hm).at (hk a)
  nodup := r.nodup
  apB := r.apB
  apZ := r.apZ
  tok := fun t x e => Nat.lt_of_lt_of_le (r.tok t x e) ht
  pos := Nat.lt_of_lt_of_le r.pos ht
  gens := r.gens
  os := r.os
theorem toks (r : Rel X B W hs s) {tk : Nat} (ht : s.toks ≤ tk) : Rel X B W hs { s with toks := tk } := r.keeps (fun _ _ e => e) ht
theorem push (r : Rel X B W hs s) (o : Obj) : Rel X B W hs { s with heap := s.heap.push o } := r.keeps (fun _ _ e => Heap.get?_push_of_some _ e) (Nat.le_refl _)

theorem new (r : Rel X B W hs s) {o : Obj} {ao : AO} (ho : ObjR X W (s.heap.push o) s.heap.objs.size ao) : Rel X B W ((s.heap.objs.size, ao) :: hs) { s with heap := s.heap.push o } := by
  have r' := r.push o
  have n := r.none_size
  exact { r' with
    objs := fun a p hm => by
      rcases List.mem_cons.mp hm with e | hm
      · cases e; exact ho
      · exact r'.objs a p hm
    nodup := List.pairwise_cons.mpr ⟨fun q hq e => n.2.2 q.2 (by rw [show s.heap.objs.size = q.1 from e]; exact hq), r.nodup⟩
    apB := fun a p hm => by
      rcases List.mem_cons.mp hm with e | hm
      · cases e; exact n.1
      · exact r.apB a p hm
    apZ := fun a p hm => by
      rcases List.mem_cons.mp hm with e | hm
      · cases e; exact n.2.1
      · exact r.apZ a p hm }

noncomputable def _root_.Mine.Wd.froze (W : Wd) (a : Addr) (o : Obj) : Wd := { W with Z := fun b => if b = a then Option.some o else W.Z b }
theorem _root_.Mine.Wd.le_froze {W : Wd} {a : Addr} {o : Obj} (h : W.Z a = none) : W.le (W.froze a o) :=
  ⟨fun b p e => by
    show (if b = a then _ else _) = _
    by_cases hb : b = a
    · subst hb; rw [h] at e; cases e
    · rw [if_neg hb]; exact e, fun _ _ e => e⟩
theorem _root_.Mine.Wd.froze_self {W : Wd} {a : Addr} {o : Obj} : (W.froze a o).Z a = Option.some o := by simp [Wd.froze]

theorem newZ (r : Rel X B W hs s) (o : Obj) (hf : o.isFreed = false := by rfl) : W.le (W.froze s.heap.objs.size o) ∧ Rel X B (W.froze s.heap.objs.size o) hs { s with heap := s.heap.push o } := by
  have n := r.none_size
  have le := Wd.le_froze (o := o) n.2.1
  have r' := r.push o
  refine ⟨le, { r' with froz := fun b p e => ?_, sep := fun b p e => ?_, objs := fun a p hm => (r'.objs a p hm).mono le, apZ := fun a p hm => ?_ }⟩
  · by_cases hb : b = s.heap.objs.size
    · subst hb
      rw [Wd.froze_self] at e; cases e
      exact Heap.get?_push_size _ hf
    · exact r'.froz b p (by simpa [Wd.froze, hb] using e)
  · by_cases hb : b = s.heap.objs.size
    · subst hb; exact .inl n.1
    · exact r.sep b p (by simpa [Wd.froze, hb] using e)
  · have hne : a ≠ s.heap.objs.size := fun e => n.2.2 p (e ▸ hm)
    simpa [Wd.froze, hne] using r.apZ a p hm

theorem freeze (r : Rel X B W hs s) {a : Addr} {ao : AO} {rest : HS} (hm : hs = (a, ao) :: rest) {o : Obj} (ho : s.heap.get? a = some o) : W.le (W.froze a o) ∧ Rel X B (W.froze a o) rest s := by
  subst hm
  have hz := r.apZ a ao List.mem_cons_self
  have le := Wd.le_froze (o := o) hz
  obtain ⟨hne, hnd⟩ := List.pairwise_cons.mp r.nodup
  refine ⟨le, { r with froz := fun b p e => ?_, sep := fun b p e => ?_, objs := fun c p hc => (r.objs c p (List.mem_cons_of_mem _ hc)).mono le, nodup := hnd, apB := fun c p hc => r.apB c p (List.mem_cons_of_mem _ hc), apZ := fun c p hc => ?_, tok := r.tok }⟩
  · by_cases hb : b = a
    · subst hb
      rw [Wd.froze_self] at e; cases e; exact ho
    · exact r.froz b p (by simpa [Wd.froze, hb] using e)
  · by_cases hb : b = a
    · subst hb; exact .inl (r.apB b ao List.mem_cons_self)
    · exact r.sep b p (by simpa [Wd.froze, hb] using e)
  · have hca : c ≠ a := fun e => hne (c, p) hc e.symm
    simpa [Wd.froze, hca] using r.apZ c p (List.mem_cons_of_mem _ hc)

theorem perm (r : Rel X B W hs s) (h : hs.Perm hs') : Rel X B W hs' s :=
  { r with objs := fun a o hm => r.objs a o (h.mem_iff.mpr hm), apB := fun a o hm => r.apB a o (h.mem_iff.mpr hm), apZ := fun a o hm => r.apZ a o (h.mem_iff.mpr hm)
           nodup := (h.pairwise_iff (fun h => Ne.symm h)).mp r.nodup }
theorem sub (r : Rel X B W hs s) (h : List.Sublist hs' hs) : Rel X B W hs' s :=
  { r with objs := fun a o hm => r.objs a o (h.subset hm), apB := fun a o hm => r.apB a o (h.subset hm), apZ := fun a o hm => r.apZ a o (h.subset hm), nodup := r.nodup.sublist h }

theorem upd (r : Rel X B W hs s) {a : Addr} {o o' : AO} (u : Upd hs a o o' hs') {h' : Heap} {tk : Nat} (hb : Heap.SameBut a s.heap h') (ht : s.toks ≤ tk) (ho : ObjR X W h' a o') : Rel X B W hs' { s with heap := h', toks := tk } := by
  have ha := u.mem
  have hB := r.apB a o ha
  have hZ := r.apZ a o ha
  have hnd : (hs'.map (·.1)).Nodup := u.keys ▸ pairwise_keys.mp r.nodup
  refine { r with base := fun b p e => (hb.2 b (fun q => by subst q; rw [hB] at e; cases e)).trans (r.base b p e), froz := fun b p e => (hb.2 b (fun q => by subst q; rw [hZ] at e; cases e)).trans (r.froz b p e), objs := fun b p hm => ?_, nodup := pairwise_keys.mpr hnd, apB := fun b p hm => ?_, apZ := fun b p hm => ?_, tok := fun t x e => Nat.lt_of_lt_of_le (r.tok t x e) ht, pos := Nat.lt_of_lt_of_le r.pos ht }
  · by_cases hba : b = a
    · subst hba
      rcases u.mem' b p hm with ⟨_, rfl⟩ | hm'
      · exact ho
      · -- the key stands once
        have : ∀ {hs hs' : HS} {a : Addr} {o o' : AO}, Upd hs a o o' hs' → (hs'.map (·.1)).Nodup → ∀ p, (a, p) ∈ hs' → p = o' := by
          intro hs hs' a o o' u
          induction u with
          | @here a o o' r =>
            intro hn p hp
            rcases List.mem_cons.mp hp with e | hp
            · cases e; rfl
            · exact absurd (List.mem_map.mpr ⟨(a, p), hp, rfl⟩) (List.nodup_cons.mp hn).1
          | @there a o o' q r r' u ih =>
            intro hn p hp
            rcases List.mem_cons.mp hp with e | hp
            · subst e
              have : a ∈ r'.map (·.1) := by rw [u.keys]; exact List.mem_map.mpr ⟨_, u.mem, rfl⟩
              exact absurd this (List.nodup_cons.mp hn).1
            · exact ih (List.nodup_cons.mp hn).2 p hp
        rw [this u hnd p hm]; exact ho
    · rcases u.mem' b p hm with ⟨e, _⟩ | hm'
      · exact absurd e hba
      · exact (r.objs b p hm').at fun o e => (hb.2 b hba).trans e
  · rcases u.mem' b p hm with ⟨e, _⟩ | hm'
    · subst e; exact hB
    · exact r.apB b p hm'
  · rcases u.mem' b p hm with ⟨e, _⟩ | hm'
    · subst e; exact hZ
    · exact r.apZ b p hm'

noncomputable def _root_.Mine.holdB (B : Addr → Option Obj) (a : Addr) (o : Obj) : Addr → Option Obj := fun b => if b = a then Option.some o else B b
theorem hold (r : Rel X B W hs s) {a : Addr} {o : Obj} (ho : s.heap.get? a = some o) (hB : B a = none) (hZ : W.Z a = none) (hh : ∀ p, (a, p) ∉ hs) : Rel X (holdB B a o) W hs s :=
  { r with
    hb := fun b p e => by
      have := r.hb b p e
      by_cases hb : b = a
      · subst hb; rw [hB] at this; cases this
      · simpa [holdB, hb] using this
    base := fun b p e => by
      by_cases hb : b = a
      · subst hb
        simp only [holdB, if_true] at e; cases e; exact ho
      · exact r.base b p (by simpa [holdB, hb] using e)
    sep := fun b p e => by
      by_cases hb : b = a
      · subst hb; rw [hZ] at e; cases e
      · simpa [holdB, hb] using r.sep b p e
    apB := fun b p hm => by
      by_cases hb : b = a
      · subst hb; exact absurd hm (hh p)
      · simpa [holdB, hb] using r.apB b p hm }
theorem unhold {a : Addr} {o : Obj} (r : Rel X (holdB B a o) W hs s) (hb : ∀ b o, X.hb.get? b = Option.some o → B b = Option.some o) (hB : B a = none) : Rel X B W hs s ∧ s.heap.get? a = Option.some o ∧ W.Z a = none ∧ ∀ p, (a, p) ∉ hs := by
  have hself : holdB B a o a = Option.some o := by simp [holdB]
  have sub : ∀ b p, B b = Option.some p → holdB B a o b = Option.some p := fun b p e => by
    have hne : b ≠ a := fun q => by rw [q, hB] at e; cases e
    simpa [holdB, hne] using e
  have none' : ∀ b, holdB B a o b = none → B b = none := fun b e => by
    cases h : B b with
    | none => rfl
    | some p => rw [sub b p h] at e; cases e
  refine ⟨{ r with hb := hb, base := fun b p e => r.base b p (sub b p e), sep := fun b p e => (r.sep b p e).imp (none' b) id, apB := fun b p hm => none' b (r.apB b p hm) }, r.base _ _ hself, ?_, fun p hm => ?_⟩
  · cases h : W.Z a with
    | none => rfl
    | some p =>
      rcases r.sep a p h with this | this
      · rw [hself] at this; cases this
      · rw [hb _ _ this] at hB; cases hB
  · have := r.apB a p hm; rw [hself] at this; cases this
theorem other (r : Rel X B W hs s) {a : Addr} (hB : B a = none) (hZ : W.Z a = none) (hh : ∀ p, (a, p) ∉ hs) {h' : Heap} {tk : Nat} (hb : Heap.ExtBut a s.heap h') (ht : s.toks ≤ tk) : Rel X B W hs { s with heap := h', toks := tk } :=
  { r with
    base := fun b p e => hb b p (fun q => by subst q; rw [hB] at e; cases e) (r.base b p e)
    froz := fun b p e => hb b p (fun q => by subst q; rw [hZ] at e; cases e) (r.froz b p e)
    objs := fun b p hm => (r.objs b p hm).at fun o e => hb b o (fun q => by subst q; exact hh p hm) e
    tok := fun t x e => Nat.lt_of_lt_of_le (r.tok t x e) ht
    pos := Nat.lt_of_lt_of_le r.pos ht }
end Rel
end
section
inductive Post (X : Fx) (B : Addr → Option Obj) (W : Wd) {α β : Type} (R : Wd → α → β → Prop) (Q : β → HS → Prop) (v : α) (s' : Shared) : Prop where
  | mk (W' : Wd) (b : β) (hs' : HS) (le : W.le W') (r : R W' v b) (rel : Rel X B W' hs' s') (q : Q b hs')
theorem Post.elim {X : Fx} {B : Addr → Option Obj} {W : Wd} {α β : Type} {R : Wd → α → β → Prop} {Q : β → HS → Prop} {v : α} {s' : Shared} {C : Prop} (p : Post X B W R Q v s') (f : ∀ W' b hs', W.le W' → R W' v b → Rel X B W' hs' s' → Q b hs' → C) : C := by
  cases p with
  | mk W' b hs' le r rel q => exact f W' b hs' le r rel q

noncomputable def NoE : Value → Shared → Prop := fun _ _ => False

theorem Post.le {X : Fx} {B : Addr → Option Obj} {W W' : Wd} {α β : Type} {R : Wd → α → β → Prop} {Q : β → HS → Prop} {v : α} {s' : Shared} (h : W.le W') (p : Post X B W' R Q v s') : Post X B W R Q v s' :=
  p.elim fun W2 b hs' a r rel q => ⟨W2, b, hs', h.trans a, r, rel, q⟩

section
variable {X : Fx} {A : Around} {env : Env} {hs : HS}

noncomputable abbrev M (X : Fx) : Model := model X.prog X.w

noncomputable def J (X : Fx) (A : Around) {α β : Type} (R : Wd → α → β → Prop) (t : Sem α) (hs : HS) (Q : β → HS → Prop) : Prop :=
  ∀ B W s, Rel X B W hs s → wpAny (M X) A t (Post X B W R Q) NoE s
noncomputable def J1 (X : Fx) (A : Around) {α β : Type} (R : Wd → α → β → Prop) (t : Value → Sem α) (a : V) (hs : HS) (Q : β → HS → Prop) : Prop :=
  ∀ B W s va, Rel X B W hs s → Is X W va a → wpAny (M X) A (t va) (Post X B W R Q) NoE s
noncomputable def J2 (X : Fx) (A : Around) {α β : Type} (R : Wd → α → β → Prop) (t : Value → Value → Sem α) (a b : V) (hs : HS) (Q : β → HS → Prop) : Prop :=
  ∀ B W s va vb, Rel X B W hs s → Is X W va a → Is X W vb b → wpAny (M X) A (t va vb) (Post X B W R Q) NoE s
noncomputable def JL (X : Fx) (A : Around) {α β : Type} (R : Wd → α → β → Prop) (t : List Value → Sem α) (as : List V) (hs : HS) (Q : β → HS → Prop) : Prop :=
  ∀ B W s vs, Rel X B W hs s → IsL X W vs as → wpAny (M X) A (t vs) (Post X B W R Q) NoE s
noncomputable def JC (X : Fx) (A : Around) (f : V) (as : List V) (hs : HS) (Q : V → HS → Prop) : Prop :=
  ∀ B W s vf vs, Rel X B W hs s → Is X W vf f → IsL X W vs as → wpAny (M X) A (call vf vs) (Post X B W (Is X) Q) NoE s

noncomputable def Same {α : Type} (_ : Wd) (v b : α) : Prop := v = b
inductive Fl where
  | next | brk | cont | ret (v : V)
noncomputable def FlR (X : Fx) (W : Wd) : Flow → Fl → Prop
  | .next, .next => True
  | .brk, .brk => True
  | .cont, .cont => True
  | .ret v, .ret b => Is X W v b
  | _, _ => False

noncomputable abbrev Je (X : Fx) (A : Around) (env : Env) (e : Expr) (hs : HS) (Q : V → HS → Prop) : Prop := J X A (Is X) (eval e env) hs Q
noncomputable abbrev Jt (X : Fx) (A : Around) (env : Env) (e : Expr) (hs : HS) (Q : Bool → HS → Prop) : Prop := J X A Same (isTrue e env (eval e env)) hs Q
noncomputable abbrev Jx (X : Fx) (A : Around) (env : Env) (sts : List Stmt) (hs : HS) (Q : Fl → HS → Prop) : Prop := J X A (FlR X) (execs sts env) hs Q
noncomputable abbrev Js (X : Fx) (A : Around) (env : Env) (st : Stmt) (hs : HS) (Q : Fl → HS → Prop) : Prop := J X A (FlR X) (exec st env) hs Q
noncomputable abbrev Jl (X : Fx) (A : Around) (env : Env) (pos : Pos) (es : List Expr) (hs : HS) (Q : List V → HS → Prop) : Prop := J X A (IsL X) (spliced (backTo pos (starEach es env))) hs Q
noncomputable abbrev Jst (X : Fx) (A : Around) (env : Env) (x : Str) (b : V) (hs : HS) (Q : HS → Prop) : Prop := J1 X A Same (storeName env x) b hs (fun (_ : Unit) h => Q h)
noncomputable abbrev Jas (X : Fx) (A : Around) (env : Env) (t : Expr) (b : V) (hs : HS) (Q : HS → Prop) : Prop := J1 X A Same (assign t env) b hs (fun (_ : Unit) h => Q h)
noncomputable abbrev Jb (X : Fx) (A : Around) (op : Operator) (a b : V) (hs : HS) (Q : V → HS → Prop) : Prop := J2 X A (Is X) (binaryOp op) a b hs Q
noncomputable abbrev Ji (X : Fx) (A : Around) (op : Operator) (a b : V) (hs : HS) (Q : V → HS → Prop) : Prop := J2 X A (Is X) (inplaceOp op) a b hs Q
noncomputable abbrev Jc (X : Fx) (A : Around) (op : CmpOp) (a b : V) (hs : HS) (Q : V → HS → Prop) : Prop := J2 X A (Is X) (compareOp op) a b hs Q
noncomputable abbrev Jtr (X : Fx) (A : Around) (a : V) (hs : HS) (Q : Bool → HS → Prop) : Prop := J1 X A Same truthy a hs Q
noncomputable abbrev Ju (X : Fx) (A : Around) (op : UnaryOp) (a : V) (hs : HS) (Q : V → HS → Prop) : Prop := J1 X A (Is X) (unaryOp op) a hs Q

section gen
variable {α β : Type} {R : Wd → α → β → Prop} {B : Addr → Option Obj} {W : Wd} {s : Shared}

theorem J.mono {t : Sem α} {Q Q' : β → HS → Prop} (h : J X A R t hs Q) (hq : ∀ b hs, Q b hs → Q' b hs) : J X A R t hs Q' := fun B W s r =>
  wpAny_mono (h B W s r) (fun _ _ p0 => p0.elim fun W' b hs' h1 h2 h3 h4 => ⟨W', b, hs', h1, h2, h3, hq _ _ h4⟩) fun _ _ x => x
theorem J.perm {t : Sem α} {Q : β → HS → Prop} {hs' : HS} (p : hs.Perm hs') (h : J X A R t hs' Q) : J X A R t hs Q := fun B W s r => h B W s (r.perm p)
theorem Post.mk' {v : α} {b : β} {hs' : HS} {s' : Shared} {W' : Wd} {Q : β → HS → Prop} (h : W.le W') (h1 : R W' v b) (h2 : Rel X B W' hs' s') (h3 : Q b hs') : Post X B W R Q v s' := ⟨W', b, hs', h, h1, h2, h3⟩
theorem Post.here {v : α} {b : β} {hs' : HS} {s' : Shared} {Q : β → HS → Prop} (h1 : R W v b) (h2 : Rel X B W hs' s') (h3 : Q b hs') : Post X B W R Q v s' := ⟨W, b, hs', .refl W, h1, h2, h3⟩

end gen

theorem J_Name_local {x : Str} {pos : Pos} {m : List (Str × V)} {b : V} {Q : V → HS → Prop} (hk : env.scope.kind = .function) (hl : env.kindOf x = some .local)
    (hm : (env.locals, AO.ns m) ∈ hs) (hb : m.lookup x = some b) (h : Q b hs) (hd : (x == ("__debug__" : Str)) = false) : Je X A env (.Name x pos) hs Q := fun B W s r => by
  refine Classical.byContradiction fun hno => ?_
  obtain ⟨mc, h1, h2⟩ := r.objs _ _ hm
  refine hno ?_
  clear hno
  refine Classical.byContradiction fun hno => ?_
  obtain ⟨v, h3, h4⟩ := h2 x b hb
  refine hno ?_
  clear hno
  exact wpAny_Name (wpAny_loadName_local hk hl h1 h3 (.here h4 r h)) hd

theorem J_Name_cell {x : Str} {pos : Pos} {c : Addr} {b : V} {Q : V → HS → Prop} (hk : env.scope.kind = .function) (hl : env.kindOf x = some .cell) (hc : env.cells.lookup x = some c)
    (hm : (c, AO.cell (some b)) ∈ hs) (h : Q b hs) (hd : (x == ("__debug__" : Str)) = false) : Je X A env (.Name x pos) hs Q := fun B W s r => by
  refine Classical.byContradiction fun hno => ?_
  obtain ⟨vo, h1, h2⟩ := r.objs _ _ hm
  refine hno ?_
  clear hno
  cases vo with
  | none => exact h2.elim
  | some v => exact wpAny_Name (wpAny_loadName_cell hk hl hc h1 (.here h2 r h)) hd

theorem J_Name_free {x : Str} {pos : Pos} {c : Addr} {b : V} {Q : V → HS → Prop} (hk : env.scope.kind = .function) (hl : env.kindOf x = some .free) (hc : env.cells.lookup x = some c)
    (hm : (c, AO.cell (some b)) ∈ hs) (h : Q b hs) (hd : (x == ("__debug__" : Str)) = false) (hn : (x == ("__classdict__" : Str)) = false) : Je X A env (.Name x pos) hs Q := fun B W s r => by
  refine Classical.byContradiction fun hno => ?_
  obtain ⟨vo, h1, h2⟩ := r.objs _ _ hm
  refine hno ?_
  clear hno
  cases vo with
  | none => exact h2.elim
  | some v => exact wpAny_Name (wpAny_loadName_free hk hl hc h1 (.here h2 r h) hn) hd

structure Base (X : Fx) : Prop where
  g : X.hb.Ns mainGlobals X.mg
  b : ∃ mb, X.hb.Ns builtinsNs mb ∧ ∀ x : Str, x ≠ "__name__" → mb x = bootBuiltins x
  nolimit : X.hb.NoLimit
  nodigits : ∃ mc, X.hb.Ns cStatics mc ∧ mc "sys.int_max_str_digits" = none
  booked : NoneBooked X.hb
  bmain : ∃ bm ob, X.mg "__builtins__" = some (.ref bm) ∧ bm ≠ builtinsNs ∧ X.hb.get? bm = some ob ∧ ob.cls = .type "module" ∧ ob.dict = some builtinsNs ∧ ob.data = .plain

theorem Rel.hbk {B : Addr → Option Obj} {W : Wd} {s : Shared} (r : Rel X B W hs s) : ∀ b o, X.hb.get? b = some o → s.heap.get? b = some o := fun b o e => r.base b o (r.hb b o e)

theorem J_Name_fn {x : Str} {pos : Pos} {Q : V → HS → Prop} (T : Base X) (hk : env.scope.kind = .function) (hl : env.kindOf x = some .globalImplicit) (hg : env.globals = mainGlobals)
    {a : Addr} (hx : X.mg x = some (.ref a)) (h : Q (.fn x) hs) (hd : (x == ("__debug__" : Str)) = false) : Je X A env (.Name x pos) hs Q := fun B W s r =>
  Name_function_global hk hl (loadGlobal_global (by rw [hg]; exact T.g.keeps r.hbk) hx (.here (b := .fn x) (by simp only [Is]; exact ⟨a, rfl, hx⟩) r h)) hd
theorem J_Name_glob {x : Str} {pos : Pos} {Q : V → HS → Prop} (T : Base X) (hk : env.scope.kind = .function) (hl : env.kindOf x = some .globalImplicit) (hg : env.globals = mainGlobals)
    {v : Value} {b : V} (hx : X.mg x = some v) (hb : ∀ W, Is X W v b) (h : Q b hs) (hd : (x == ("__debug__" : Str)) = false) : Je X A env (.Name x pos) hs Q := fun B W s r =>
  Name_function_global hk hl (loadGlobal_global (by rw [hg]; exact T.g.keeps r.hbk) hx (.here (hb W) r h)) hd
theorem J_Name_built {x : Str} {pos : Pos} {Q : V → HS → Prop} (T : Base X) (hk : env.scope.kind = .function) (hl : env.kindOf x = some .globalImplicit) (hg : env.globals = mainGlobals) (hbn : env.builtins = builtinsNs)
    (hx : X.mg x = none) {v : Value} {b : V} (hv : bootBuiltins x = some v) (hb : ∀ W, Is X W v b) (h : Q b hs) (hd : (x == ("__debug__" : Str)) = false) (hnm : x ≠ "__name__") : Je X A env (.Name x pos) hs Q := fun B W s r => by
  refine Classical.byContradiction fun hno => ?_
  obtain ⟨mb, h1, h2⟩ := T.b
  refine hno ?_
  clear hno
  exact Name_function_global hk hl (loadGlobal_builtin (by rw [hg]; exact T.g.keeps r.hbk) hx (by rw [hbn]; exact h1.keeps r.hbk) ((h2 x hnm).trans hv) (.here (hb W) r h)) hd

theorem lookup_cons_str {m : List (Str × V)} {x y : Str} {b : V} : ((x, b) :: m).lookup y = if y = x then some b else m.lookup y := by
  rw [List.lookup_cons]
  by_cases h : y = x
  · subst h; simp
  · rw [if_neg h]
    have : (y == x) = false := by simpa using h
    rw [this]

theorem J_st_local {x : Str} {m : List (Str × V)} {b : V} {hs' : HS} {Q : HS → Prop} (hk : env.scope.kind = .function) (hl : env.kindOf x = some .local)
    (u : Upd hs env.locals (.ns m) (.ns ((x, b) :: m)) hs') (h : Q hs') : Jst X A env x b hs Q := fun B W s v r hv => by
  refine Classical.byContradiction fun hno => ?_
  obtain ⟨mc, h1, h2⟩ := r.objs _ _ u.mem
  refine hno ?_
  clear hno
  refine wpAny_storeName_local hl h1 (fun h' hn hsb => ?_) (by rw [hk]; rfl)
  refine .here (b := ()) rfl (r.upd u hsb (Nat.le_succ _) ⟨_, hn, fun y c hy => ?_⟩) h
  rw [lookup_cons_str] at hy
  by_cases e : y = x
  · subst e; rw [if_pos rfl] at hy; cases hy; exact ⟨v, by simp, hv⟩
  · rw [if_neg e] at hy
    refine Classical.byContradiction fun hno => ?_
    obtain ⟨v', h3, h4⟩ := h2 y c hy
    refine hno ?_
    clear hno
    exact ⟨v', by rw [if_neg e]; exact h3, h4⟩

theorem J_st_cell {x : Str} {c : Addr} {bo : Option V} {b : V} {hs' : HS} {Q : HS → Prop} (hk : env.scope.kind = .function) (hl : env.kindOf x = some .cell) (hc : env.cells.lookup x = some c)
    (u : Upd hs c (.cell bo) (.cell (some b)) hs') (h : Q hs') : Jst X A env x b hs Q := fun B W s v r hv => by
  refine Classical.byContradiction fun hno => ?_
  obtain ⟨vo, h1, h2⟩ := r.objs _ _ u.mem
  refine hno ?_
  clear hno
  refine wpAny_storeName_cell hk hl hc h1 fun h' hn hsb => ?_
  exact .here (b := ()) rfl (r.upd u hsb (Nat.le_refl _) ⟨some v, hn, hv⟩) h

theorem J_int {i : Int} {k : Nat} {pos : Pos} {Q : V → HS → Prop} (h : Q (.int i) hs) : Je X A env (.Constant (.int i) k pos) hs Q := fun B W s r =>
  wpAny_Constant_int (.here (b := .int i) (by simp only [Is]; exact ⟨_, rfl⟩) (r.toks (Nat.le_succ _)) h)
theorem J_bool {b : Bool} {k : Nat} {pos : Pos} {Q : V → HS → Prop} (h : Q (.bool b) hs) : Je X A env (.Constant (.bool b) k pos) hs Q := fun B W s r =>
  wpAny_Constant_bool (.here (b := .bool b) (by simp only [Is]) r h)

noncomputable def Wd.say (W : Wd) (t : Tok) (x : Str) : Wd := { W with τ := fun u => if u = t then some x else W.τ u }
theorem Rel.say {B : Addr → Option Obj} {W : Wd} {s : Shared} (r : Rel X B W hs s) (x : Str) {tk : Nat} (ht : s.toks < tk) : W.le (W.say s.toks x) ∧ Is X (W.say s.toks x) (.str x s.toks) (.str x) ∧ Rel X B (W.say s.toks x) hs { s with toks := tk } := by
  have le : W.le (W.say s.toks x) := ⟨fun _ _ e => e, fun t y e => by
    have hne : t ≠ s.toks := Nat.ne_of_lt (r.tok t y e)
    simpa [Wd.say, hne] using e⟩
  refine ⟨le, ?_, ?_⟩
  · simp only [Is]; exact ⟨_, rfl, Nat.ne_of_gt r.pos, by simp [Wd.say]⟩
  · have r' := r.toks (tk := tk) (Nat.le_of_lt ht)
    refine { r' with objs := fun a o hm => (r'.objs a o hm).mono le, tok := fun t y e => ?_ }
    by_cases he : t = s.toks
    · subst he; exact ht
    · exact r'.tok t y (by simpa [Wd.say, he] using e)
theorem J_str {x : Str} {k : Nat} {pos : Pos} {Q : V → HS → Prop} (h : Q (.str x) hs) : Je X A env (.Constant (.str x) k pos) hs Q := fun B W s r => by
  refine Classical.byContradiction fun hno => ?_
  obtain ⟨h1, h2, h3⟩ := r.say x (tk := s.toks + 1) (Nat.lt_succ_self _)
  refine hno ?_
  clear hno
  exact wpAny_Constant_str (.mk' h1 h2 h3 h)

theorem J_BinOp {op : Operator} {l e : Expr} {pos : Pos} {Q : V → HS → Prop} (h : Je X A env l hs fun a h1 => Je X A env e h1 fun b h2 => Jb X A op a b h2 Q) : Je X A env (.BinOp l op e pos) hs Q := fun B W s r =>
  wpAny_BinOp (wpAny_mono (h B W s r) (fun va s1 p0 => p0.elim fun W1 a h1 l1 i1 r1 k1 => wpAny_mono (k1 B W1 s1 r1) (fun vb s2 p0 => p0.elim fun W2 b h2 l2 i2 r2 k2 =>
    wpAny_mono (k2 B W2 s2 va vb r2 (i1.mono l2) i2) (fun _ _ p => p.le (l1.trans l2)) fun _ _ x => x) fun _ _ x => x) fun _ _ x => x)
theorem J_Cmp {op : CmpOp} {l e : Expr} {pos : Pos} {Q : V → HS → Prop} (h : Je X A env l hs fun a h1 => Je X A env e h1 fun b h2 => Jc X A op a b h2 Q)
    (hm : behindInMarks op e = false := by with_unfolding_all rfl) : Je X A env (.Compare l [op] [e] pos) hs Q := fun B W s r =>
  wpAny_Compare1 (wpAny_mono (h B W s r) (fun va s1 p0 => p0.elim fun W1 a h1 l1 i1 r1 k1 => wpAny_mono (k1 B W1 s1 r1) (fun vb s2 p0 => p0.elim fun W2 b h2 l2 i2 r2 k2 =>
    wpAny_mono (k2 B W2 s2 va vb r2 (i1.mono l2) i2) (fun _ _ p => p.le (l1.trans l2)) fun _ _ x => x) fun _ _ x => x) fun _ _ x => x) hm
theorem J_tCmp {op : CmpOp} {l e : Expr} {pos : Pos} {Q : Bool → HS → Prop} (h : Je X A env l hs fun a h1 => Je X A env e h1 fun b h2 => Jc X A op a b h2 fun c h3 => Jtr X A c h3 Q)
    (hm : behindInMarks op e = false := by with_unfolding_all rfl) : Jt X A env (.Compare l [op] [e] pos) hs Q := fun B W s r =>
  wpAny_isTrue_Compare1 (wpAny_mono (h B W s r) (fun va s1 p0 => p0.elim fun W1 a h1 l1 i1 r1 k1 => wpAny_mono (k1 B W1 s1 r1) (fun vb s2 p0 => p0.elim fun W2 b h2 l2 i2 r2 k2 =>
    wpAny_mono (k2 B W2 s2 va vb r2 (i1.mono l2) i2) (fun vc s3 p0 => p0.elim fun W3 c h3 l3 i3 r3 k3 => wpAny_mono (k3 B W3 s3 vc r3 i3) (fun _ _ p => p.le (l1.trans (l2.trans l3))) fun _ _ x => x) fun _ _ x => x) fun _ _ x => x) fun _ _ x => x) hm
theorem J_Unary {op : UnaryOp} {e : Expr} {pos : Pos} {Q : V → HS → Prop} (h : Je X A env e hs fun a h1 => Ju X A op a h1 Q) : Je X A env (.UnaryOp op e pos) hs Q := fun B W s r =>
  wpAny_UnaryOp (wpAny_mono (h B W s r) (fun va s1 p0 => p0.elim fun W1 a h1 l1 i1 r1 k1 => wpAny_mono (k1 B W1 s1 va r1 i1) (fun _ _ p => p.le l1) fun _ _ x => x) fun _ _ x => x)
theorem J_tNot {e : Expr} {pos : Pos} {Q : Bool → HS → Prop} (h : Jt X A env e hs fun b h1 => Q (!b) h1) : Jt X A env (.UnaryOp .Not e pos) hs Q := fun B W s r =>
  wpAny_isTrue_Not (wpAny_mono (h B W s r) (fun b s' p0 => p0.elim fun W' b' h' l' i' r' q' => by cases i'; exact ⟨W', !b, h', l', rfl, r', q'⟩) fun _ _ x => x)
theorem J_IfExp {test body orelse : Expr} {pos : Pos} {Q : V → HS → Prop} (h : Jt X A env test hs fun b h1 => if b then Je X A env body h1 Q else Je X A env orelse h1 Q) : Je X A env (.IfExp test body orelse pos) hs Q := fun B W s r =>
  wpAny_IfExp (wpAny_mono (h B W s r) (fun b s' p0 => p0.elim fun W' b' h' l' i' r' q' => by
    cases i'
    cases b with
    | true => exact wpAny_mono (q' B W' s' r') (fun _ _ p => p.le l') fun _ _ x => x
    | false => exact wpAny_mono (q' B W' s' r') (fun _ _ p => p.le l') fun _ _ x => x) fun _ _ x => x)
theorem J_tVal {e : Expr} {Q : Bool → HS → Prop} (h : Je X A env e hs fun a h1 => Jtr X A a h1 Q)
    (he : isTrue e env (eval e env) = (do let v ← eval e env; standAt e.pos; holding [v] (truthy v)) := by with_unfolding_all rfl) : Jt X A env e hs Q := fun B W s r =>
  wpAny_isTrue_value (wpAny_mono (h B W s r) (fun va s1 p0 => p0.elim fun W1 a h1 l1 i1 r1 k1 => wpAny_mono (k1 B W1 s1 va r1 i1) (fun _ _ p => p.le l1) fun _ _ x => x) fun _ _ x => x) he
theorem J_And {x y : Expr} {pos : Pos} {Q : V → HS → Prop} (h : Je X A env x hs fun a h1 => Jtr X A a h1 fun t h2 => if t then Je X A env y h2 Q else Q a h2) : Je X A env (.BoolOp .And [x, y] pos) hs Q := fun B W s r =>
  wpAny_And2 (wpAny_mono (h B W s r) (fun va s1 p0 => p0.elim fun W1 a h1 l1 i1 r1 k1 => wpAny_mono (k1 B W1 s1 va r1 i1) (fun t s2 p0 => p0.elim fun W2 t' h2 l2 i2 r2 k2 => by
    cases i2
    cases t with
    | true => exact wpAny_mono (k2 B W2 s2 r2) (fun _ _ p => p.le (l1.trans l2)) fun _ _ x => x
    | false => exact ⟨W2, a, h2, l1.trans l2, i1.mono l2, r2, k2⟩) fun _ _ x => x) fun _ _ x => x)

noncomputable abbrev Jall (X : Fx) (A : Around) (env : Env) (op : BoolOp) (es : List Expr) (hs : HS) (Q : Bool → HS → Prop) : Prop := J X A Same (allTrue op es env) hs Q
theorem J_tBool {op : BoolOp} {es : List Expr} {pos : Pos} {Q : Bool → HS → Prop} (h : Jall X A env op es hs Q) : Jt X A env (.BoolOp op es pos) hs Q := fun B W s r => wpAny_isTrue_BoolOp (h B W s r)
theorem J_or_nil {Q : Bool → HS → Prop} (h : Q false hs) : Jall X A env .Or [] hs Q := fun _ _ _ r => wpAny_allTrue_Or_nil (.here rfl r h)
theorem J_and_cons {e : Expr} {es : List Expr} {Q : Bool → HS → Prop} (h : Jt X A env e hs fun b h1 => if b then Jall X A env .And es h1 Q else Q false h1) : Jall X A env .And (e :: es) hs Q := fun B W s r =>
  wpAny_allTrue_And_cons (wpAny_mono (h B W s r) (fun b s1 p0 => p0.elim fun W1 b' h1 l1 i1 r1 k1 => by
    cases i1
    cases b with
    | true => exact wpAny_mono (k1 B W1 s1 r1) (fun _ _ p => p.le l1) fun _ _ x => x
    | false => exact ⟨W1, false, h1, l1, rfl, r1, k1⟩) fun _ _ x => x)
theorem J_or_cons {e : Expr} {es : List Expr} {Q : Bool → HS → Prop} (h : Jt X A env e hs fun b h1 => if b then Q true h1 else Jall X A env .Or es h1 Q) : Jall X A env .Or (e :: es) hs Q := fun B W s r =>
  wpAny_allTrue_Or_cons (wpAny_mono (h B W s r) (fun b s1 p0 => p0.elim fun W1 b' h1 l1 i1 r1 k1 => by
    cases i1
    cases b with
    | true => exact ⟨W1, true, h1, l1, rfl, r1, k1⟩
    | false => exact wpAny_mono (k1 B W1 s1 r1) (fun _ _ p => p.le l1) fun _ _ x => x) fun _ _ x => x)

theorem J_nil {Q : Fl → HS → Prop} (h : Q .next hs) : Jx X A env [] hs Q := fun _ _ _ r => wpAny_execs_nil (.here (b := Fl.next) (by simp only [FlR]) r h)
theorem J_cons {st : Stmt} {rest : List Stmt} {Q : Fl → HS → Prop} (h : Js X A env st hs fun f h1 => match f with | .next => Jx X A env rest h1 Q | f => Q f h1) : Jx X A env (st :: rest) hs Q := fun B W s r =>
  wpAny_execs_cons (wpAny_mono (h B W s r) (fun f s1 p0 => p0.elim fun W1 f' h1 l1 i1 r1 k1 => by
    cases f <;> cases f' <;> first
      | exact i1.elim
      | exact wpAny_mono (k1 B W1 s1 r1) (fun _ _ p => p.le l1) fun _ _ x => x
      | exact ⟨W1, _, h1, l1, i1, r1, k1⟩) fun _ _ x => x)
theorem J_If {test : Expr} {body orelse : List Stmt} {pos : Pos} {Q : Fl → HS → Prop} (h : Jt X A env test hs fun b h1 => if b then Jx X A env body h1 Q else Jx X A env orelse h1 Q) : Js X A env (.If test body orelse pos) hs Q := fun B W s r =>
  wpAny_If (wpAny_mono (h B W s r) (fun b s1 p0 => p0.elim fun W1 b' h1 l1 i1 r1 k1 => by
    cases i1
    cases b with
    | true => exact wpAny_mono (k1 B W1 s1 r1) (fun _ _ p => p.le l1) fun _ _ x => x
    | false => exact wpAny_mono (k1 B W1 s1 r1) (fun _ _ p => p.le l1) fun _ _ x => x) fun _ _ x => x)
theorem J_Return {e : Expr} {pos : Pos} {Q : Fl → HS → Prop} (h : Je X A env e hs fun a h1 => Q (.ret a) h1) : Js X A env (.Return (some e) pos) hs Q := fun B W s r =>
  wpAny_Return_some (wpAny_mono (h B W s r) (fun v s1 p0 => p0.elim fun W1 a h1 l1 i1 r1 k1 => ⟨W1, .ret a, h1, l1, i1, r1, k1⟩) fun _ _ x => x)
theorem J_Return0 {pos : Pos} {Q : Fl → HS → Prop} (h : Q (.ret .none) hs) : Js X A env (.Return none pos) hs Q := fun B W s r =>
  wpAny_Return_none (.here (b := .ret .none) (by simp only [FlR, Is]) r h)
theorem J_Assign {x : Str} {pos' : Pos} {value : Expr} {pos : Pos} {Q : Fl → HS → Prop} (h : Je X A env value hs fun b h1 => Jst X A env x b h1 fun h2 => Q .next h2)
    (hs' : swapsWith value (some (.Name x pos')) pos.line env = pure false := by with_unfolding_all rfl) : Js X A env (.Assign [.Name x pos'] value pos) hs Q := fun B W s r =>
  wpAny_Assign_Name (wpAny_mono (h B W s r) (fun v s1 p0 => p0.elim fun W1 b h1 l1 i1 r1 k1 => wpAny_mono (k1 B W1 s1 v r1 i1) (fun _ s2 p0 => p0.elim fun W2 _ h2 l2 _ r2 k2 => ⟨W2, .next, h2, l1.trans l2, trivial, r2, k2⟩) fun _ _ x => x) fun _ _ x => x) hs'

theorem J_l_nil {pos : Pos} {Q : List V → HS → Prop} (h : Q [] hs) : Jl X A env pos [] hs Q := fun _ _ _ r => wpAny_items_nil (.here (b := []) IsL.nil r h)
theorem J_l_cons {pos : Pos} {e : Expr} {es : List Expr} {Q : List V → HS → Prop} (h : Je X A env e hs fun b h1 => Jl X A env pos es h1 fun bs h2 => Q (b :: bs) h2)
    (he : starEach (e :: es) env = (false, eval e env) :: starEach es env := by with_unfolding_all rfl) : Jl X A env pos (e :: es) hs Q := fun B W s r =>
  wpAny_items_cons (wpAny_mono (h B W s r) (fun v s1 p0 => p0.elim fun W1 b h1 l1 i1 r1 k1 => wpAny_mono (k1 B W1 s1 r1) (fun vs s2 p0 => p0.elim fun W2 bs h2 l2 i2 r2 k2 => ⟨W2, b :: bs, h2, l1.trans l2, IsL.cons (i1.mono l2) i2, r2, k2⟩) fun _ _ x => x) fun _ _ x => x) he
theorem J_Tuple {pos : Pos} {es : List Expr} {k : Nat} {Q : V → HS → Prop} (h : Jl X A env pos es hs fun bs h1 => bs.length ≤ sizeLine ∧ Q (.tup bs) h1) : Je X A env (.Tuple es k pos) hs Q := fun B W s r =>
  wpAny_Tuple (wpAny_mono (h B W s r) (fun vs s1 p0 => p0.elim fun W1 bs h1 l1 i1 r1 k1 => ⟨by rw [i1.length]; exact k1.1, by
    obtain ⟨le, r2⟩ := r1.newZ { cls := .type "tuple", data := .seq vs.toArray }
    refine ⟨_, .tup bs, h1, l1.trans le, ?_, r2, k1.2⟩
    simp only [Is]
    exact ⟨_, _, _, _, rfl, Wd.froze_self, rfl, rfl, i1.mono le⟩⟩) fun _ _ x => x)
theorem J_List {pos : Pos} {es : List Expr} {Q : V → HS → Prop} (h : Jl X A env pos es hs fun bs h1 => bs.length ≤ sizeLine ∧ Q (.lst bs) h1) : Je X A env (.List es pos) hs Q := fun B W s r =>
  wpAny_List (wpAny_mono (h B W s r) (fun vs s1 p0 => p0.elim fun W1 bs h1 l1 i1 r1 k1 => ⟨by rw [i1.length]; exact k1.1, by
    obtain ⟨le, r2⟩ := r1.newZ { cls := .type "list", data := .seq vs.toArray }
    refine ⟨_, .lst bs, h1, l1.trans le, ?_, r2, k1.2⟩
    simp only [Is]
    exact ⟨_, _, _, _, rfl, Wd.froze_self, rfl, rfl, i1.mono le⟩⟩) fun _ _ x => x)
theorem J_ListM {pos : Pos} {es : List Expr} {Q : V → HS → Prop} (h : Jl X A env pos es hs fun bs h1 => bs.length ≤ sizeLine ∧ ∀ a, Q (.ref a) ((a, .list bs) :: h1)) : Je X A env (.List es pos) hs Q := fun B W s r =>
  wpAny_List (wpAny_mono (h B W s r) (fun vs s1 p0 => p0.elim fun W1 bs h1 l1 i1 r1 k1 => ⟨by rw [i1.length]; exact k1.1, by
    have r2 := r1.new (o := { cls := .type "list", data := .seq vs.toArray }) (ao := .list bs) ⟨_, _, Heap.get?_push_size _ rfl, i1⟩
    exact ⟨_, .ref _, _, l1, by simp only [Is], r2, k1.2 _⟩⟩) fun _ _ x => x)
end
end
section
theorem runs_toks {M : Model} {Γ : Ctx} {p : Pos} {t : Sem Fin} {fs : List Frame} {s : Shared} {e : End} {s' : Shared} (h : Runs M Γ p t fs s e s') : s.toks ≤ s'.toks := by
  induction h with
  | done => exact Nat.le_refl _
  | raise => exact Nat.le_refl _
  | yield => exact Nat.le_refl _
  | again _ _ ih => exact ih
  | rule _ ih => exact ih
  | «at» _ ih => exact ih
  | load _ _ ih => exact ih
  | update _ _ ih => exact ih
  | loadIfAlive _ ih => exact ih
  | point _ ih => exact ih
  | alloc _ ih => exact ih
  | fresh _ ih => exact Nat.le_trans (Nat.le_succ _) ih
  | ask _ ih => exact ih
  | choose _ _ ih => exact ih
  | os _ ih => exact ih
  | handled _ ih => exact ih
  | genState _ _ ih => exact ih
  | stack _ ih => exact ih
  | thread _ ih => exact ih
  | newGen _ ih => exact ih
  | call _ _ ih1 ih2 => exact Nat.le_trans ih1 ih2
  | callSusp _ ih => exact ih
  | resumeFresh _ _ _ _ ih1 ih2 => exact Nat.le_trans ih1 ih2
  | resumeSuspended _ _ _ _ ih1 ih2 => exact Nat.le_trans ih1 ih2
  | resumeJustStarted _ _ _ ih => exact ih
  | resumeThrowFresh _ _ ih => exact ih
  | resumeRunning _ _ ih => exact ih
  | resumeFinished _ _ ih => exact ih
  | segRet _ _ ih1 ih2 => exact Nat.le_trans ih1 ih2
  | segGen _ _ ih1 ih2 => exact Nat.le_trans ih1 ih2
  | segSuspOut _ _ ih => exact ih
  | segSuspGen _ _ _ _ ih1 ih2 => exact Nat.le_trans ih1 ih2

theorem wakes_toks {M : Model} {Γ : Ctx} {p : Pos} {g : Nat} {r : Resume} {s : Shared} {res : GenResult} {s' : Shared} (h : Wakes M Γ p g r s res s') : s.toks ≤ s'.toks := by
  unfold Wakes at h
  split at h
  · exact h.elim
  · split at h
    · refine Classical.byContradiction fun hno => ?_
      obtain ⟨e, s₁, h1, _, _, rfl⟩ := h
      refine hno ?_
      clear hno
      have := runs_toks h1
      exact this
    · obtain ⟨_, rfl⟩ := h; exact Nat.le_refl _
    · obtain ⟨_, rfl⟩ := h; exact Nat.le_refl _
  · refine Classical.byContradiction fun hno => ?_
    obtain ⟨e, s₁, h1, _, _, rfl⟩ := h
    refine hno ?_
    clear hno
    have := runs_toks h1
    exact this
  · obtain ⟨_, rfl⟩ := h; exact Nat.le_refl _
  · obtain ⟨_, rfl⟩ := h; exact Nat.le_refl _

theorem wp_toks {α : Type} {M : Model} {Γ : Ctx} (t : Sem α) (n : Nat) : ∀ {Q : α → Pos → Shared → Prop} {E : Value → Pos → Shared → Prop} {p : Pos} {s : Shared}, n ≤ s.toks → Sem.wp M Γ t Q E p s →
    Sem.wp M Γ t (fun a p s' => n ≤ s'.toks ∧ Q a p s') (fun e p s' => n ≤ s'.toks ∧ E e p s') p s := by
  induction t with
  | pure a => intro Q E p s hn h; exact ⟨hn, h⟩
  | raise e => intro Q E p s hn h; exact ⟨hn, h⟩
  | unsupported _ => intro Q E p s hn h; exact h
  | finish _ => intro Q E p s hn h; exact h
  | rule _ k ih => intro Q E p s hn h; exact ih _ hn h
  | «at» _ k ih => intro Q E p s hn h; exact ih _ hn h
  | load _ _ k ih => intro Q E p s hn h; obtain ⟨o, h1, h2⟩ := h; exact ⟨o, h1, ih _ hn h2⟩
  | update _ _ _ k ih => intro Q E p s hn h; exact ⟨h.1, ih _ hn h.2⟩
  | loadIfAlive _ k ih => intro Q E p s hn h; exact ih _ hn h
  | point _ k ih => intro Q E p s hn h; exact ih _ hn h
  | register _ _ => intro Q E p s hn h; exact h
  | alloc _ k ih => intro Q E p s hn h; exact ih _ hn h
  | fresh k ih => intro Q E p s hn h; exact ih _ (Nat.le_succ_of_le hn) h
  | ask k ih => intro Q E p s hn h; exact ih _ hn h
  | choose _ _ k ih => intro Q E p s hn h; exact ⟨h.1, ih _ hn h.2⟩
  | os _ _ k ih => intro Q E p s hn h; exact ih _ hn h
  | call c hd _ _ k ih => intro Q E p s hn h; obtain ⟨r, s', h1, h2⟩ := h; exact ⟨r, s', h1, ih _ (Nat.le_trans hn (runs_toks h1)) h2⟩
  | handled _ k ih => intro Q E p s hn h; exact ih _ hn h
  | genState _ k ih => intro Q E p s hn h; obtain ⟨st, h1, h2⟩ := h; exact ⟨st, h1, ih _ hn h2⟩
  | newGen _ k ih => intro Q E p s hn h; exact ih _ hn h
  | resume _ _ _ k ih => intro Q E p s hn h; obtain ⟨res, s', h1, h2⟩ := h; exact ⟨res, s', h1, ih _ (Nat.le_trans hn (wakes_toks h1)) h2⟩
  | yield => intro Q E p s hn h; exact h
  | stack k ih => intro Q E p s hn h; exact ih _ hn h
  | fork => intro Q E p s hn h; exact h
  | thread k ih => intro Q E p s hn h; exact ih _ hn h
  | await => intro Q E p s hn h; exact h

theorem wpAny_toks {α : Type} {M : Model} {A : Around} {t : Sem α} {Q : α → Shared → Prop} {E : Value → Shared → Prop} {s : Shared} (h : wpAny M A t Q E s) :
    wpAny M A t (fun a s' => s.toks ≤ s'.toks ∧ Q a s') (fun e s' => s.toks ≤ s'.toks ∧ E e s') s := fun Γ p hΓ => wp_toks t s.toks (Nat.le_refl _) (h Γ p hΓ)

structure Ok (A : Around) (n u : Nat) : Prop where
  handled : A.handled = none
  depth : A.depth + n < 1000
  units : A.units + 100 * n + u < 9900
theorem Ok.deeper {A : Around} {n u : Nat} (h : Ok A (n + 1) u) (env : Env) : Ok (A.deeper env) n 90 := ⟨h.1, by have := h.2; show A.depth + 1 + n < 1000; (first | lia | omega), by have := h.3; simp only [Around.deeper_units]; (first | lia | omega)⟩
theorem Ok.le {A : Around} {n u n' u' : Nat} (h : Ok A n u) (hn : n' ≤ n) (hu : u' ≤ u := by (first | lia | omega)) : Ok A n' u' := ⟨h.1, by have := h.2; (first | lia | omega), by have := h.3; (first | lia | omega)⟩
theorem Ok.down {A : Around} {n k k' u u' : Nat} (h : Ok A (n + k) u) (h1 : Nat.ble k' k = true := by rfl) (h2 : Nat.ble u' u = true := by rfl) : Ok A (n + k') u' := h.le (Nat.add_le_add_left (Nat.le_of_ble_eq_true h1) n) (Nat.le_of_ble_eq_true h2)
theorem Ok.base {A : Around} {n k u u' : Nat} (h : Ok A (n + k) u) (h2 : Nat.ble u' u = true := by rfl) : Ok A n u' := h.le (Nat.le_add_right n k) (Nat.le_of_ble_eq_true h2)
theorem Ok.cLine {A : Around} {n u : Nat} (h : Ok A n u) : A.units + u < cLine := by have := h.3; show _ < 9900; (first | lia | omega)
theorem Ok.room {A : Around} {n u : Nat} (h : Ok A (n + 1) u) : A.depth < recursionLimit := by have := h.2; show _ < 1000; (first | lia | omega)

noncomputable def FnIsC (X : Fx) (d : Def) (code : Value) : Prop := ∃ a o pm doc, X.mg d.name = some (.ref a) ∧ X.hb.get? a = some o ∧ o.data = .func (docDef d.name d.params d.body d.scope pm code doc) ∧ X.hb.CodeRec code d.name
noncomputable def FnIs (X : Fx) (d : Def) : Prop := ∃ a o pm code doc, X.mg d.name = some (.ref a) ∧ X.hb.get? a = some o ∧ o.data = .func (docDef d.name d.params d.body d.scope pm code doc) ∧ X.hb.CodeRec code d.name

theorem FnIs.mg {X : Fx} {d : Def} (h : FnIs X d) : ∃ a, X.mg d.name = some (.ref a) := let ⟨a, _, _, _, _, e, _⟩ := h; ⟨a, e⟩

@[reducible] noncomputable def envF (d : Def) (L f : Addr) (cs : List (Str × Addr)) (cd : Value) : Env :=
  { scope := d.scope, locals := L, globals := mainGlobals, cells := cs, qual := d.name ++ ".<locals>.", func := some f, code := cd, frame := some L, builtins := builtinsNs }

noncomputable def cellNames : List (Str × NameKind) → List Str → List Str
  | [], acc => acc
  | (n, k) :: r, acc => if k == .cell then cellNames r (n :: acc) else cellNames r acc
noncomputable def AllCells : List Str → (List (Str × Addr) → Prop) → Prop
  | [], k => k []
  | n :: r, k => ∀ c, AllCells r fun cs => k ((n, c) :: cs)
theorem AllCells.at {k : List (Str × Addr) → Prop} : ∀ {ns : List Str} {cs : List (Str × Addr)}, AllCells ns k → cs.map (·.1) = ns → k cs
  | [], [], h, _ => h
  | n :: r, (m, c) :: cs, h, e => by
    simp only [List.map_cons, List.cons.injEq] at e
    obtain ⟨rfl, e⟩ := e
    exact AllCells.at (k := fun cs => k ((m, c) :: cs)) (h c) e
  | [], _ :: _, _, e => by cases e
  | _ :: _, [], _, e => by cases e
theorem cellsFrom_fst : ∀ (names : List (Str × NameKind)) (n : Nat) (acc : List (Str × Addr)), (cellsFrom n names acc).map (·.1) = cellNames names (acc.map (·.1))
  | [], _, _ => rfl
  | (name, kind) :: r, n, acc => by
    unfold cellsFrom cellNames
    split
    · rw [cellsFrom_fst r]; rfl
    · exact cellsFrom_fst r _ _

noncomputable def bindsL (sc : Scope) : List (Str × V) → List (Str × V) → List (Str × V)
  | [], m => m
  | (n, b) :: r, m => bindsL sc r (if sc.names.lookup n = some .local then (n, b) :: m else m)
noncomputable def bindsC (sc : Scope) : List (Str × V) → Str → Option V → Option V
  | [], _, o => o
  | (n, b) :: r, x, o => bindsC sc r x (if sc.names.lookup n = some .local then o else if x = n then some b else o)

section
variable {X : Fx} {A : Around} {hs : HS}

theorem binds_rel {W : Wd} {sc : Scope} {env : Env} (he : env.kindOf = fun x => sc.names.lookup x) : ∀ {names : List Str} {vs : List Value} {as : List V} {m : Str → Option Value} {ma : List (Str × V)}, IsL X W vs as →
    (∀ x b, ma.lookup x = some b → ∃ v, m x = some v ∧ Is X W v b) →
    ∀ x b, (bindsL sc (names.zip as) ma).lookup x = some b → ∃ v, bindL env.kindOf (names.zip vs) m x = some v ∧ Is X W v b
  | [], _, _, m, ma, _, h => h
  | n :: ns, vs, [], m, ma, hi, h => by
    simp only [IsL] at hi; subst hi
    exact h
  | n :: ns, vs, b :: bs, m, ma, hi, h => by
    simp only [IsL] at hi
    refine Classical.byContradiction fun hno => ?_
    obtain ⟨w, r, rfl, h1, h2⟩ := hi
    refine hno ?_
    clear hno
    simp only [List.zip_cons_cons, bindsL, bindL]
    refine binds_rel he h2 ?_
    intro x c hx
    rw [he]
    dsimp only
    by_cases hl : sc.names.lookup n = some .local
    · rw [if_pos hl] at hx ⊢
      rw [lookup_cons_str] at hx
      by_cases e : x = n
      · subst e
        rw [if_pos rfl] at hx; cases hx
        exact ⟨w, by simp, h1⟩
      · rw [if_neg e] at hx
        refine Classical.byContradiction fun hno => ?_
        obtain ⟨v, h3, h4⟩ := h x c hx
        refine hno ?_
        clear hno
        exact ⟨v, by rw [if_neg e]; exact h3, h4⟩
    · rw [if_neg hl] at hx ⊢
      exact h x c hx

theorem binds_relC {W : Wd} {sc : Scope} {env : Env} (he : env.kindOf = fun x => sc.names.lookup x) : ∀ {names : List Str} {vs : List Value} {as : List V} {m : Str → Option Value} {x : Str} {o : Option V}, IsL X W vs as → OptIs X W (m x) o →
    OptIs X W (bindC env.kindOf (names.zip vs) m x) (bindsC sc (names.zip as) x o)
  | [], _, _, m, x, o, _, h => h
  | n :: ns, vs, [], m, x, o, hi, h => by
    simp only [IsL] at hi; subst hi
    exact h
  | n :: ns, vs, b :: bs, m, x, o, hi, h => by
    simp only [IsL] at hi
    refine Classical.byContradiction fun hno => ?_
    obtain ⟨w, r, rfl, h1, h2⟩ := hi
    refine hno ?_
    clear hno
    simp only [List.zip_cons_cons, bindsC, bindC]
    refine binds_relC he h2 ?_
    rw [he]
    dsimp only
    by_cases hl : sc.names.lookup n = some .local
    · rw [if_pos hl, if_pos hl]; exact h
    · rw [if_neg hl, if_neg hl]
      by_cases e : x = n
      · rw [if_pos e, if_pos e]; exact h1
      · rw [if_neg e, if_neg e]; exact h

noncomputable def Back (Q : V → HS → Prop) (f : Fl) (hs : HS) : Prop := ∃ hs', hs'.Sublist hs ∧ (match f with | .ret b => Q b hs' | .next => Q .none hs' | _ => False)

theorem _root_.Mine.Post.back {B : Addr → Option Obj} {W : Wd} {Q : V → HS → Prop} {f : Flow} {s : Shared} : Post X B W (FlR X) (Back Q) f s → Post X B W (Is X) Q (match f with | .ret v => v | _ => .none) s := by
  intro p
  refine Classical.byContradiction fun hno => ?_
  obtain ⟨W', b, hs', h1, h2, h3, hs'', h4, h5⟩ := p
  refine hno ?_
  clear hno
  cases f <;> cases b <;> first
    | exact h2.elim
    | exact h5.elim
    | exact ⟨W', .none, hs'', h1, by simp only [Is], h3.sub h4, h5⟩
    | exact ⟨W', _, hs'', h1, h2, h3.sub h4, h5⟩

theorem Rel.enter {B : Addr → Option Obj} {W : Wd} {s s₁ : Shared} {L : Addr} {m cm : Str → Option Value} {cs : List (Str × Addr)} {ma : List (Str × V)} {ca : Str → Option V} (r : Rel X B W hs s) (I : InCallC s L m cs cm s₁) (ht : s.toks ≤ s₁.toks)
    (hm : ∀ x b, ma.lookup x = some b → ∃ v, m x = some v ∧ Is X W v b) (hcm : ∀ x, OptIs X W (cm x) (ca x)) (hn : (cs.map (·.1)).Nodup) :
    Rel X B W ((L, .ns ma) :: (cs.map fun p => (p.2, AO.cell (ca p.1))) ++ hs) s₁ := by
  refine Classical.byContradiction fun hno => ?_
  obtain ⟨h₁, tk, rfl, hk⟩ := I.done
  refine hno ?_
  clear hno
  have r' := r.keeps hk ht
  have fresh : ∀ a, L ≤ a → B a = none ∧ W.Z a = none ∧ ∀ o, (a, o) ∉ hs := fun a ha => by
    have hsz := Nat.le_trans I.toInCall.fresh ha
    refine ⟨?_, ?_, fun o hm => ?_⟩
    · cases h : B a with
      | none => rfl
      | some o => exact absurd (Heap.lt_size (r.base _ _ h)) (Nat.not_lt.mpr hsz)
    · cases h : W.Z a with
      | none => rfl
      | some o => exact absurd (Heap.lt_size (r.froz _ _ h)) (Nat.not_lt.mpr hsz)
    · obtain ⟨ob, h⟩ := (r.objs _ _ hm).some
      exact absurd (Heap.lt_size h) (Nat.not_lt.mpr hsz)
  have cell : ∀ p ∈ cs, L < p.2 ∧ h₁.IsCell p.2 (cm p.1) := fun p hp => by
    have := I.above p.1 p.2 hp
    refine ⟨this, I.cell p.1 p.2 (lookup_of_mem_nodup hn hp)⟩
  have addr : ∀ a o, (a, o) ∈ (L, AO.ns ma) :: (cs.map fun p => (p.2, AO.cell (ca p.1))) → L ≤ a ∧ ObjR X W h₁ a o := fun a o hm' => by
    rcases List.mem_cons.mp hm' with e | hm'
    · cases e; exact ⟨Nat.le_refl _, m, I.toInCall.ns, hm⟩
    · refine Classical.byContradiction fun hno => ?_
      obtain ⟨p, hp, e⟩ := List.mem_map.mp hm'
      refine hno ?_
      clear hno
      cases e
      exact ⟨Nat.le_of_lt (cell p hp).1, _, (cell p hp).2, hcm _⟩
  refine { r' with objs := fun a o hmem => ?_, nodup := ?_, apB := fun a o hmem => ?_, apZ := fun a o hmem => ?_ }
  · rcases List.mem_append.mp hmem with h | h
    · exact (addr a o h).2
    · exact r'.objs a o h
  · refine List.pairwise_append.mpr ⟨List.pairwise_cons.mpr ⟨fun q hq => ?_, ?_⟩, r.nodup, fun p hp q hq => ?_⟩
    · refine Classical.byContradiction fun hno => ?_
      obtain ⟨p, hp, e⟩ := List.mem_map.mp hq
      refine hno ?_
      clear hno
      subst e
      exact Nat.ne_of_lt (cell p hp).1
    · rw [List.pairwise_map]; exact I.apart
    · intro e
      have := (addr p.1 p.2 hp).1
      exact (fresh p.1 this).2.2 q.2 (e ▸ hq)
  · rcases List.mem_append.mp hmem with h | h
    · exact (fresh a (addr a o h).1).1
    · exact r.apB a o h
  · rcases List.mem_append.mp hmem with h | h
    · exact (fresh a (addr a o h).1).2.1
    · exact r.apZ a o h

theorem lookup_of_fst {n : Nat} : ∀ {names : List (Str × NameKind)} {cs : List (Str × Addr)} {x : Str}, cs.map (·.1) = cellNames names [] → (cellNames names []).contains x = true → (cs.lookup x).isSome = true := by
  intro names cs x e h
  rw [← e] at h
  clear e
  induction cs with
  | nil => simp at h
  | cons p cs ih =>
    obtain ⟨k, v⟩ := p
    rw [List.lookup_cons]
    cases hb : x == k with
    | true => rfl
    | false =>
      simp only [List.map_cons, List.contains_cons, hb, Bool.false_or] at h
      exact ih h

noncomputable def kindsOk (sc : Scope) (names : List Str) : Bool := names.all fun x => sc.names.lookup x == some .local || (sc.names.lookup x == some .cell && (cellNames sc.names []).contains x)

theorem JC_defC {d : Def} {cd : Value} {as : List V} {names : List Str} {n u : Nat} {Q : V → HS → Prop} (T : Base X) (F : FnIsC X d cd) (ok : Ok A (n + 1) (u + 1)) (hlen : names.length = as.length)
    (hbind : ∀ pm cd doc vs, vs.length = names.length → bindArgs (docDef d.name d.params d.body d.scope pm cd doc) ⟨vs, []⟩ = pure (names.zip vs))
    (hkind : kindsOk d.scope names = true) (hnd : (cellNames d.scope.names []).Nodup)
    (h : ∀ L f, AllCells (cellNames d.scope.names []) fun cs => ∀ A', Ok A' n 90 → Jx X A' (envF d L f cs cd) d.body
      (((L, .ns (bindsL d.scope (names.zip as) [])) :: (cs.map fun p => (p.2, AO.cell (bindsC d.scope (names.zip as) p.1 none)))) ++ hs) (Back Q))
    (hco : d.scope.isCoroutine = false := by rfl) (hgen : d.scope.isGenerator = false := by rfl) (hk : d.scope.kind = .function := by rfl) :
    JC X A (.fn d.name) as hs Q := fun B W s vf vs r hf hv => by
  refine Classical.byContradiction fun hno => ?_
  obtain ⟨a, o, pm, doc, e1, e2, e3, e4⟩ := F
  refine hno ?_
  clear hno
  simp only [Is] at hf
  refine Classical.byContradiction fun hno => ?_
  obtain ⟨a', rfl, e1'⟩ := hf
  refine hno ?_
  clear hno
  rw [e1] at e1'; cases e1'
  have hlv : vs.length = names.length := hv.length.trans hlen.symm
  refine wpAny_call (codeAny_call_function ok.room (r.hbk _ _ e2) e3 hco hgen rfl (e4.keeps r.hbk) ?_)
  rw [hbind pm cd doc vs hlv]
  refine wpAny_pure ?_
  have hkk : ∀ x ∈ names.zip vs, d.scope.names.lookup x.1 = some .local ∨ (d.scope.names.lookup x.1 = some .cell ∧ ((cellsFrom (s.heap.objs.size + 1) d.scope.names []).lookup x.1).isSome = true) := fun x hx => by
    have hx1 : x.1 ∈ names := by
      obtain ⟨k, b⟩ := x
      exact (List.of_mem_zip hx).1
    have := List.all_eq_true.mp hkind x.1 hx1
    simp only [Bool.or_eq_true, Bool.and_eq_true, beq_iff_eq] at this
    rcases this with h1 | ⟨h1, h2⟩
    · exact .inl h1
    · exact .inr ⟨h1, lookup_of_fst (n := 0) (by rw [cellsFrom_fst]; rfl) h2⟩
  refine wpAny_mono (wpAny_toks (wpAny_newFunctionEnv_cells (Q := fun env s' => env = newEnv d.scope s.heap.objs.size mainGlobals (cellsFrom (s.heap.objs.size + 1) d.scope.names []) (d.name ++ ".<locals>.") (some a) cd none builtinsNs ∧
      InCallC s env.locals (bindL env.kindOf (names.zip vs) fun _ => none) env.cells (bindC env.kindOf (names.zip vs) fun _ => none) s') hk hkk fun env he s' I => ⟨he, I⟩)) ?_ (fun _ _ x => x.2)
  rintro env s₂ ⟨ht, he, I⟩
  subst he
  refine ⟨(T.nolimit.keeps r.hbk).keeps I.toInCall.keep, codeAny_func (body := d.body) (env := newEnv d.scope s.heap.objs.size mainGlobals (cellsFrom (s.heap.objs.size + 1) d.scope.names []) (d.name ++ ".<locals>.") (some a) cd none builtinsNs) ?_⟩
  have hfst : (cellsFrom (s.heap.objs.size + 1) d.scope.names []).map (·.1) = cellNames d.scope.names [] := by rw [cellsFrom_fst]; rfl
  have r2 := r.enter (ma := bindsL d.scope (names.zip as) []) (ca := fun x => bindsC d.scope (names.zip as) x none) I ht
    (binds_rel (sc := d.scope) (env := newEnv d.scope s.heap.objs.size mainGlobals (cellsFrom (s.heap.objs.size + 1) d.scope.names []) (d.name ++ ".<locals>.") (some a) cd none builtinsNs) rfl hv fun x b e => by simp at e) (fun x => binds_relC (sc := d.scope) (env := newEnv d.scope s.heap.objs.size mainGlobals (cellsFrom (s.heap.objs.size + 1) d.scope.names []) (d.name ++ ".<locals>.") (some a) cd none builtinsNs) rfl hv trivial) (by show ((cellsFrom _ _ _).map _).Nodup; rw [hfst]; exact hnd)
  have hb := (h s.heap.objs.size a).at hfst _ (ok.deeper (newEnv d.scope s.heap.objs.size mainGlobals (cellsFrom (s.heap.objs.size + 1) d.scope.names []) (d.name ++ ".<locals>.") (some a) cd none builtinsNs)) B W s₂ r2
  exact wpAny_mono hb (fun f s' p => p.back) fun _ _ x => x.elim

theorem JC_def {d : Def} {as : List V} {names : List Str} {n u : Nat} {Q : V → HS → Prop} (T : Base X) (F : FnIs X d) (ok : Ok A (n + 1) (u + 1)) (hlen : names.length = as.length)
    (hbind : ∀ pm cd doc vs, vs.length = names.length → bindArgs (docDef d.name d.params d.body d.scope pm cd doc) ⟨vs, []⟩ = pure (names.zip vs))
    (hkind : kindsOk d.scope names = true) (hnd : (cellNames d.scope.names []).Nodup)
    (h : ∀ L f cd, AllCells (cellNames d.scope.names []) fun cs => ∀ A', Ok A' n 90 → Jx X A' (envF d L f cs cd) d.body
      (((L, .ns (bindsL d.scope (names.zip as) [])) :: (cs.map fun p => (p.2, AO.cell (bindsC d.scope (names.zip as) p.1 none)))) ++ hs) (Back Q))
    (hco : d.scope.isCoroutine = false := by rfl) (hgen : d.scope.isGenerator = false := by rfl) (hk : d.scope.kind = .function := by rfl) :
    JC X A (.fn d.name) as hs Q := by
  refine Classical.byContradiction fun hno => ?_
  obtain ⟨a, o, pm, code, doc, e1, e2, e3, e4⟩ := F
  refine hno ?_
  clear hno
  exact JC_defC (cd := code) T ⟨a, o, pm, doc, e1, e2, e3, e4⟩ ok hlen hbind hkind hnd (fun L f => h L f code) hco hgen hk

theorem isClo {W : Wd} {v : Value} {x : Str} {cs : List (Str × Addr)} (h : Is X W v (.clo x cs)) : ∃ a o doc pm c' ctv d oc vs t, v = .ref a ∧ W.Z a = some o ∧ X.nested x = some d ∧ o.data = .func (PySem.W.fnX d.name x d.params d.body d.scope cs .none .none doc pm none (.ref c') ctv) ∧ W.Z c' = some oc ∧ oc.data = .fields vs ∧ vs[1]? = some (.str x t) := by simpa only [Is] using h

@[reducible] noncomputable def envN (x : Str) (d : Def) (L f : Addr) (cs : List (Str × Addr)) (cd : Value) : Env :=
  { scope := d.scope, locals := L, globals := mainGlobals, cells := cs, qual := x ++ ".<locals>.", func := some f, code := cd, frame := some L, builtins := builtinsNs }
theorem JC_clo {x : Str} {d : Def} {cs : List (Str × Addr)} {as : List V} {names : List Str} {n u : Nat} {Q : V → HS → Prop} (T : Base X) (hd : X.nested x = some d) (ok : Ok A (n + 1) (u + 1)) (hlen : names.length = as.length)
    (hbind : ∀ doc pm cd ct vs, vs.length = names.length → bindArgs (PySem.W.fnX d.name x d.params d.body d.scope cs .none .none doc pm none cd ct) ⟨vs, []⟩ = pure (names.zip vs))
    (hkind : names.all (fun y => d.scope.names.lookup y == some .local) = true) (hcell : ∀ y ∈ d.scope.names, y.2 ≠ .cell)
    (h : ∀ L f cd A', Ok A' n 90 → Jx X A' (envN x d L f cs cd) d.body ((L, .ns (bindsL d.scope (names.zip as) [])) :: hs) (Back Q))
    (hco : d.scope.isCoroutine = false := by rfl) (hgen : d.scope.isGenerator = false := by rfl) (hk : d.scope.kind = .function := by rfl) :
    JC X A (.clo x cs) as hs Q := fun B W s vf vs r hf hv => by
  refine Classical.byContradiction fun hno => ?_
  obtain ⟨a, o, doc, pm, c', ctv, d', oc, vs', t, rfl, e1, e2, e3, e4, e5, e6⟩ := isClo hf
  refine hno ?_
  clear hno
  rw [hd] at e2; cases e2
  have hlv : vs.length = names.length := hv.length.trans hlen.symm
  have hrec : s.heap.CodeRec (.ref c') x := ⟨c', oc, vs', t, rfl, r.froz _ _ e4, e5, e6⟩
  refine wpAny_call (codeAny_call_function (body := d.body) ok.room (r.froz _ _ e1) e3 hco hgen rfl hrec ?_)
  rw [hbind doc pm (.ref c') ctv vs hlv]
  refine wpAny_pure ?_
  have hl : ∀ y ∈ names.zip vs, d.scope.names.lookup y.1 = some .local := fun y hy => by
    obtain ⟨k, b⟩ := y
    have := List.all_eq_true.mp hkind k (List.of_mem_zip hy).1
    simpa using this
  refine wpAny_newFunctionEnv hcell hl (fun h' hns hsb => ?_) hk
  have hN := (Heap.Ns.new s.heap (.type "frame"))
  have keep : ∀ b o, s.heap.get? b = some o → h'.get? b = some o := fun b o e => hsb.extBut b o (Nat.ne_of_lt (Heap.lt_size e)) (Heap.get?_push_of_some _ e)
  refine ⟨(T.nolimit.keeps r.hbk).keeps keep, codeAny_func (body := d.body) (env := envN x d s.heap.objs.size a cs (.ref c')) ?_⟩
  have hrel : ∀ (names : List Str) (vs : List Value) (as : List V) (m : Str → Option Value) (ma : List (Str × V)), IsL X W vs as → (∀ y ∈ names, d.scope.names.lookup y = some .local) → (∀ y b, ma.lookup y = some b → ∃ v, m y = some v ∧ Is X W v b) →
      ∀ y b, (bindsL d.scope (names.zip as) ma).lookup y = some b → ∃ v, (((names.zip vs).reverse.lookup y).orElse fun _ => m y) = some v ∧ Is X W v b := by
    intro names
    induction names with
    | nil => intro vs as m ma _ _ hm y b hy; exact hm y b hy
    | cons nm nms ih =>
      intro vs as m ma hi hloc hm y b hy
      cases as with
      | nil =>
        simp only [IsL] at hi; subst hi
        exact hm y b hy
      | cons bb bs =>
        simp only [IsL] at hi
        refine Classical.byContradiction fun hno => ?_
        obtain ⟨w, r', rfl, i1, i2⟩ := hi
        refine hno ?_
        clear hno
        simp only [List.zip_cons_cons, bindsL] at hy
        rw [if_pos (hloc nm List.mem_cons_self)] at hy
        have := ih r' bs (fun z => if z = nm then some w else m z) ((nm, bb) :: ma) i2 (fun z hz => hloc z (List.mem_cons_of_mem _ hz)) (fun z c hz => by
          rw [lookup_cons_str] at hz
          by_cases e : z = nm
          · subst e; rw [if_pos rfl] at hz; cases hz; exact ⟨w, by simp, i1⟩
          · rw [if_neg e] at hz ⊢; exact hm z c hz) y b hy
        refine Classical.byContradiction fun hno => ?_
        obtain ⟨v, hv, iv⟩ := this
        refine hno ?_
        clear hno
        refine ⟨v, ?_, iv⟩
        rw [List.zip_cons_cons, List.reverse_cons, List.lookup_append]
        cases hl : (nms.zip r').reverse.lookup y with
        | some q => rw [hl] at hv; simpa using hv
        | none =>
          rw [hl] at hv
          simp only [Option.orElse] at hv ⊢
          by_cases e : y = nm
          · subst e; rw [if_pos rfl] at hv; simpa [List.lookup] using hv
          · rw [if_neg e] at hv
            have hb : (y == nm) = false := by simpa using e
            simpa [List.lookup, hb] using hv
  have r2 : Rel X B W ((s.heap.objs.size, .ns (bindsL d.scope (names.zip as) [])) :: hs) { s with heap := h', toks := s.toks + (names.zip vs).length } := by
    have r1 := r.keeps keep (Nat.le_add_right s.toks (names.zip vs).length)
    have n0 := r.none_size
    refine { r1 with objs := fun b p hm => ?_, nodup := List.pairwise_cons.mpr ⟨fun q hq e => n0.2.2 q.2 (by rw [show s.heap.objs.size = q.1 from e]; exact hq), r.nodup⟩, apB := fun b p hm => ?_, apZ := fun b p hm => ?_ }
    · rcases List.mem_cons.mp hm with e | hm
      · cases e
        refine ⟨_, hns, fun y b hy => ?_⟩
        obtain ⟨v, h1, h2⟩ := hrel names vs as (fun _ => none) [] hv (fun y hy => by have := List.all_eq_true.mp hkind y hy; simpa using this) (fun y b h => by simp at h) y b hy
        refine ⟨v, ?_, h2⟩
        cases hl : (names.zip vs).reverse.lookup y with
        | some q => rw [hl] at h1; simpa using h1
        | none => rw [hl] at h1; simp at h1
      · exact r1.objs b p hm
    · rcases List.mem_cons.mp hm with e | hm
      · cases e; exact n0.1
      · exact r.apB b p hm
    · rcases List.mem_cons.mp hm with e | hm
      · cases e; exact n0.2.1
      · exact r.apZ b p hm
  exact wpAny_mono (h s.heap.objs.size a (.ref c') _ (ok.deeper (envN x d s.heap.objs.size a cs (.ref c'))) B W _ r2) (fun f s' p => p.back) fun _ _ x => x.elim
end
end
section
section
variable {X : Fx} {A : Around} {env : Env} {hs : HS}

theorem isInt {W : Wd} {v : Value} {i : Int} (h : Is X W v (.int i)) : ∃ t, v = .int i t := by simpa only [Is] using h
theorem isBool {W : Wd} {v : Value} {b : Bool} (h : Is X W v (.bool b)) : v = .bool b := by simpa only [Is] using h
theorem isStr {W : Wd} {v : Value} {x : Str} (h : Is X W v (.str x)) : ∃ t, v = .str x t ∧ t ≠ 0 ∧ W.τ t = some x := by simpa only [Is] using h
theorem isRef {W : Wd} {v : Value} {a : Addr} (h : Is X W v (.ref a)) : v = .ref a := by simpa only [Is] using h
theorem isNone {W : Wd} {v : Value} (h : Is X W v .none) : v = .none := by simpa only [Is] using h
theorem isLst {W : Wd} {v : Value} {vs : List V} (h : Is X W v (.lst vs)) : ∃ a o ws n, v = .ref a ∧ W.Z a = some o ∧ o.cls = .type "list" ∧ o.data = .seq ws n ∧ IsL X W ws.toList vs := by simpa only [Is] using h
theorem isTup {W : Wd} {v : Value} {vs : List V} (h : Is X W v (.tup vs)) : ∃ a o ws n, v = .ref a ∧ W.Z a = some o ∧ o.cls = .type "tuple" ∧ o.data = .seq ws n ∧ IsL X W ws.toList vs := by simpa only [Is] using h
theorem is_int {W : Wd} {i : Int} {t : Tok} : Is X W (.int i t) (.int i) := by simp only [Is]; exact ⟨t, rfl⟩
theorem is_bool {W : Wd} {b : Bool} : Is X W (.bool b) (.bool b) := by simp only [Is]
theorem is_none {W : Wd} : Is X W .none .none := by simp only [Is]
theorem is_ref {W : Wd} {a : Addr} : Is X W (.ref a) (.ref a) := by simp only [Is]

theorem ans_int {B : Addr → Option Obj} {W : Wd} {s : Shared} {i : Int} {t tk : Tok} {Q : V → HS → Prop} (r : Rel X B W hs s) (h : Q (.int i) hs) (htk : s.toks ≤ tk := by exact Nat.le_succ _) : Post X B W (Is X) Q (.int i t) { s with toks := tk } :=
  .here is_int (r.toks htk) h
theorem ans_bool {B : Addr → Option Obj} {W : Wd} {s : Shared} {b : Bool} {Q : V → HS → Prop} (r : Rel X B W hs s) (h : Q (.bool b) hs) : Post X B W (Is X) Q (.bool b) s := .here is_bool r h
theorem ans_str {B : Addr → Option Obj} {W : Wd} {s : Shared} {x : Str} {Q : V → HS → Prop} (r : Rel X B W hs s) (h : Q (.str x) hs) {tk : Nat} (ht : s.toks < tk) : Post X B W (Is X) Q (.str x s.toks) { s with toks := tk } :=
  let ⟨h1, h2, h3⟩ := r.say x ht
  .mk' h1 h2 h3 h

theorem B_add {i j : Int} {Q : V → HS → Prop} (h : Q (.int (i + j)) hs) : Jb X A .Add (.int i) (.int j) hs Q := fun B W s va vb r ha hb => by
  obtain ⟨t, rfl⟩ := isInt ha; obtain ⟨u, rfl⟩ := isInt hb; exact P.add_int (ans_int r h)
theorem B_sub {i j : Int} {Q : V → HS → Prop} (h : Q (.int (i - j)) hs) : Jb X A .Sub (.int i) (.int j) hs Q := fun B W s va vb r ha hb => by
  obtain ⟨t, rfl⟩ := isInt ha; obtain ⟨u, rfl⟩ := isInt hb; exact P.sub_int (ans_int r h)
theorem B_mul {i j : Int} {Q : V → HS → Prop} (hm : IntMulOk i j) (h : Q (.int (i * j)) hs) : Jb X A .Mult (.int i) (.int j) hs Q := fun B W s va vb r ha hb => by
  obtain ⟨t, rfl⟩ := isInt ha; obtain ⟨u, rfl⟩ := isInt hb; exact P.mul_int (ans_int r h) hm
theorem B_fdiv {i j : Int} {Q : V → HS → Prop} (hj : j ≠ 0) (hp : Builtin.divisionGoesByPylong i j = false) (h : Q (.int (i.fdiv j)) hs) : Jb X A .FloorDiv (.int i) (.int j) hs Q := fun B W s va vb r ha hb => by
  obtain ⟨t, rfl⟩ := isInt ha; obtain ⟨u, rfl⟩ := isInt hb; exact floordiv_int hj (ans_int r h) (.inl hp)
theorem B_fmod {i j : Int} {Q : V → HS → Prop} (hj : j ≠ 0) (h : Q (.int (i.fmod j)) hs) : Jb X A .Mod (.int i) (.int j) hs Q := fun B W s va vb r ha hb => by
  obtain ⟨t, rfl⟩ := isInt ha; obtain ⟨u, rfl⟩ := isInt hb; exact mod_int' hj (ans_int r h)
theorem B_pow {i j : Int} {Q : V → HS → Prop} (hj : 0 ≤ j) (hp : (Builtin.Int.intBits i : Int) * j ≤ 2 ^ 27) (h : Q (.int (i ^ j.toNat)) hs) : Jb X A .Pow (.int i) (.int j) hs Q := fun B W s va vb r ha hb => by
  obtain ⟨t, rfl⟩ := isInt ha; obtain ⟨u, rfl⟩ := isInt hb; exact pow_int hj hp (ans_int r h)
theorem B_shl {i j : Int} {Q : V → HS → Prop} (hj : 0 ≤ j) (hp : (Builtin.Int.intBits i : Int) + j ≤ 2 ^ 27) (h : Q (.int (i * 2 ^ j.toNat)) hs) : Jb X A .LShift (.int i) (.int j) hs Q := fun B W s va vb r ha hb => by
  obtain ⟨t, rfl⟩ := isInt ha; obtain ⟨u, rfl⟩ := isInt hb; exact lshift_int hj hp (ans_int r h)
theorem I_shl {i j : Int} {Q : V → HS → Prop} (hj : 0 ≤ j) (hp : (Builtin.Int.intBits i : Int) + j ≤ 2 ^ 27) (h : Q (.int (i * 2 ^ j.toNat)) hs) : Ji X A .LShift (.int i) (.int j) hs Q := fun B W s va vb r ha hb => by
  obtain ⟨t, rfl⟩ := isInt ha; obtain ⟨u, rfl⟩ := isInt hb; exact ilshift_int hj hp (ans_int r h)
theorem B_shr {i j : Int} {Q : V → HS → Prop} (hj : 0 ≤ j) (h : Q (.int (i.fdiv (2 ^ j.toNat))) hs) : Jb X A .RShift (.int i) (.int j) hs Q := fun B W s va vb r ha hb => by
  obtain ⟨t, rfl⟩ := isInt ha; obtain ⟨u, rfl⟩ := isInt hb; exact rshift_int hj (ans_int r h)
theorem I_shr {i j : Int} {Q : V → HS → Prop} (hj : 0 ≤ j) (h : Q (.int (i.fdiv (2 ^ j.toNat))) hs) : Ji X A .RShift (.int i) (.int j) hs Q := fun B W s va vb r ha hb => by
  obtain ⟨t, rfl⟩ := isInt ha; obtain ⟨u, rfl⟩ := isInt hb; exact irshift_int hj (ans_int r h)
theorem B_and {i j : Int} {Q : V → HS → Prop} (h : Q (.int (Builtin.bitAnd i j)) hs) : Jb X A .BitAnd (.int i) (.int j) hs Q := fun B W s va vb r ha hb => by
  obtain ⟨t, rfl⟩ := isInt ha; obtain ⟨u, rfl⟩ := isInt hb; exact and_int (ans_int r h)
theorem B_or {i j : Int} {Q : V → HS → Prop} (h : Q (.int (Builtin.bitOr i j)) hs) : Jb X A .BitOr (.int i) (.int j) hs Q := fun B W s va vb r ha hb => by
  obtain ⟨t, rfl⟩ := isInt ha; obtain ⟨u, rfl⟩ := isInt hb; exact or_int (ans_int r h)
theorem B_xor {i j : Int} {Q : V → HS → Prop} (h : Q (.int (Builtin.bitXor i j)) hs) : Jb X A .BitXor (.int i) (.int j) hs Q := fun B W s va vb r ha hb => by
  obtain ⟨t, rfl⟩ := isInt ha; obtain ⟨u, rfl⟩ := isInt hb; exact xor_int (ans_int r h)
theorem I_add {i j : Int} {Q : V → HS → Prop} (h : Q (.int (i + j)) hs) : Ji X A .Add (.int i) (.int j) hs Q := fun B W s va vb r ha hb => by
  obtain ⟨t, rfl⟩ := isInt ha; obtain ⟨u, rfl⟩ := isInt hb; exact P.iadd_int (ans_int r h)
theorem I_sub {i j : Int} {Q : V → HS → Prop} (h : Q (.int (i - j)) hs) : Ji X A .Sub (.int i) (.int j) hs Q := fun B W s va vb r ha hb => by
  obtain ⟨t, rfl⟩ := isInt ha; obtain ⟨u, rfl⟩ := isInt hb; exact P.isub_int (ans_int r h)
theorem U_neg {i : Int} {Q : V → HS → Prop} (h : Q (.int (-i)) hs) : Ju X A .USub (.int i) hs Q := fun B W s va r ha => by
  obtain ⟨t, rfl⟩ := isInt ha; exact P.neg_int (ans_int r h)
theorem U_inv {i : Int} {Q : V → HS → Prop} (h : Q (.int (Builtin.bitNot i)) hs) : Ju X A .Invert (.int i) hs Q := fun B W s va r ha => by
  obtain ⟨t, rfl⟩ := isInt ha; exact invert_int (ans_int r h)
theorem C_eq {i j : Int} {Q : V → HS → Prop} (h : Q (.bool (i == j)) hs) : Jc X A .Eq (.int i) (.int j) hs Q := fun B W s va vb r ha hb => by
  obtain ⟨t, rfl⟩ := isInt ha; obtain ⟨u, rfl⟩ := isInt hb; exact P.eq_int (ans_bool r h)
theorem C_ne {i j : Int} {Q : V → HS → Prop} (h : Q (.bool (i != j)) hs) : Jc X A .NotEq (.int i) (.int j) hs Q := fun B W s va vb r ha hb => by
  obtain ⟨t, rfl⟩ := isInt ha; obtain ⟨u, rfl⟩ := isInt hb; exact P.ne_int (ans_bool r h)
theorem C_lt {i j : Int} {Q : V → HS → Prop} (h : Q (.bool (decide (i < j))) hs) : Jc X A .Lt (.int i) (.int j) hs Q := fun B W s va vb r ha hb => by
  obtain ⟨t, rfl⟩ := isInt ha; obtain ⟨u, rfl⟩ := isInt hb; exact P.lt_int (ans_bool r h)
theorem C_le {i j : Int} {Q : V → HS → Prop} (h : Q (.bool (decide (i ≤ j))) hs) : Jc X A .LtE (.int i) (.int j) hs Q := fun B W s va vb r ha hb => by
  obtain ⟨t, rfl⟩ := isInt ha; obtain ⟨u, rfl⟩ := isInt hb; exact P.le_int (ans_bool r h)
theorem Tr_int {i : Int} {Q : Bool → HS → Prop} (h : Q (i != 0) hs) : Jtr X A (.int i) hs Q := fun B W s va r ha => by
  obtain ⟨t, rfl⟩ := isInt ha; exact P.truthy_int (.here rfl r h)
theorem Tr_bool {b : Bool} {Q : Bool → HS → Prop} (h : Q b hs) : Jtr X A (.bool b) hs Q := fun B W s va r ha => by
  cases isBool ha; exact wpAny_truthy_bool (.here rfl r h)
theorem B_subb {p q : Bool} {Q : V → HS → Prop} (h : Q (.int (b2i p - b2i q)) hs) : Jb X A .Sub (.bool p) (.bool q) hs Q := fun B W s va vb r ha hb => by
  cases isBool ha; cases isBool hb; exact sub_bool (ans_int r h)
theorem B_subbi {p : Bool} {j : Int} {Q : V → HS → Prop} (h : Q (.int ((if p = true then (1 : Int) else 0) - j)) hs) : Jb X A .Sub (.bool p) (.int j) hs Q := fun B W s va vb r ha hb => by
  cases isBool ha; obtain ⟨u, rfl⟩ := isInt hb; exact IntBool.sub_bool_int (ans_int r h)
theorem C_eqb {p q : Bool} {Q : V → HS → Prop} (h : Q (.bool (p == q)) hs) : Jc X A .Eq (.bool p) (.bool q) hs Q := fun B W s va vb r ha hb => by
  cases isBool ha; cases isBool hb; exact eq_bool (ans_bool r h)
theorem C_neb {p q : Bool} {Q : V → HS → Prop} (h : Q (.bool (p != q)) hs) : Jc X A .NotEq (.bool p) (.bool q) hs Q := fun B W s va vb r ha hb => by
  cases isBool ha; cases isBool hb; exact ne_bool (ans_bool r h)
theorem C_eqs {x y : Str} {Q : V → HS → Prop} (h : Q (.bool (x == y)) hs) : Jc X A .Eq (.str x) (.str y) hs Q := fun B W s va vb r ha hb => by
  obtain ⟨t, rfl, _⟩ := isStr ha; obtain ⟨u, rfl, _⟩ := isStr hb; exact PyProof.Rows.eq_str (ans_bool r h)
theorem C_lts {x y : Str} {Q : V → HS → Prop} (h : Q (.bool (x.cps.toList < y.cps.toList)) hs) : Jc X A .Lt (.str x) (.str y) hs Q := fun B W s va vb r ha hb => by
  obtain ⟨t, rfl, _⟩ := isStr ha; obtain ⟨u, rfl, _⟩ := isStr hb; exact PyProof.Rows.lt_str (ans_bool r h)
theorem B_mulib {i : Int} {p : Bool} {Q : V → HS → Prop} (h : Q (.int (i * if p = true then (1 : Int) else 0)) hs) : Jb X A .Mult (.int i) (.bool p) hs Q := fun B W s va vb r ha hb => by
  obtain ⟨u, rfl⟩ := isInt ha; cases isBool hb; exact IntBool.mul_int_bool (ans_int r h)
theorem C_gts {x y : Str} {Q : V → HS → Prop} (h : Q (.bool (y.cps.toList < x.cps.toList)) hs) : Jc X A .Gt (.str x) (.str y) hs Q := fun B W s va vb r ha hb => by
  obtain ⟨t, rfl, _⟩ := isStr ha; obtain ⟨u, rfl, _⟩ := isStr hb; exact P.gt_str (ans_bool r h)
theorem str_empty_left {x y : Str} (h : (x.length == 0) = true) : x ++ y = y := by
  have : x.cps = #[] := Array.eq_empty_of_size_eq_zero (by simpa [Str.length] using h)
  obtain ⟨c⟩ := x
  subst this
  show Str.mk (#[] ++ y.cps) = y
  simp
theorem str_empty_right {x y : Str} (h : (y.length == 0) = true) : x ++ y = x := by
  have : y.cps = #[] := Array.eq_empty_of_size_eq_zero (by simpa [Str.length] using h)
  obtain ⟨c⟩ := y
  subst this
  show Str.mk (x.cps ++ #[]) = x
  simp
theorem B_adds {x y : Str} {Q : V → HS → Prop} (hx : x.length + y.length ≤ sizeLine) (h : Q (.str (x ++ y)) hs) : Jb X A .Add (.str x) (.str y) hs Q := fun B W s va vb r ha hb => by
  obtain ⟨t, rfl, h1, h2⟩ := isStr ha; obtain ⟨u, rfl, h3, h4⟩ := isStr hb
  refine P.add_str ?_
  by_cases e1 : (x.length == 0) = true
  · rw [if_pos e1]
    exact .here (b := .str (x ++ y)) (by rw [str_empty_left e1]; simp only [Is]; exact ⟨u, rfl, h3, h4⟩) r h
  · rw [if_neg e1]
    by_cases e2 : (y.length == 0) = true
    · rw [if_pos e2]
      exact .here (b := .str (x ++ y)) (by rw [str_empty_right e2]; simp only [Is]; exact ⟨t, rfl, h1, h2⟩) r h
    · rw [if_neg e2]
      exact ⟨by show (x.cps ++ y.cps).size ≤ _; rw [Array.size_append]; exact hx, ans_str r h (Nat.lt_succ_self _)⟩

theorem J_Assign_Tup {elts : List Expr} {k : Nat} {tpos : Pos} {value : Expr} {pos : Pos} {Q : Fl → HS → Prop} (h : Je X A env value hs fun b h1 => Jas X A env (.Tuple elts k tpos) b h1 fun h2 => Q .next h2)
    (hs' : swapsWithSole [.Tuple elts k tpos] value pos.line env = pure false := by rfl) (hw : swappedStores [.Tuple elts k tpos] value env = pure none := by rfl) : Js X A env (.Assign [.Tuple elts k tpos] value pos) hs Q := fun B W s r =>
  Assign_Tuple (wpAny_mono (h B W s r) (fun v s1 p0 => p0.elim fun W1 b h1 l1 i1 r1 k1 => wpAny_mono (k1 B W1 s1 v r1 i1) (fun _ s2 p0 => p0.elim fun W2 _ h2 l2 _ r2 k2 => ⟨W2, .next, h2, l1.trans l2, trivial, r2, k2⟩) fun _ _ x => x) fun _ _ x => x) hs' hw

noncomputable def JasL (X : Fx) (A : Around) (env : Env) : List Expr → List V → HS → (HS → Prop) → Prop
  | [], [], hs, Q => Q hs
  | t :: ts, b :: bs, hs, Q => Jas X A env t b hs fun h1 => JasL X A env ts bs h1 Q
  | _, _, _, _ => False
theorem JasL.run : ∀ {ts : List Expr} {bs : List V} {hs : HS} {Q : HS → Prop} (h : JasL X A env ts bs hs Q) (hst : ∀ t ∈ ts, ∀ r, assignEach (t :: r) env = (false, assign t env) :: assignEach r env) {B : Addr → Option Obj} {W : Wd} {s : Shared} {vs : List Value}, Rel X B W hs s → IsL X W vs bs →
    wpAny (M X) A (assignInOrder ((assignEach ts env).map (·.2)) vs) (Post X B W Same fun (_ : Unit) h => Q h) NoE s
  | [], [], hs, Q, h, _, B, W, s, vs, r, hv => by
    simp only [IsL] at hv; subst hv
    exact wpAny_pure (.here (b := ()) rfl r h)
  | t :: ts, b :: bs, hs, Q, h, hst, B, W, s, vs, r, hv => by
    simp only [IsL] at hv
    refine Classical.byContradiction fun hno => ?_
    obtain ⟨w, r', rfl, h1, h2⟩ := hv
    refine hno ?_
    clear hno
    rw [hst t List.mem_cons_self]
    refine wpAny_bind (wpAny_holding (wpAny_mono (h B W s w r h1) (fun _ s1 p0 => p0.elim fun W1 _ hs1 l1 _ r1 k1 => ?_) fun _ _ x => x))
    exact wpAny_mono (JasL.run k1 (fun t' ht' => hst t' (List.mem_cons_of_mem _ ht')) r1 (h2.mono l1)) (fun _ _ p => p.le l1) fun _ _ x => x
  | [], _ :: _, _, _, h, _, _, _, _, _, _, _ => h.elim
  | _ :: _, [], _, _, h, _, _, _, _, _, _, _ => h.elim
theorem Jas_Tuple {elts : List Expr} {k : Nat} {pos : Pos} {bs : List V} {Q : HS → Prop} (hh : A.handled = none) (h : JasL X A env elts bs hs Q)
    (hst : ∀ t ∈ elts, ∀ r, assignEach (t :: r) env = (false, assign t env) :: assignEach r env) (hlen : (assignEach elts env).length = bs.length) (hstar : (assignEach elts env).findIdx? (·.1) = none) :
    Jas X A env (.Tuple elts k pos) (.tup bs) hs Q := fun B W s v r hv => by
  refine Classical.byContradiction fun hno => ?_
  obtain ⟨a, o, ws, n, rfl, h1, h2, h3, h4⟩ := isTup hv
  refine hno ?_
  clear hno
  have hg := r.froz _ _ h1
  refine wpAny_assign_Tuple hh (t := a) (items := ws) ⟨o, hg, h2, n, h3⟩ (by rw [hlen, ← h4.length, Array.length_toList]) hstar fun h' he => ?_
  have n := r.none_size
  exact JasL.run h hst (r.other (a := s.heap.objs.size) n.1 n.2.1 n.2.2 he (Nat.le_refl _)) h4
theorem Jas_Name {x : Str} {pos : Pos} {b : V} {Q : HS → Prop} (h : Jst X A env x b hs Q) : Jas X A env (.Name x pos) b hs Q := fun B W s v r hv => wpAny_assign_Name (h B W s v r hv)

theorem J_AugName {x : Str} {pos' : Pos} {op : Operator} {value : Expr} {pos : Pos} {m : List (Str × V)} {a : V} {Q : Fl → HS → Prop} (hk : env.scope.kind = .function) (hl : env.kindOf x = some .local)
    (hm : (env.locals, AO.ns m) ∈ hs) (hb : m.lookup x = some a) (h : Je X A env value hs fun b h1 => Ji X A op a b h1 fun c h2 => Jst X A env x c h2 fun h3 => Q .next h3) : Js X A env (.AugAssign (.Name x pos') op value pos) hs Q := fun B W s r => by
  refine Classical.byContradiction fun hno => ?_
  obtain ⟨mc, h1, h2⟩ := r.objs _ _ hm
  refine hno ?_
  clear hno
  refine Classical.byContradiction fun hno => ?_
  obtain ⟨v, h3, h4⟩ := h2 x a hb
  refine hno ?_
  clear hno
  refine wpAny_AugAssign_Name (wpAny_loadName_local hk hl h1 h3 ?_)
  exact wpAny_mono (h B W s r) (fun w s1 p0 => p0.elim fun W1 b hs1 l1 i1 r1 k1 => wpAny_mono (k1 B W1 s1 v w r1 (h4.mono l1) i1) (fun u s2 p0 => p0.elim fun W2 c hs2 l2 i2 r2 k2 =>
    wpAny_mono (k2 B W2 s2 u r2 i2) (fun _ s3 p0 => p0.elim fun W3 _ hs3 l3 _ r3 k3 => ⟨W3, .next, hs3, (l1.trans l2).trans l3, trivial, r3, k3⟩) fun _ _ x => x) fun _ _ x => x) fun _ _ x => x

noncomputable abbrev Jgi (X : Fx) (A : Around) (a b : V) (hs : HS) (Q : V → HS → Prop) : Prop := J2 X A (Is X) getItem a b hs Q
noncomputable def Jsi (X : Fx) (A : Around) (a b c : V) (hs : HS) (Q : HS → Prop) : Prop := ∀ B W s va vb vc, Rel X B W hs s → Is X W va a → Is X W vb b → Is X W vc c → wpAny (M X) A (setItem va vb vc) (Post X B W Same fun (_ : Unit) h => Q h) NoE s
theorem J_Assign_Sub {o i : Expr} {pos' : Pos} {value : Expr} {pos : Pos} {Q : Fl → HS → Prop} (h : Je X A env value hs fun c h1 => Je X A env o h1 fun a h2 => Je X A env i h2 fun b h3 => Jsi X A a b c h3 fun h4 => Q .next h4)
    (hs' : swapsWith value (some (.Subscript o i pos')) pos.line env = pure false := by with_unfolding_all rfl) : Js X A env (.Assign [.Subscript o i pos'] value pos) hs Q := fun B W s r =>
  wpAny_Assign_Subscript (wpAny_mono (h B W s r) (fun vc s1 p0 => p0.elim fun W1 c h1 l1 i1 r1 k1 => wpAny_mono (k1 B W1 s1 r1) (fun va s2 p0 => p0.elim fun W2 a h2 l2 i2 r2 k2 => wpAny_mono (k2 B W2 s2 r2) (fun vb s3 p0 => p0.elim fun W3 b h3 l3 i3 r3 k3 =>
    wpAny_mono (k3 B W3 s3 va vb vc r3 (i2.mono l3) i3 (i1.mono (l2.trans l3))) (fun _ s4 p0 => p0.elim fun W4 _ h4 l4 _ r4 k4 => ⟨W4, .next, h4, ((l1.trans l2).trans l3).trans l4, trivial, r4, k4⟩) fun _ _ x => x) fun _ _ x => x) fun _ _ x => x) fun _ _ x => x) hs'
theorem J_AugSub {o i value : Expr} {tpos pos : Pos} {op : Operator} {Q : Fl → HS → Prop}
    (h : Je X A env o hs fun a h1 => Je X A env i h1 fun b h2 => Jgi X A a b h2 fun c h3 => Je X A env value h3 fun d h4 => Ji X A op c d h4 fun e h5 => Jsi X A a b e h5 fun h6 => Q .next h6)
    (hi : ∀ ov iv new, augStore i ov iv new = (do holding [new, ov, iv] (setItem ov iv new); release [new, ov, iv] []; pure .next) := by intros; rfl) : Js X A env (.AugAssign (.Subscript o i tpos) op value pos) hs Q := fun B W s r =>
  wpAny_AugAssign_SubscriptAny (wpAny_mono (h B W s r) (fun va s1 p0 => p0.elim fun W1 a h1 l1 i1 r1 k1 => wpAny_mono (k1 B W1 s1 r1) (fun vb s2 p0 => p0.elim fun W2 b h2 l2 i2 r2 k2 => wpAny_mono (k2 B W2 s2 va vb r2 (i1.mono l2) i2) (fun vc s3 p0 => p0.elim fun W3 c h3 l3 i3 r3 k3 =>
    wpAny_mono (k3 B W3 s3 r3) (fun vd s4 p0 => p0.elim fun W4 d h4 l4 i4 r4 k4 => wpAny_mono (k4 B W4 s4 vc vd r4 (i3.mono l4) i4) (fun ve s5 p0 => p0.elim fun W5 e h5 l5 i5 r5 k5 =>
      wpAny_mono (k5 B W5 s5 va vb ve r5 (i1.mono (((l2.trans l3).trans l4).trans l5)) (i2.mono ((l3.trans l4).trans l5)) i5) (fun _ s6 p0 => p0.elim fun W6 _ h6 l6 _ r6 k6 => ⟨W6, .next, h6, ((((l1.trans l2).trans l3).trans l4).trans l5).trans l6, trivial, r6, k6⟩)
        fun _ _ x => x) fun _ _ x => x) fun _ _ x => x) fun _ _ x => x) fun _ _ x => x) fun _ _ x => x) hi

noncomputable def Callable (X : Fx) : V → Prop
  | .fn x => ∃ a o fd, X.mg x = some (.ref a) ∧ X.hb.get? a = some o ∧ o.data = .func fd
  | .clo _ _ => True
  | .bi _ => True
  | .type _ => True
  | _ => False
theorem FnIs.callable {d : Def} (h : FnIs X d) : Callable X (.fn d.name) := let ⟨a, o, _, _, _, h1, h2, h3, _⟩ := h; ⟨a, o, _, h1, h2, h3⟩

theorem J_Call {x : Str} {p pos : Pos} {e : Expr} {es : List Expr} {Q : V → HS → Prop} (h : Je X A env (.Name x p) hs fun f h1 => Callable X f ∧ Jl X A env pos (e :: es) h1 fun as h2 => JC X A f as h2 Q)
    (he : starEach (e :: es) env = (false, eval e env) :: starEach es env := by with_unfolding_all rfl) (hp : (backTo pos (starEach es env)).any (·.1) = false := by with_unfolding_all rfl) : Je X A env (.Call (.Name x p) (e :: es) [] pos) hs Q := fun B W s r => by
  refine wpAny_Call_Name_kw (wpAny_mono (h B W s r) (fun vf s1 q0 => ?_) fun _ _ x => x)
  refine Classical.byContradiction fun hno => ?_
  obtain ⟨W1, f, h1, l1, i1, r1, hc, k1⟩ := q0
  refine hno ?_
  clear hno
  have hpl : ((false, eval e env) :: backTo pos (starEach es env)).any (·.1) = false := by rw [List.any_cons, hp]; rfl
  have main : wpAny (M X) A (spliced (backTo pos (starEach (e :: es) env))) (fun vs s2 => ∃ W2 as h2, W1.le W2 ∧ Rel X B W2 h2 s2 ∧ wpAny (M X) A (call vf vs) (Post X B W (Is X) Q) NoE s2) NoE s1 :=
    wpAny_mono (k1 B W1 s1 r1) (fun vs s2 p0 => p0.elim fun W2 as h2 l2 i2 r2 k2 => ⟨W2, as, h2, l2, r2, wpAny_mono (k2 B W2 s2 vf vs r2 (i1.mono l2) i2) (fun _ _ p => p.le (l1.trans l2)) fun _ _ x => x⟩) fun _ _ x => x
  rw [he] at main
  show wpAny (M X) A (callWith pos vf [] (backTo pos (starEach (e :: es) env)) []) _ _ s1
  rw [he]
  have hfunc : ∀ a o fd, vf = .ref a → o.data = .func fd → (∀ W2 h2 s2, W1.le W2 → Rel X B W2 h2 s2 → s2.heap.get? a = some o) → wpAny (M X) A (callWith pos vf [] (backTo pos ((false, eval e env) :: starEach es env)) []) (Post X B W (Is X) Q) NoE s1 := fun a o fd hv hd hk => by
    subst hv
    exact callWith_function (o := o) (fd := fd) (evalArgs_plain (wpAny_mono main (fun vs s2 q1 => by refine Classical.byContradiction fun hno => ?_; obtain ⟨W2, as, h2, l2, r2, k2⟩ := q1; exact hno (⟨⟨hk W2 h2 s2 l2 r2, hd⟩, k2⟩)) fun _ _ x => x))
  cases f with
  | fn x =>
    refine Classical.byContradiction fun hno => ?_
    obtain ⟨a, o, fd, e1, e2, e3⟩ := hc
    refine hno ?_
    clear hno
    simp only [Is] at i1
    refine Classical.byContradiction fun hno => ?_
    obtain ⟨a', rfl, e1'⟩ := i1
    refine hno ?_
    clear hno
    rw [e1] at e1'; cases e1'
    exact hfunc a o fd rfl e3 fun W2 h2 s2 _ r2 => r2.hbk _ _ e2
  | clo x cs =>
    refine Classical.byContradiction fun hno => ?_
    obtain ⟨a, o, doc, pm, c', ctv, d, oc, vs, t, rfl, e1, e0, e2, _⟩ := isClo i1
    refine hno ?_
    clear hno
    exact hfunc a o _ rfl e2 fun W2 h2 s2 l2 r2 => r2.froz _ _ (l2.1 _ _ e1)
  | bi id =>
    simp only [Is] at i1
    subst i1
    exact callWith_builtin hpl (evalArgs_plain (wpAny_mono main (fun vs s2 q2 => by refine Classical.byContradiction fun hno => ?_; obtain ⟨W2, as, h2, l2, r2, k2⟩ := q2; exact hno (k2)) fun _ _ x => x))
  | type T =>
    simp only [Is] at i1
    subst i1
    exact PySem.callWith_type hpl (evalArgs_plain (wpAny_mono main (fun vs s2 q3 => by refine Classical.byContradiction fun hno => ?_; obtain ⟨W2, as, h2, l2, r2, k2⟩ := q3; exact hno (k2)) fun _ _ x => x))
  | _ => exact hc.elim
end
end
section
noncomputable def Out (own : List Addr) (B : Addr → Option Obj) (W : Wd) (hs : HS) : Prop := ∀ a ∈ own, B a = none ∧ W.Z a = none ∧ ∀ o, (a, o) ∉ hs

noncomputable def holdL (B : Addr → Option Obj) (own : List Addr) (h : Heap) : Addr → Option Obj := fun b => if b ∈ own then h.get? b else B b

namespace Rel
variable {X : Fx} {B : Addr → Option Obj} {W : Wd} {hs hs' : HS} {s : Shared} {own : List Addr}

theorem others (r : Rel X B W hs s) (ho : Out own B W hs) {h' : Heap} {tk : Nat} (hk : ∀ b o, b ∉ own → s.heap.get? b = some o → h'.get? b = some o) (ht : s.toks ≤ tk) : Rel X B W hs { s with heap := h', toks := tk } :=
  { r with
    base := fun b p e => hk b p (fun q => by rw [(ho b q).1] at e; cases e) (r.base b p e)
    froz := fun b p e => hk b p (fun q => by rw [(ho b q).2.1] at e; cases e) (r.froz b p e)
    objs := fun b p hm => (r.objs b p hm).at fun o e => hk b o (fun q => (ho b q).2.2 p hm) e
    tok := fun t x e => Nat.lt_of_lt_of_le (r.tok t x e) ht
    pos := Nat.lt_of_lt_of_le r.pos ht }

theorem out_fresh (r : Rel X B W hs s) {a : Addr} (ha : s.heap.objs.size ≤ a) : B a = none ∧ W.Z a = none ∧ ∀ o, (a, o) ∉ hs := by
  refine ⟨?_, ?_, fun o hm => ?_⟩
  · cases h : B a with
    | none => rfl
    | some o => exact absurd (Heap.lt_size (r.base _ _ h)) (Nat.not_lt.mpr ha)
  · cases h : W.Z a with
    | none => rfl
    | some o => exact absurd (Heap.lt_size (r.froz _ _ h)) (Nat.not_lt.mpr ha)
  · obtain ⟨ob, h⟩ := (r.objs _ _ hm).some
    exact absurd (Heap.lt_size h) (Nat.not_lt.mpr ha)

theorem freezeAt (r : Rel X B W hs s) {a : Addr} {o : Obj} (ho : s.heap.get? a = some o) (hf : B a = none ∧ W.Z a = none ∧ ∀ o, (a, o) ∉ hs) : W.le (W.froze a o) ∧ Rel X B (W.froze a o) hs s := by
  have le := Wd.le_froze (o := o) hf.2.1
  refine ⟨le, { r with froz := fun b p e => ?_, sep := fun b p e => ?_, objs := fun c p hc => (r.objs c p hc).mono le, apZ := fun c p hc => ?_, tok := r.tok }⟩
  · by_cases hb : b = a
    · subst hb
      rw [Wd.froze_self] at e; cases e; exact ho
    · exact r.froz b p (by simpa [Wd.froze, hb] using e)
  · by_cases hb : b = a
    · subst hb; exact .inl hf.1
    · exact r.sep b p (by simpa [Wd.froze, hb] using e)
  · have hca : c ≠ a := fun e => hf.2.2 p (e ▸ hc)
    simpa [Wd.froze, hca] using r.apZ c p hc

theorem holdL (r : Rel X B W hs s) (ho : Out own B W hs) : Rel X (holdL B own s.heap) W hs s :=
  { r with
    hb := fun b p e => by
      have := r.hb b p e
      by_cases hb : b ∈ own
      · rw [(ho b hb).1] at this; cases this
      · simpa [Mine.holdL, hb] using this
    base := fun b p e => by
      by_cases hb : b ∈ own
      · simpa [Mine.holdL, hb] using e
      · exact r.base b p (by simpa [Mine.holdL, hb] using e)
    sep := fun b p e => by
      by_cases hb : b ∈ own
      · rw [(ho b hb).2.1] at e; cases e
      · simpa [Mine.holdL, hb] using r.sep b p e
    apB := fun b p hm => by
      by_cases hb : b ∈ own
      · exact absurd hm ((ho b hb).2.2 p)
      · simpa [Mine.holdL, hb] using r.apB b p hm }
theorem unholdL {h₀ : Heap} (r : Rel X (Mine.holdL B own h₀) W hs s) (hb : ∀ b o, X.hb.get? b = Option.some o → B b = Option.some o) (ho : ∀ a ∈ own, B a = none) (hex : ∀ a ∈ own, ∃ o, h₀.get? a = Option.some o) :
    Rel X B W hs s ∧ Out own B W hs ∧ ∀ a ∈ own, ∀ o, h₀.get? a = Option.some o → s.heap.get? a = Option.some o := by
  have hself : ∀ a ∈ own, Mine.holdL B own h₀ a = h₀.get? a := fun a ha => by simp [Mine.holdL, ha]
  have sub : ∀ b p, B b = Option.some p → Mine.holdL B own h₀ b = Option.some p := fun b p e => by
    have hne : b ∉ own := fun q => by rw [ho b q] at e; cases e
    simpa [Mine.holdL, hne] using e
  have none' : ∀ b, Mine.holdL B own h₀ b = none → B b = none := fun b e => by
    cases h : B b with
    | none => rfl
    | some p => rw [sub b p h] at e; cases e
  refine ⟨{ r with hb := hb, base := fun b p e => r.base b p (sub b p e), sep := fun b p e => (r.sep b p e).imp (none' b) id, apB := fun b p hm => none' b (r.apB b p hm) }, fun a ha => ⟨ho a ha, ?_, fun p hm => ?_⟩, fun a ha o e => r.base a o (by rw [hself a ha]; exact e)⟩
  · cases h : W.Z a with
    | none => rfl
    | some p =>
      obtain ⟨o, e⟩ := hex a ha
      rcases r.sep a p h with this | this
      · rw [hself a ha, e] at this; cases this
      · exact absurd (hb a p this) (by rw [ho a ha]; simp)
  · have := r.apB a p hm
    obtain ⟨o, e⟩ := hex a ha
    rw [hself a ha, e] at this; cases this
end Rel

section
variable {X : Fx} {A : Around} {env : Env} {hs : HS}

structure Itr (X : Fx) (own : List Addr) (I : Addr) (tg : Bool) (St : List V → Wd → Heap → Prop) : Prop where
  has : ∀ {r W h}, St r W h → ∀ a ∈ own, ∃ o, h.get? a = some o
  frame : ∀ {r W W' h h'}, St r W h → W.le W' → (∀ b ∈ own, ∀ o, h.get? b = some o → h'.get? b = some o) → St r W' h'
  next : ∀ {A : Around} {B W hs s b r} (target : Expr), A.handled = none → (tg = true → ∃ es k p, target = .Tuple es k p) → Rel X B W hs s → Out own B W hs → St (b :: r) W s.heap →
    wpAny (M X) A (pyNext (.ref I)) (fun o s1 => ∃ v, o = some v ∧ wpAny (M X) A (letOwnedTupleGo target (.ref I) v) (fun _ s2 => ∃ W', W.le W' ∧ Is X W' v b ∧ Rel X B W' hs s2 ∧ Out own B W' hs ∧ St r W' s2.heap) NoE s1) NoE s
  stop : ∀ {A : Around} {B W hs s}, A.handled = none → Rel X B W hs s → Out own B W hs → St [] W s.heap → wpAny (M X) A (pyNext (.ref I)) (fun o s1 => o = none ∧ Rel X B W hs s1) NoE s
  self : ∀ {A : Around} {r W s} {Q : Value → Shared → Prop}, St r W s.heap → Q (.ref I) s → wpAny (M X) A (pyIter (.ref I)) Q NoE s

noncomputable def Src (X : Fx) (A : Around) (env : Env) (iter : Expr) (tg : Bool) (hs : HS) (K : List V → HS → Prop) : Prop :=
  ∀ B W s, Rel X B W hs s → wpAny (M X) A (eval iter env) (fun x s1 => wpAny (M X) A (pyIter x) (fun it s2 => ∃ W' hs' own I St vs, W.le W' ∧ it = .ref I ∧ Itr X own I tg St ∧ Rel X B W' hs' s2 ∧ Out own B W' hs' ∧ St vs W' s2.heap ∧ K vs hs') NoE s1) NoE s

noncomputable def Itb (X : Fx) (A : Around) (tg : Bool) (a : V) (vs : List V) : Prop :=
  ∀ B W hs s va, Rel X B W hs s → Is X W va a → wpAny (M X) A (pyIter va) (fun it s2 => ∃ W' own I St, W.le W' ∧ it = .ref I ∧ Itr X own I tg St ∧ Rel X B W' hs s2 ∧ Out own B W' hs ∧ St vs W' s2.heap) NoE s
theorem Src_val {iter : Expr} {tg : Bool} {K : List V → HS → Prop} (h : Je X A env iter hs fun a h1 => ∃ vs, Itb X A tg a vs ∧ K vs h1) : Src X A env iter tg hs K := fun B W s r =>
  wpAny_mono (h B W s r) (fun x s1 q4 => by refine Classical.byContradiction fun hno => ?_; obtain ⟨W1, a, h1, l1, i1, r1, vs, k1, k2⟩ := q4; exact hno (wpAny_mono (k1 B W1 h1 s1 x r1 i1) (fun it s2 q5 => by obtain ⟨W', own, I, St, l2, e, a1, a2, a3, a4⟩ := q5; exact ⟨W', h1, own, I, St, vs, l1.trans l2, e, a1, a2, a3, a4, k2⟩) fun _ _ x => x)) fun _ _ x => x

noncomputable def Loop (X : Fx) (A : Around) (env : Env) (target : Expr) (body : List Stmt) : List V → HS → (Fl → HS → Prop) → Prop
  | [], hs, Q => Q .next hs
  | b :: r, hs, Q => Jas X A env target b hs fun h1 => Jx X A env body h1 fun f h2 => match f with
    | .next => Loop X A env target body r h2 Q
    | .cont => Loop X A env target body r h2 Q
    | .brk => Q .next h2
    | .ret v => Q (.ret v) h2

theorem J_For {target iter : Expr} {body : List Stmt} {pos : Pos} {tg : Bool} {Q : Fl → HS → Prop} (hh : A.handled = none) (htg : tg = true → ∃ es k p, target = .Tuple es k p)
    (h : Src X A env iter tg hs fun vs h1 => Loop X A env target body vs h1 Q) (hs' : ∀ x, foldedSetIterable iter env x = pure x := by intro _; rfl) : Js X A env (.For target iter body [] pos) hs Q := fun B W s r => by
  refine wpAny_For (wpAny_mono (h B W s r) (fun x s1 k1 => wpAny_mono k1 (fun it s2 q6 => ?_) fun _ _ x => x) fun _ _ x => x) hs'
  refine Classical.byContradiction fun hno => ?_
  obtain ⟨W2, hs2, own, I, St, vs, l2, e, T, r2, o2, st2, k2⟩ := q6
  refine hno ?_
  clear hno
  subst e
  refine codeAny_loop' (c := .forLoop target (.ref I) body [] env) rfl (fun n s => ∃ W' hs' vs, n = vs.length ∧ W2.le W' ∧ Rel X B W' hs' s ∧ Out own B W' hs' ∧ St vs W' s.heap ∧ Loop X A env target body vs hs' Q) (fun n s3 q0 => ?_) vs.length ⟨W2, hs2, vs, rfl, .refl _, r2, o2, st2, k2⟩
  refine Classical.byContradiction fun hno => ?_
  obtain ⟨W3, hs3, vs3, en, l3, r3, o3, st3, k3⟩ := q0
  refine hno ?_
  clear hno
  show wpAny _ _ ((forTurn target (.ref I) body [] env).onRaise (fun x => do noteFrame x env; theTreesLotGoes x)) _ _ s3
  refine wpAny_noted ?_
  simp only [forTurn]
  refine wpAny_bind (wpAny_standAt (wpAny_bind (wpAny_onRaise ?_)))
  cases vs3 with
  | nil =>
    refine wpAny_mono (T.stop (A := A) hh r3 o3 st3) (fun o s4 q1 => ?_) fun _ _ x => x.elim
    obtain ⟨e, r4⟩ := q1
    subst e
    refine wpAny_pure (.inr ⟨rfl, codeAny_block (wpAny_execs_nil ?_)⟩)
    exact ⟨W3, .next, hs3, l2.trans l3, trivial, r4, k3⟩
  | cons b vs3 =>
    refine wpAny_mono (T.next (A := A) target hh htg r3 o3 st3) (fun o s4 q2 => ?_) fun _ _ x => x.elim
    refine Classical.byContradiction fun hno => ?_
    obtain ⟨v, e, k4⟩ := q2
    refine hno ?_
    clear hno
    subst e
    refine wpAny_bind (wpAny_mono k4 (fun _ s5 q3 => ?_) fun _ _ x => x.elim)
    refine Classical.byContradiction fun hno => ?_
    obtain ⟨W5, l5, i5, r5, o5, st5⟩ := q3
    refine hno ?_
    clear hno
    have hr5 := r5.holdL o5
    refine wpAny_bind (wpAny_mono (k3 _ W5 s5 v hr5 i5) (fun _ s6 p0 => p0.elim fun W6 _ h6 l6 _ r6 k6 => wpAny_bind (wpAny_mono (k6 _ W6 s6 r6) (fun f s7 p0 => p0.elim fun W7 f' h7 l7 i7 r7 k7 => ?_) fun _ _ x => x.elim)) fun _ _ x => x.elim)
    refine Classical.byContradiction fun hno => ?_
    obtain ⟨r8, o8, hk8⟩ := r7.unholdL r3.hb (fun a ha => (o3 a ha).1) (T.has st5)
    refine hno ?_
    clear hno
    have le := ((l3.trans l5).trans l6).trans l7
    have st8 := T.frame st5 (l6.trans l7) hk8
    cases f <;> cases f' <;> first
      | exact i7.elim
      | exact wpAny_pure (.inl ⟨rfl, vs3.length, by rw [en]; exact Nat.lt_succ_self _, W7, h7, vs3, rfl, le, r8, o8, st8, k7⟩)
      | exact wpAny_pure ⟨W7, .next, h7, l2.trans le, trivial, r8, k7⟩
      | exact wpAny_pure ⟨W7, _, h7, l2.trans le, i7, r8, k7⟩

theorem go_other {s : Shared} {I : Addr} {T : String} (hT : ∃ o, s.heap.get? I = some o ∧ o.cls = .type T ∧ (["enumerate", "zip", "dict_itemiterator", "dict_reverseitemiterator", "odict_iterator", "itertools.zip_longest", "itertools.pairwise"].contains T) = false) (target : Expr) (w : Value) {Q : Unit → Shared → Prop} (hq : Q () s) :
    wpAny (M X) A (letOwnedTupleGo target (.ref I) w) Q NoE s := by
  refine Classical.byContradiction fun hno => ?_
  obtain ⟨o, ho, hc, hn⟩ := hT
  refine hno ?_
  clear hno
  have core : ∀ a, wpAny (M X) A (do
      let o ← load I
      match o.cls, o.data with
      | .type n, .fields vs =>
        if ["enumerate", "zip", "dict_itemiterator", "dict_reverseitemiterator", "odict_iterator", "itertools.zip_longest", "itertools.pairwise"].contains n && vs[0]? == some (rawInt a) then
          rule "for.unpacks-the-owned-tuple"
          updateField I 0 .none
      | _, _ => pure ()) Q NoE s := fun a => by
    refine wpAny_bind (wpAny_load ho ?_)
    rw [hc]
    cases o.data with
    | fields vs =>
      dsimp only
      rw [hn, Bool.false_and]
      exact wpAny_pure hq
    | _ => exact wpAny_pure hq
  cases target <;> first
    | exact wpAny_pure hq
    | (cases w <;> first
        | exact wpAny_pure hq
        | exact core _)

theorem Itr.list {I l : Addr} {o : Obj} {ws : Array Value} {n : Nat} {vs : List V} (hc : o.cls = .type "list") (hd : o.data = .seq ws n) (hne : l ≠ I) : Itr X [I] I false fun r W h => h.IsListIter I l (vs.length - r.length) ∧ W.Z l = some o ∧ IsL X W ws.toList vs ∧ r = vs.drop (vs.length - r.length) where
  has := fun q4 a ha => by obtain ⟨⟨o, h, _⟩, _⟩ := q4; rw [List.mem_singleton.mp ha]; exact ⟨o, h⟩
  frame := fun q5 le hk => by refine Classical.byContradiction fun hno => ?_; obtain ⟨h1, h2, h3, h4⟩ := q5; exact hno (⟨let ⟨o, ho, r⟩ := h1; ⟨o, hk I (by simp) o ho, r⟩, le.1 _ _ h2, h3.mono le, h4⟩)
  next := fun {A B W hs s b r} target hh _ rel out ⟨h1, h2, h3, h4⟩ => by
    have hlen : r.length + 1 ≤ vs.length := by
      have := congrArg List.length h4
      simp only [List.length_cons, List.length_drop] at this
      (first | lia | omega)
    have hb : vs[vs.length - (r.length + 1)]? = some b := by
      have : (vs.drop (vs.length - (r.length + 1)))[0]? = some b := by rw [List.length_cons] at h4; rw [← h4]; rfl
      simpa using this
    have hr : r = vs.drop (vs.length - r.length) := by
      have : (b :: r).drop 1 = (vs.drop (vs.length - (r.length + 1))).drop 1 := by rw [List.length_cons] at h4; rw [← h4]
      rw [List.drop_drop, show vs.length - (r.length + 1) + 1 = vs.length - r.length by (first | lia | omega)] at this
      exact this
    refine Classical.byContradiction fun hno => ?_
    obtain ⟨w, hw, iw⟩ := h3.get hb
    refine hno ?_
    clear hno
    have hw' : ws[vs.length - (r.length + 1)]? = some w := by rw [← Array.getElem?_toList]; exact hw
    rw [List.length_cons] at h1
    refine wpAny_pyNext_list_item h1 ⟨o, rel.froz _ _ h2, hc, n, hd⟩ hw' fun h' hit hsb => ⟨w, rfl, ?_⟩
    have fin : ∀ (Q : Unit → Shared → Prop), Q () { s with heap := h' } → wpAny (M X) A (letOwnedTupleGo target (.ref I) w) Q NoE { s with heap := h' } := fun Q hq => go_other (s := { s with heap := h' }) (T := "list_iterator") (let ⟨o, ho, hc, hd⟩ := hit; ⟨o, ho, hc, by decide⟩) target w hq
    refine fin _ ⟨W, .refl _, iw, rel.others out (fun b p hb e => hsb.extBut b p (fun q => hb (by rw [q]; repeat' first | exact List.Mem.head _ | apply List.Mem.tail)) e) (Nat.le_refl _), out, ?_, h2, h3, hr⟩
    rw [show vs.length - (r.length + 1) + 1 = vs.length - r.length by (first | lia | omega)] at hit
    exact hit
  stop := fun {A B W hs s} hh rel out ⟨h1, h2, h3, h4⟩ => by
    rw [List.length_nil, Nat.sub_zero] at h1
    refine wpAny_pyNext_list_end hh h1 ⟨o, rel.froz _ _ h2, hc, n, hd⟩ (by rw [← h3.length]; simp) fun h' he => ⟨rfl, ?_⟩
    exact rel.others out (fun b p hb e => he b p (fun q => hb (by rw [q]; repeat' first | exact List.Mem.head _ | apply List.Mem.tail)) e) (Nat.le_refl _)
  self := fun q6 hq => by obtain ⟨h1, _⟩ := q6; exact wpAny_pyIter_listiter h1 hq
end
end
section
section
variable {X : Fx} {A : Around} {env : Env} {hs : HS}

theorem isBytes {W : Wd} {v : Value} {b : List UInt8} (h : Is X W v (.bytes b)) : ∃ t, v = .bytes b.toArray t := by simpa only [Is] using h
theorem isDct {W : Wd} {v : Value} {ks : List Str} {vs : List V} (h : Is X W v (.dct ks vs)) : ∃ a o es n, v = .ref a ∧ W.Z a = some o ∧ o.ExactDict ∧ o.data = .dict es n ∧ KeysR X W es.toList ks ∧ ks.Nodup ∧ IsL X W (es.toList.map (·.val)) vs ∧ (a == sysModules) = false := by simpa only [Is] using h

noncomputable def TyAt (X : Fx) (hs : HS) (a : V) (T : String) : Prop := ∀ B W s va, Rel X B W hs s → Is X W va a → s.TypeIs va T
theorem TyAt.lst {vs : List V} : TyAt X hs (.lst vs) "list" := fun B W s va r h => by
  obtain ⟨a, o, ws, n, rfl, h1, h2, _⟩ := isLst h; exact ⟨o, r.froz _ _ h1, h2⟩
theorem TyAt.tup {vs : List V} : TyAt X hs (.tup vs) "tuple" := fun B W s va r h => by
  obtain ⟨a, o, ws, n, rfl, h1, h2, _⟩ := isTup h; exact ⟨o, r.froz _ _ h1, h2⟩
theorem TyAt.dct {ks : List Str} {vs : List V} : TyAt X hs (.dct ks vs) "dict" := fun B W s va r h => by
  obtain ⟨a, o, ws, n, rfl, h1, h2, _⟩ := isDct h; exact ⟨o, r.froz _ _ h1, h2.1⟩
theorem TyAt.str {x : Str} : TyAt X hs (.str x) "str" := fun B W s va r h => by
  obtain ⟨t, rfl, _⟩ := isStr h; exact typeIs_str s x t
theorem TyAt.bytes {b : List UInt8} : TyAt X hs (.bytes b) "bytes" := fun B W s va r h => by
  obtain ⟨t, rfl⟩ := isBytes h; rfl
theorem TyAt.list {a : Addr} {vs : List V} (hm : (a, AO.list vs) ∈ hs) : TyAt X hs (.ref a) "list" := fun B W s va r h => by
  cases isRef h
  refine Classical.byContradiction fun hno => ?_
  obtain ⟨ws, n, h1, _⟩ := r.objs _ _ hm
  refine hno ?_
  clear hno
  exact ⟨_, h1, rfl⟩
theorem TyAt.dict {a : Addr} {es : List (Str × V)} (hm : (a, AO.dict es) ∈ hs) : TyAt X hs (.ref a) "dict" := fun B W s va r h => by
  cases isRef h
  refine Classical.byContradiction fun hno => ?_
  obtain ⟨o, ws, n, h1, h2, _⟩ := r.objs _ _ hm
  refine hno ?_
  clear hno
  exact ⟨o, h1, h2.1⟩

noncomputable def HasGet (T : String) : Prop := ∃ id, typeLookup (.type T) "__getitem__" = pure (some (.builtin id))
theorem hasGet_list : HasGet "list" := ⟨_, slot_list_getitem.lookup⟩
theorem hasGet_tuple : HasGet "tuple" := ⟨_, slot_tuple_getitem.lookup⟩
theorem hasGet_str : HasGet "str" := ⟨_, F.slot_str_getitem.lookup⟩
theorem hasGet_bytes : HasGet "bytes" := ⟨_, PySem.W.FB.slot_bytes_getitem.lookup⟩
theorem hasGet_dict : HasGet "dict" := ⟨_, F.slot_dict_getitem.lookup⟩

theorem J_Sub {value slice : Expr} {pos : Pos} {Q : V → HS → Prop} (h : Je X A env value hs fun a h1 => Je X A env slice h1 fun b h2 => ∃ T, TyAt X h2 a T ∧ HasGet T ∧ Jgi X A a b h2 Q)
    (hsl : ∀ o i, subscripted slice false o i = operate [o, i] (getItem o i) := by with_unfolding_all (intros; rfl)) : Je X A env (.Subscript value slice pos) hs Q := fun B W s r =>
  Subscript_ (wpAny_mono (h B W s r) (fun va s1 p0 => p0.elim fun W1 a h1 l1 i1 r1 k1 => wpAny_mono (k1 B W1 s1 r1) (fun vb s2 ⟨W2, b, h2, l2, i2, r2, T, hT, ⟨id, hg⟩, k2⟩ =>
    tail_any (hT B W2 s2 va r2 (i1.mono l2)) hg (wpAny_mono (k2 B W2 s2 va vb r2 (i1.mono l2) i2) (fun _ _ p => p.le (l1.trans l2)) fun _ _ x => x) (hsl va vb)) fun _ _ x => x) fun _ _ x => x)

theorem G_lst {vs : List V} {i : Int} {b : V} {Q : V → HS → Prop} (h0 : 0 ≤ i) (hf : i < 2 ^ 63) (hb : vs[i.toNat]? = some b) (h : Q b hs) : Jgi X A (.lst vs) (.int i) hs Q := fun B W s va vb r ha hi => by
  refine Classical.byContradiction fun hno => ?_
  obtain ⟨a, o, ws, n, rfl, h1, h2, h3, h4⟩ := isLst ha
  refine hno ?_
  clear hno
  obtain ⟨t, rfl⟩ := isInt hi
  refine Classical.byContradiction fun hno => ?_
  obtain ⟨w, hw, iw⟩ := h4.get hb
  refine hno ?_
  clear hno
  exact wpAny_getItem_list ⟨o, r.froz _ _ h1, h2, n, h3⟩ h0 hf (by rw [← Array.getElem?_toList]; exact hw) (.here iw r h)
theorem G_list {a : Addr} {vs : List V} {i : Int} {b : V} {Q : V → HS → Prop} (hm : (a, AO.list vs) ∈ hs) (h0 : 0 ≤ i) (hf : i < 2 ^ 63) (hb : vs[i.toNat]? = some b) (h : Q b hs) : Jgi X A (.ref a) (.int i) hs Q := fun B W s va vb r ha hi => by
  cases isRef ha
  refine Classical.byContradiction fun hno => ?_
  obtain ⟨ws, n, h1, h4⟩ := r.objs _ _ hm
  refine hno ?_
  clear hno
  obtain ⟨t, rfl⟩ := isInt hi
  refine Classical.byContradiction fun hno => ?_
  obtain ⟨w, hw, iw⟩ := h4.get hb
  refine hno ?_
  clear hno
  exact wpAny_getItem_list ⟨_, h1, rfl, n, rfl⟩ h0 hf (by rw [← Array.getElem?_toList]; exact hw) (.here iw r h)
theorem G_tup {vs : List V} {i : Int} {b : V} {Q : V → HS → Prop} (h0 : 0 ≤ i) (hf : i < 2 ^ 63) (hb : vs[i.toNat]? = some b) (h : Q b hs) : Jgi X A (.tup vs) (.int i) hs Q := fun B W s va vb r ha hi => by
  refine Classical.byContradiction fun hno => ?_
  obtain ⟨a, o, ws, n, rfl, h1, h2, h3, h4⟩ := isTup ha
  refine hno ?_
  clear hno
  obtain ⟨t, rfl⟩ := isInt hi
  refine Classical.byContradiction fun hno => ?_
  obtain ⟨w, hw, iw⟩ := h4.get hb
  refine hno ?_
  clear hno
  have hw' : ws[i.toNat]? = some w := by rw [← Array.getElem?_toList]; exact hw
  have hlt : i.toNat < ws.size := (Array.getElem?_eq_some_iff.mp hw').1
  exact getItem_tuple ⟨o, r.froz _ _ h1, h2, n, h3⟩ (by (first | lia | omega)) hf (seqIndex_of h0 (by (first | lia | omega))) hw' (.here iw r h)
theorem G_str {x : Str} {i : Int} {c : Nat} {Q : V → HS → Prop} (h0 : 0 ≤ i) (hf : i < 2 ^ 63) (hc : x.cps[i.toNat]? = some c) (h : Q (.str ⟨#[c]⟩) hs) : Jgi X A (.str x) (.int i) hs Q := fun B W s va vb r ha hi => by
  refine Classical.byContradiction fun hno => ?_
  obtain ⟨t, rfl, _⟩ := isStr ha
  refine hno ?_
  clear hno
  obtain ⟨u, rfl⟩ := isInt hi
  have hlt : i.toNat < x.cps.size := (Array.getElem?_eq_some_iff.mp hc).1
  refine P.getItem_str (c := c) (by simp only [Bool.or_eq_false_iff, decide_eq_false_iff_not]; (first | lia | omega)) ?_ (ans_str r h (Nat.lt_succ_self _))
  rw [seqIndex_of h0 (by show i < (x.cps.size : Nat); (first | lia | omega))]
  exact hc

noncomputable abbrev Jp (X : Fx) (A : Around) (env : Env) (e : Option Expr) (hs : HS) (Q : V → HS → Prop) : Prop := J X A (Is X) (evalPart e env) hs Q
theorem Jp_none {Q : V → HS → Prop} (h : Q .none hs) : Jp X A env none hs Q := fun _ _ _ r => wpAny_pure (.here is_none r h)
theorem Jp_some {e : Expr} {Q : V → HS → Prop} (h : Je X A env e hs Q) : Jp X A env (some e) hs Q := h
noncomputable def Jsl (X : Fx) (A : Around) (a lo hi : V) (hs : HS) (Q : V → HS → Prop) : Prop :=
  ∀ B W s va vl vu sl, Rel X B W hs s → Is X W va a → Is X W vl lo → Is X W vu hi → s.heap.get? sl = some { cls := .type "slice", data := .fields #[vl, vu, .none] } → wpAny (M X) A (getItem va (.ref sl)) (Post X B W (Is X) Q) NoE s
theorem J_Slice {value : Expr} {lower upper : Option Expr} {p pos : Pos} {Q : V → HS → Prop}
    (h : Je X A env value hs fun a h1 => Jp X A env lower h1 fun lo h2 => Jp X A env upper h2 fun hi h3 => ∃ T, TyAt X h3 a T ∧ HasGet T ∧ Jsl X A a lo hi h3 Q) :
    Je X A env (.Subscript value (.Slice lower upper none p) pos) hs Q := fun B W s r =>
  Subscript_ (wpAny_mono (h B W s r) (fun va s1 p0 => p0.elim fun W1 a h1 l1 i1 r1 k1 => wpAny_Slice (wpAny_mono (k1 B W1 s1 r1) (fun vl s2 p0 => p0.elim fun W2 lo h2 l2 i2 r2 k2 => wpAny_mono (k2 B W2 s2 r2) (fun vu s3 q0 => by
    refine Classical.byContradiction fun hno => ?_
    obtain ⟨W3, hi, h3, l3, i3, r3, T, hT, ⟨id, hg⟩, k3⟩ := q0
    refine hno ?_
    clear hno
    have r4 := r3.push { cls := .type "slice", data := .fields #[vl, vu, .none] }
    exact wpAny_pure (tail_any (hT B W3 _ va r4 (i1.mono (l2.trans l3))) hg (wpAny_mono (k3 B W3 _ va vl vu _ r4 (i1.mono (l2.trans l3)) (i2.mono l3) i3 (Heap.get?_push_size _ rfl)) (fun _ _ p => p.le (l1.trans (l2.trans l3))) fun _ _ x => x) rfl)) fun _ _ x => x) fun _ _ x => x)) fun _ _ x => x)

noncomputable def optI : Option Int → V
  | none => .none
  | some i => .int i
theorem isPart {W : Wd} {v : Value} {o : Option Int} (h : Is X W v (optI o)) : IsPart v o := by
  cases o with
  | none => cases isNone h; exact .none
  | some i => obtain ⟨t, rfl⟩ := isInt h; exact .int i t
noncomputable def cutL {α : Type} (vs : List α) (lo hi : Option Int) : List α := (vs.take (hi.elim vs.length (clipAt vs.length))).drop (lo.elim 0 (clipAt vs.length))
theorem pick_gen {α : Type} (xs : Array α) (a b : Nat) (hb : b ≤ xs.size) : (sliceRange (a : Int) (b : Int) 1).filterMap (xs[·]?) = (xs.toList.take b).drop a := by
  rw [sliceRange_one, pick_run]
  rw [List.drop_take]
theorem clipAt_le (n : Nat) (i : Int) : clipAt n i ≤ n := by have := clipAt_cast n i; (first | lia | omega)
theorem elim_le (n : Nat) (o : Option Int) : o.elim n (clipAt n) ≤ n := by cases o with | none => exact Nat.le_refl _ | some i => exact clipAt_le n i
theorem slicePick_cut (items : Array Value) (lo hi : Option Int) : (slicePick items lo hi none).toList = cutL items.toList lo hi := by
  unfold slicePick cutL
  rw [sliceBounds_plain]
  dsimp only
  have hle : hi.elim items.size (clipAt items.size) ≤ items.size := elim_le _ _
  have := pick_gen items (lo.elim 0 (clipAt items.size)) (hi.elim items.size (clipAt items.size)) hle
  rw [Array.length_toList]
  exact this
theorem IsL.cut {W : Wd} {ws : List Value} {vs : List V} (h : IsL X W ws vs) (lo hi : Option Int) : IsL X W (cutL ws lo hi) (cutL vs lo hi) := by
  unfold cutL
  rw [h.length]
  exact (h.take _).drop _
theorem Sl_lst {vs : List V} {lo hi : Option Int} {Q : V → HS → Prop} (hsz : vs.length ≤ sizeLine) (h : Q (.lst (cutL vs lo hi)) hs) : Jsl X A (.lst vs) (optI lo) (optI hi) hs Q := fun B W s va vl vu sl r ha hl hu hsl => by
  refine Classical.byContradiction fun hno => ?_
  obtain ⟨a, o, ws, n, rfl, h1, h2, h3, h4⟩ := isLst ha
  refine hno ?_
  clear hno
  refine wpAny_getItem_list_slice ⟨o, r.froz _ _ h1, h2, n, h3⟩ ⟨_, hsl, rfl, rfl⟩ (isPart hl) (isPart hu) .none (by simp) ?_ (by rw [← Array.length_toList, h4.length]; exact hsz)
  obtain ⟨le, r2⟩ := r.newZ { cls := .type "list", data := .seq (slicePick ws lo hi none) }
  refine .mk' le ?_ r2 h
  simp only [Is]
  exact ⟨_, _, _, _, rfl, Wd.froze_self, rfl, rfl, by rw [slicePick_cut]; exact (h4.cut lo hi).mono le⟩

noncomputable def cutS (x : Str) (lo hi : Option Int) : Str := ⟨(cutL x.cps.toList lo hi).toArray⟩
theorem strSlice_up (lo hi : Option Int) (n : Nat) : PySem.Builtin.Str.strSliceIndices lo hi 1 n = sliceRange ((lo.elim 0 (clipAt n) : Nat) : Int) ((hi.elim n (clipAt n) : Nat) : Int) 1 := by
  unfold PySem.Builtin.Str.strSliceIndices
  dsimp only
  congr 1
  · cases lo with
    | none => rfl
    | some i => simp only [Option.elim]; rw [clipAt_cast]; simp
  · cases hi with
    | none => rfl
    | some i => simp only [Option.elim]; rw [clipAt_cast]; simp
theorem cutL_whole {α : Type} (xs : List α) (lo hi : Option Int) (h : (hi.elim xs.length (clipAt xs.length)) - (lo.elim 0 (clipAt xs.length)) = xs.length) : cutL xs lo hi = xs := by
  have h1 := elim_le xs.length hi
  unfold cutL
  by_cases h0 : xs.length = 0
  · have : xs = [] := List.eq_nil_of_length_eq_zero h0
    subst this; simp
  · have e1 : hi.elim xs.length (clipAt xs.length) = xs.length := by (first | lia | omega)
    have e2 : lo.elim 0 (clipAt xs.length) = 0 := by (first | lia | omega)
    rw [e1, e2, List.take_length, List.drop_zero]
theorem cutL_length_le {α : Type} (xs : List α) (lo hi : Option Int) : (cutL xs lo hi).length ≤ xs.length := by
  unfold cutL; simp only [List.length_drop, List.length_take]; (first | lia | omega)
theorem optI_part {W : Wd} {v : Value} {o : Option Int} (h : Is X W v (optI o)) : ∃ p : Option (Int × Tok), v = partValue p ∧ p.map (·.1) = o := by
  cases o with
  | none => cases isNone h; exact ⟨none, rfl, rfl⟩
  | some i => obtain ⟨t, rfl⟩ := isInt h; exact ⟨some (i, t), rfl, rfl⟩
theorem Sl_str {x : Str} {lo hi : Option Int} {Q : V → HS → Prop} (hsz : x.length ≤ sizeLine) (h : Q (.str (cutS x lo hi)) hs) : Jsl X A (.str x) (optI lo) (optI hi) hs Q := fun B W s va vl vu sl r ha hl hu hsl => by
  refine Classical.byContradiction fun hno => ?_
  obtain ⟨t, rfl, h1, h2⟩ := isStr ha
  refine hno ?_
  clear hno
  refine Classical.byContradiction fun hno => ?_
  obtain ⟨pl, rfl, el⟩ := optI_part hl
  refine hno ?_
  clear hno
  refine Classical.byContradiction fun hno => ?_
  obtain ⟨pu, rfl, eu⟩ := optI_part hu
  refine hno ?_
  clear hno
  refine wpAny_getItem_str_slice (l := pl) (u := pu) (st := none) ⟨_, hsl, rfl, rfl⟩ rfl ?_
  have hp : slicePicked x pl pu none = sliceRange ((lo.elim 0 (clipAt x.length) : Nat) : Int) ((hi.elim x.length (clipAt x.length) : Nat) : Int) 1 := by
    unfold slicePicked
    rw [el, eu]
    exact strSlice_up lo hi x.length
  have hf : (⟨((slicePicked x pl pu none).filterMap (x.cps[·]?)).toArray⟩ : Str) = cutS x lo hi := by
    rw [hp]
    unfold cutS
    congr 2
    have := pick_gen x.cps (lo.elim 0 (clipAt x.length)) (hi.elim x.length (clipAt x.length)) (elim_le _ hi)
    rw [this]
    unfold cutL
    rw [Array.length_toList]
    rfl
  unfold sliceMade
  by_cases hw : ((((none : Option (Int × Tok)).map (·.1)).getD 1 == 1) && ((slicePicked x pl pu none).length == x.length)) = true
  · rw [if_pos hw]
    have hlen : (slicePicked x pl pu none).length = x.length := by
      simp only [Bool.and_eq_true, beq_iff_eq] at hw; exact hw.2
    rw [hp, sliceRange_one, List.length_map, List.length_range] at hlen
    have e : cutS x lo hi = x := by
      unfold cutS
      rw [cutL_whole x.cps.toList lo hi (by rw [Array.length_toList]; exact hlen)]
    rw [e] at h
    exact .here (b := .str x) (by simp only [Is]; exact ⟨t, rfl, h1, h2⟩) r h
  · rw [if_neg hw, hf]
    refine ⟨?_, ans_str r h (Nat.lt_succ_self _)⟩
    refine Nat.le_trans ?_ hsz
    have := cutL_length_le x.cps.toList lo hi
    show (cutL x.cps.toList lo hi).toArray.size ≤ x.cps.size
    rw [List.size_toArray]
    rw [Array.length_toList] at this
    exact this

noncomputable def plain : V → Bool
  | .none | .bool _ | .int _ | .str _ => true
  | .lst vs => plainL vs
  | .tup vs => plainL vs
  | _ => false
where plainL : List V → Bool
  | [] => true
  | v :: vs => plain v && plainL vs
noncomputable def toPy : V → PyData
  | .none => .none
  | .bool b => .bool b
  | .int i => .int i
  | .str s => .str s
  | .lst vs => .list (toPyL vs)
  | .tup vs => .tuple (toPyL vs)
  | _ => .none
where toPyL : List V → List PyData
  | [] => []
  | v :: vs => toPy v :: toPyL vs
mutual
theorem Is.reads {W : Wd} {h : Heap} (hk : ∀ b o, W.Z b = some o → h.get? b = some o) {v : Value} : (b : V) → plain b = true → Is X W v b → ∃ as, Reads h v (toPy b) as
  | .none, _, x => ⟨[], by cases isNone x; exact .none⟩
  | .bool b, _, x => ⟨[], by cases isBool x; exact .bool b⟩
  | .int i, _, x => ⟨[], by obtain ⟨t, rfl⟩ := isInt x; exact .int i t⟩
  | .str s, _, x => ⟨[], by obtain ⟨t, rfl, _⟩ := isStr x; exact .str s t⟩
  | .lst vs, p, x => by
    refine Classical.byContradiction fun hno => ?_
    obtain ⟨a, o, ws, n, rfl, h1, h2, h3, h4⟩ := isLst x
    refine hno ?_
    clear hno
    obtain ⟨as, ha⟩ := IsL.reads hk vs (by simpa only [plain] using p) h4
    exact ⟨_, by simp only [toPy]; exact .list (hk _ _ h1) h2 h3 ha⟩
  | .tup vs, p, x => by
    refine Classical.byContradiction fun hno => ?_
    obtain ⟨a, o, ws, n, rfl, h1, h2, h3, h4⟩ := isTup x
    refine hno ?_
    clear hno
    obtain ⟨as, ha⟩ := IsL.reads hk vs (by simpa only [plain] using p) h4
    exact ⟨_, by simp only [toPy]; exact .tuple (hk _ _ h1) h2 h3 ha⟩
  | .txt _, p, _ => by simp [plain] at p
  | .bytes _, p, _ => by simp [plain] at p
  | .ref _, p, _ => by simp [plain] at p
  | .type _, p, _ => by simp [plain] at p
  | .bi _, p, _ => by simp [plain] at p
  | .fn _, p, _ => by simp [plain] at p
  | .dct _ _, p, _ => by simp [plain] at p
  | .clo _ _, p, _ => by simp [plain] at p
theorem IsL.reads {W : Wd} {h : Heap} (hk : ∀ b o, W.Z b = some o → h.get? b = some o) {ws : List Value} : (bs : List V) → plain.plainL bs = true → IsL X W ws bs → ∃ as, ReadsAll h ws (toPy.toPyL bs) as
  | [], _, x => by simp only [IsL] at x; subst x; exact ⟨[], .nil⟩
  | b :: bs, p, x => by
    simp only [IsL] at x
    refine Classical.byContradiction fun hno => ?_
    obtain ⟨w, r, rfl, h1, h2⟩ := x
    refine hno ?_
    clear hno
    simp only [plain.plainL, Bool.and_eq_true] at p
    obtain ⟨as, ha⟩ := Is.reads hk b p.1 h1
    obtain ⟨bs', hb⟩ := IsL.reads hk bs p.2 h2
    exact ⟨_, .cons ha hb⟩
end
theorem C_eqd {a b : V} {n : Nat} {Q : V → HS → Prop} (ok : Ok A n 66) (pa : plain a = true) (pb : plain b = true) (sa : SeqAt.shaped (toPy a) = true) (sb : SeqAt.shaped (toPy b) = true) (h : Q (.bool (PyData.eqv (toPy a) (toPy b))) hs) : Jc X A .Eq a b hs Q := fun B W s va vb r ha hb => by
  obtain ⟨as, ra⟩ := ha.reads r.froz a pa
  obtain ⟨bs, rb⟩ := hb.reads r.froz b pb
  exact eq_dataH ra rb sa sb (by have := ok.cLine; (first | lia | omega)) (ans_bool r h)
theorem C_ned {a b : V} {n : Nat} {Q : V → HS → Prop} (ok : Ok A n 66) (pa : plain a = true) (pb : plain b = true) (sa : SeqAt.shaped (toPy a) = true) (sb : SeqAt.shaped (toPy b) = true) (h : Q (.bool (!PyData.eqv (toPy a) (toPy b))) hs) : Jc X A .NotEq a b hs Q := fun B W s va vb r ha hb => by
  obtain ⟨as, ra⟩ := ha.reads r.froz a pa
  obtain ⟨bs, rb⟩ := hb.reads r.froz b pb
  exact ne_dataH ra rb sa sb (by have := ok.cLine; (first | lia | omega)) (ans_bool r h)
end
end
section
section
variable {X : Fx} {A : Around} {env : Env} {hs : HS}

theorem isBi {W : Wd} {v : Value} {id : String} (h : Is X W v (.bi id)) : v = .builtin id := by simpa only [Is] using h
theorem isTy {W : Wd} {v : Value} {T : String} (h : Is X W v (.type T)) : v = .type T := by simpa only [Is] using h
theorem isTxt {W : Wd} {v : Value} {x : Str} (h : Is X W v (.txt x)) : ∃ t, v = .str x t := by simpa only [Is] using h
theorem isL1 {W : Wd} {vs : List Value} {a : V} (h : IsL X W vs [a]) : ∃ v, vs = [v] ∧ Is X W v a := by
  simp only [IsL] at h
  refine Classical.byContradiction fun hno => ?_
  obtain ⟨w, r, rfl, h1, rfl⟩ := h
  refine hno ?_
  clear hno
  exact ⟨w, rfl, h1⟩
theorem isL2 {W : Wd} {vs : List Value} {a b : V} (h : IsL X W vs [a, b]) : ∃ v w, vs = [v, w] ∧ Is X W v a ∧ Is X W w b := by
  simp only [IsL] at h
  refine Classical.byContradiction fun hno => ?_
  obtain ⟨v, r, rfl, h1, w, r', rfl, h2, rfl⟩ := h
  refine hno ?_
  clear hno
  exact ⟨v, w, rfl, h1, h2⟩

theorem JC_1 {f a : V} {Q : V → HS → Prop} (h : ∀ B W s vf va, Rel X B W hs s → Is X W vf f → Is X W va a → wpAny (M X) A (call vf [va]) (Post X B W (Is X) Q) NoE s) : JC X A f [a] hs Q := fun B W s vf vs r hf hv => by
  obtain ⟨v, e, h1⟩ := isL1 hv; subst e; exact h B W s vf v r hf h1
theorem JC_2 {f a b : V} {Q : V → HS → Prop} (h : ∀ B W s vf va vb, Rel X B W hs s → Is X W vf f → Is X W va a → Is X W vb b → wpAny (M X) A (call vf [va, vb]) (Post X B W (Is X) Q) NoE s) : JC X A f [a, b] hs Q := fun B W s vf vs r hf hv => by
  obtain ⟨v, w, e, h1, h2⟩ := isL2 hv; subst e; exact h B W s vf v w r hf h1 h2

theorem IsList.of_lst {B : Addr → Option Obj} {W : Wd} {s : Shared} {v : Value} {vs : List V} (r : Rel X B W hs s) (h : Is X W v (.lst vs)) : ∃ l ws, v = .ref l ∧ s.heap.IsList l ws ∧ IsL X W ws.toList vs := by
  refine Classical.byContradiction fun hno => ?_
  obtain ⟨a, o, ws, n, rfl, h1, h2, h3, h4⟩ := isLst h
  refine hno ?_
  clear hno
  exact ⟨a, ws, rfl, ⟨o, r.froz _ _ h1, h2, n, h3⟩, h4⟩

theorem N_len_lst {vs : List V} {Q : V → HS → Prop} (hf : vs.length < 2 ^ 62) (h : Q (.int vs.length) hs) : JC X A (.bi "len") [.lst vs] hs Q := JC_1 fun B W s vf va r hf' ha => by
  cases isBi hf'
  refine Classical.byContradiction fun hno => ?_
  obtain ⟨l, ws, rfl, hl, hi⟩ := IsList.of_lst r ha
  refine hno ?_
  clear hno
  have e : ws.size = vs.length := by rw [← Array.length_toList]; exact hi.length
  refine call_len_list hl (by (first | lia | omega)) ?_
  rw [e]
  exact ans_int r h (Nat.le_succ_of_le (Nat.le_succ _))
theorem N_len_list {a : Addr} {vs : List V} {Q : V → HS → Prop} (hm : (a, AO.list vs) ∈ hs) (hf : vs.length < 2 ^ 62) (h : Q (.int vs.length) hs) : JC X A (.bi "len") [.ref a] hs Q := JC_1 fun B W s vf va r hf' ha => by
  cases isBi hf'; cases isRef ha
  refine Classical.byContradiction fun hno => ?_
  obtain ⟨ws, n, h1, hi⟩ := r.objs _ _ hm
  refine hno ?_
  clear hno
  have e : ws.size = vs.length := by rw [← Array.length_toList]; exact hi.length
  refine call_len_list ⟨_, h1, rfl, n, rfl⟩ (by (first | lia | omega)) ?_
  rw [e]
  exact ans_int r h (Nat.le_succ_of_le (Nat.le_succ _))
theorem N_len_str {x : Str} {Q : V → HS → Prop} (hf : x.length < 2 ^ 62) (h : Q (.int x.length) hs) : JC X A (.bi "len") [.str x] hs Q := JC_1 fun B W s vf va r hf' ha => by
  cases isBi hf'
  refine Classical.byContradiction fun hno => ?_
  obtain ⟨t, rfl, _⟩ := isStr ha
  refine hno ?_
  clear hno
  exact P.len_str (by (first | lia | omega)) (ans_int r h (Nat.le_succ_of_le (Nat.le_succ _)))
theorem N_abs {i : Int} {Q : V → HS → Prop} (h : Q (.int (if i < 0 then -i else i)) hs) : JC X A (.bi "abs") [.int i] hs Q := JC_1 fun B W s vf va r hf' ha => by
  cases isBi hf'
  obtain ⟨t, rfl⟩ := isInt ha
  refine wpAny_mono (wpAny_toks (call_abs_int (Q := fun v s' => ∃ u tk, v = .int (if i < 0 then -i else i) u ∧ s' = { s with toks := tk }) fun u tk => ⟨u, tk, rfl, rfl⟩)) ?_ (fun _ _ x => x.2)
  rintro v s' ⟨ht, u, tk, rfl, rfl⟩
  exact ans_int r h ht
theorem N_divmod {i j : Int} {Q : V → HS → Prop} (hj : j ≠ 0) (hp : Builtin.divisionGoesByPylong i j = false) (h : Q (.tup [.int (i.fdiv j), .int (i.fmod j)]) hs) : JC X A (.bi "divmod") [.int i, .int j] hs Q := JC_2 fun B W s vf va vb r hf' ha hb => by
  cases isBi hf'
  obtain ⟨t, rfl⟩ := isInt ha
  obtain ⟨u, rfl⟩ := isInt hb
  refine divmod_int hj ?_ (.inl hp)
  obtain ⟨le, r2⟩ := (r.toks (tk := s.toks + 1 + 1) (by (first | lia | omega))).newZ { cls := .type "tuple", data := .seq #[.int (i.fdiv j) s.toks, .int (i.fmod j) (s.toks + 1)] }
  refine .mk' le ?_ r2 h
  simp only [Is]
  exact ⟨_, _, _, _, rfl, Wd.froze_self, rfl, rfl, IsL.cons is_int (IsL.cons is_int IsL.nil)⟩
theorem N_ord {c : Nat} {Q : V → HS → Prop} (h : Q (.int c) hs) : JC X A (.bi "ord") [.str ⟨#[c]⟩] hs Q := JC_1 fun B W s vf va r hf' ha => by
  cases isBi hf'
  refine Classical.byContradiction fun hno => ?_
  obtain ⟨t, rfl, _⟩ := isStr ha
  refine hno ?_
  clear hno
  exact P.ord_of_char (ans_int r h)
theorem N_chr {i : Int} {Q : V → HS → Prop} (h0 : 0 ≤ i) (h1 : i ≤ 1114111) (h : Q (.str ⟨#[i.toNat]⟩) hs) : JC X A (.bi "chr") [.int i] hs Q := JC_1 fun B W s vf va r hf' ha => by
  cases isBi hf'
  obtain ⟨t, rfl⟩ := isInt ha
  exact chr_of_range h0 h1 (ans_str r h (Nat.lt_succ_self _))
theorem N_isi_int_bool {i : Int} {Q : V → HS → Prop} (h : Q (.bool false) hs) : JC X A (.bi "isinstance") [.int i, .type "bool"] hs Q := JC_2 fun B W s vf va vb r hf' ha hb => by
  cases isBi hf'
  obtain ⟨t, rfl⟩ := isInt ha
  cases isTy hb
  exact IsiPair.int_bool (.here is_bool (r.toks (Nat.le_succ _)) h)

theorem iter_list {B : Addr → Option Obj} {W : Wd} {s : Shared} {l : Addr} {ws : Array Value} {Q : Value → Shared → Prop} (hl : s.heap.IsList l ws)
    (h : ∀ s', s' = { s with heap := s.heap.push { cls := .type "list_iterator", data := .fields #[.ref l, .int 0 0] } } → s'.heap.IsListIter s.heap.objs.size l 0 ∧ s'.heap.IsList l ws → (∀ b ∈ [s.heap.objs.size, l], b < s'.heap.objs.size) → l ≠ s.heap.objs.size → Q (.ref s.heap.objs.size) s') :
    wpAny (M X) A (pyIter (.ref l)) Q NoE s := by
  have hlt : l < s.heap.objs.size := by obtain ⟨o, ho, _⟩ := hl; exact Heap.lt_size ho
  refine wpAny_pyIter_list hl (h _ rfl ⟨⟨_, Heap.get?_push_size _ rfl, rfl, rfl⟩, hl.push _⟩ (fun b hb => ?_) (Nat.ne_of_lt hlt))
  show b < (s.heap.push _).objs.size
  rw [Heap.size_push]
  rcases List.mem_cons.mp hb with rfl | hb
  · exact Nat.lt_succ_self _
  · rw [List.mem_singleton.mp hb]; exact Nat.lt_succ_of_lt hlt

noncomputable def intsOf (ns : List Int) : List V := ns.map .int
theorem ints_at {W : Wd} {ws : List Value} {ns : List Int} (h : IsL X W ws (intsOf ns)) {i : Nat} {v : Value} (hv : ws[i]? = some v) : ∃ t, v = .int (ns.getD i 0) t := by
  have hlt : i < ns.length := by
    have := h.length
    simp only [intsOf, List.length_map] at this
    rw [← this]; exact (List.getElem?_eq_some_iff.mp hv).1
  have hb : (intsOf ns)[i]? = some (.int (ns.getD i 0)) := by simp [intsOf, List.getD, hlt]
  refine Classical.byContradiction fun hno => ?_
  obtain ⟨w, hw, iw⟩ := h.get hb
  refine hno ?_
  clear hno
  rw [hv] at hw; cases hw
  exact isInt iw
theorem preSum_take (ns : List Int) : ∀ j, preSum (fun i => ns.getD i 0) j = (ns.take j).sum
  | 0 => rfl
  | j + 1 => by
    rw [preSum, preSum_take ns j, List.take_add_one, List.sum_append]
    cases h : ns[j]? with
    | none => simp [List.getD, h]
    | some x => simp [List.getD, h]
theorem N_sum {n : Nat} {ns : List Int} {Q : V → HS → Prop} (ok : Ok A n 10) (h : Q (.int ns.sum) hs) : JC X A (.bi "sum") [.lst (intsOf ns)] hs Q := JC_1 fun B W s vf va r hf' ha => by
  cases isBi hf'
  refine Classical.byContradiction fun hno => ?_
  obtain ⟨l, ws, rfl, hl, hi⟩ := IsList.of_lst r ha
  refine hno ?_
  clear hno
  have e : ws.size = ns.length := by rw [← Array.length_toList, hi.length]; simp [intsOf]
  have main : wpAny (M X) A (call (.builtin "sum") [.ref l]) (fun v s' => ∃ h' tk t', (∀ b o, s.heap.get? b = some o → h'.get? b = some o) ∧ v = .int ns.sum t' ∧ s' = { s with heap := h', toks := tk }) NoE s := by
    refine call_sum_walkG (iter_list (X := X) (B := B) (W := W) hl fun s₂ es st hfp hlI => ?_)
    subst es
    refine ⟨_, _, _, _, _, _, fun i => ns.getD i 0, rfl, Walks.list (A := A.in1) ok.handled _ l hlI ws, st, hfp, fun i v hv => ints_at hi (by rw [Array.getElem?_toList]; exact hv), fun h' tk t' hk => ?_⟩
    refine ⟨h', tk, t', fun b o eb => hk b o (fun hm => ?_) (Heap.get?_push_of_some _ eb), ?_, rfl⟩
    · rw [List.mem_singleton.mp hm] at eb; exact absurd (Heap.lt_size eb) (Nat.lt_irrefl _)
    · rw [e, preSum_take, List.take_length]
  refine wpAny_mono (wpAny_toks main) ?_ (fun _ _ x => x.2)
  rintro v s' ⟨ht, h', tk, t', hk, rfl, rfl⟩
  exact .here is_int (r.keeps hk ht) h
theorem getD_lt {ns : List Int} {i : Nat} (h : i < ns.length) : ns.getD i 0 = ns[i] := by simp [List.getD, h]
theorem argBest_max (ns : List Int) : ∀ k, k < ns.length → ∀ i ≤ k, ns.getD i 0 ≤ ns.getD (argBest (fun i j => decide (ns.getD i 0 > ns.getD j 0)) k) 0
  | 0, _, i, hi => by have : i = 0 := by (first | lia | omega)
                      subst this; exact Int.le_refl _
  | k + 1, hk, i, hi => by
    have ih := argBest_max ns k (by (first | lia | omega))
    rw [argBest]
    by_cases h : ns.getD (k + 1) 0 > ns.getD (argBest (fun i j => decide (ns.getD i 0 > ns.getD j 0)) k) 0
    · rw [if_pos (by simpa using h)]
      by_cases e : i = k + 1
      · subst e; exact Int.le_refl _
      · have := ih i (by (first | lia | omega)); (first | lia | omega)
    · rw [if_neg (by simpa using h)]
      by_cases e : i = k + 1
      · subst e; (first | lia | omega)
      · exact ih i (by (first | lia | omega))
theorem argBest_le (bt : Nat → Nat → Bool) : ∀ k, argBest bt k ≤ k
  | 0 => Nat.le_refl _
  | k + 1 => by rw [argBest]; have := argBest_le bt k; split <;> (first | lia | omega)
theorem N_max {n : Nat} {ns : List Int} {Q : V → HS → Prop} (ok : Ok A n 10) (hne : ns ≠ []) (h : ∀ x, x ∈ ns → (∀ y ∈ ns, y ≤ x) → Q (.int x) hs) : JC X A (.bi "max") [.lst (intsOf ns)] hs Q := JC_1 fun B W s vf va r hf' ha => by
  cases isBi hf'
  refine Classical.byContradiction fun hno => ?_
  obtain ⟨l, ws, rfl, hl, hi⟩ := IsList.of_lst r ha
  refine hno ?_
  clear hno
  have e : ws.size = ns.length := by rw [← Array.length_toList, hi.length]; simp [intsOf]
  have hpos : 0 < ns.length := List.length_pos_iff.mpr hne
  have main : wpAny (M X) A (call (.builtin "max") [.ref l]) (fun v s' => ∃ h' tk, (∀ b o, s.heap.get? b = some o → h'.get? b = some o) ∧ ws[argBest (fun i j => decide (ns.getD i 0 > ns.getD j 0)) (ns.length - 1)]? = some v ∧ s' = { s with heap := h', toks := tk }) NoE s := by
    refine call_max_walk (iter_list (X := X) (B := B) (W := W) hl fun s₂ es st hfp hlI => ?_)
    subst es
    refine ⟨_, _, _, _, _, _, _, rfl, Walks.list (A := A.in1) ok.handled _ l hlI ws, st, hfp, by (first | lia | omega), CmpOf.ints_gt (fun i => ns.getD i 0) (fun i v hv => ints_at hi (by rw [Array.getElem?_toList]; exact hv)), fun v h' tk hP hk => ?_⟩
    refine ⟨h', tk, fun b o eb => hk b o (fun hm => ?_) (Heap.get?_push_of_some _ eb), by rw [e] at hP; exact hP, rfl⟩
    rw [List.mem_singleton.mp hm] at eb; exact absurd (Heap.lt_size eb) (Nat.lt_irrefl _)
  refine wpAny_mono (wpAny_toks main) ?_ (fun _ _ x => x.2)
  rintro v s' ⟨ht, h', tk, hk, hv, rfl⟩
  obtain ⟨t, rfl⟩ := ints_at hi (by rw [Array.getElem?_toList]; exact hv)
  refine .here is_int (r.keeps hk ht) (h _ ?_ fun y hy => ?_)
  · have hle := argBest_le (fun i j => decide (ns.getD i 0 > ns.getD j 0)) (ns.length - 1)
    have hlt : argBest (fun i j => decide (ns.getD i 0 > ns.getD j 0)) (ns.length - 1) < ns.length := by (first | lia | omega)
    rw [getD_lt hlt]
    exact List.getElem_mem hlt
  · refine Classical.byContradiction fun hno => ?_
    obtain ⟨i, hi', rfl⟩ := List.mem_iff_getElem.mp hy
    refine hno ?_
    clear hno
    have := argBest_max ns (ns.length - 1) (by (first | lia | omega)) i (by (first | lia | omega))
    rwa [getD_lt hi'] at this
end
end
section
section
variable {X : Fx} {A : Around} {env : Env} {hs : HS}

theorem Rel.under {B : Addr → Option Obj} {W : Wd} {F h : HS} {s : Shared} (r : Rel X B W (F ++ h) s) : Out (F.map (·.1)) B W h ∧ Rel X B W h s ∧ (∀ a ∈ F.map (·.1), ∃ o, s.heap.get? a = some o) := by
  have hnd := List.pairwise_append.mp r.nodup
  have r' := r.sub (List.sublist_append_right F h)
  refine ⟨fun a ha => ?_, r', fun a ha => ?_⟩
  · refine Classical.byContradiction fun hno => ?_
    obtain ⟨p, hp, rfl⟩ := List.mem_map.mp ha
    refine hno ?_
    clear hno
    exact ⟨r.apB p.1 p.2 (List.mem_append_left _ hp), r.apZ p.1 p.2 (List.mem_append_left _ hp), fun o hm => hnd.2.2 p hp _ hm rfl⟩
  · refine Classical.byContradiction fun hno => ?_
    obtain ⟨p, hp, rfl⟩ := List.mem_map.mp ha
    refine hno ?_
    clear hno
    exact (r.objs p.1 p.2 (List.mem_append_left _ hp)).some

theorem Rel.over {B : Addr → Option Obj} {W W' : Wd} {F h h' : HS} {s s' : Shared} (r : Rel X B W (F ++ h) s) (le : W.le W') (r' : Rel X (Mine.holdL B (F.map (·.1)) s.heap) W' h' s') : Rel X B W' (F ++ h') s' := by
  refine Classical.byContradiction fun hno => ?_
  obtain ⟨o, _, hx⟩ := r.under
  refine hno ?_
  clear hno
  have hnd := List.pairwise_append.mp r.nodup
  refine Classical.byContradiction fun hno => ?_
  obtain ⟨r1, o1, k1⟩ := r'.unholdL r.hb (fun a ha => (o a ha).1) hx
  refine hno ?_
  clear hno
  refine { r1 with objs := fun a ob hm => ?_, nodup := List.pairwise_append.mpr ⟨hnd.1, r1.nodup, fun p hp q hq e => ?_⟩, apB := fun a ob hm => ?_, apZ := fun a ob hm => ?_ }
  · rcases List.mem_append.mp hm with hm | hm
    · exact ((r.objs a ob (List.mem_append_left _ hm)).at fun p e => k1 a (List.mem_map.mpr ⟨_, hm, rfl⟩) p e).mono le
    · exact r1.objs a ob hm
  · exact (o1 p.1 (List.mem_map.mpr ⟨_, hp, rfl⟩)).2.2 q.2 (by rw [show p.1 = q.1 from e]; exact hq)
  · rcases List.mem_append.mp hm with hm | hm
    · exact (o1 a (List.mem_map.mpr ⟨_, hm, rfl⟩)).1
    · exact r1.apB a ob hm
  · rcases List.mem_append.mp hm with hm | hm
    · exact (o1 a (List.mem_map.mpr ⟨_, hm, rfl⟩)).2.1
    · exact r1.apZ a ob hm

noncomputable def Shift (X : Fx) (hs hs' : HS) : Prop := ∀ B W s, Rel X B W hs s → ∃ W', W.le W' ∧ Rel X B W' hs' s
theorem J.shift {α β : Type} {R : Wd → α → β → Prop} {t : Sem α} {hs' : HS} {Q : β → HS → Prop} (sh : Shift X hs hs') (h : J X A R t hs' Q) : J X A R t hs Q := fun B W s r => by
  refine Classical.byContradiction fun hno => ?_
  obtain ⟨W', l, r'⟩ := sh B W s r
  refine hno ?_
  clear hno
  exact wpAny_mono (h B W' s r') (fun _ _ p => p.le l) fun _ _ x => x
theorem Shift.trans {h1 h2 h3 : HS} (a : Shift X h1 h2) (b : Shift X h2 h3) : Shift X h1 h3 := fun B W s r => by
  refine Classical.byContradiction fun hno => ?_
  obtain ⟨W1, l1, r1⟩ := a B W s r
  refine hno ?_
  clear hno
  refine Classical.byContradiction fun hno => ?_
  obtain ⟨W2, l2, r2⟩ := b B W1 s r1
  refine hno ?_
  clear hno
  exact ⟨W2, l1.trans l2, r2⟩
theorem Shift.perm {hs' : HS} (p : hs.Perm hs') : Shift X hs hs' := fun _ W _ r => ⟨W, .refl W, r.perm p⟩
theorem Rel.retell {B : Addr → Option Obj} {W : Wd} {a : Addr} {o o' : AO} {rest : HS} {s : Shared} (r : Rel X B W ((a, o) :: rest) s) (h : ObjR X W s.heap a o → ObjR X W s.heap a o') : Rel X B W ((a, o') :: rest) s :=
  { r with
    objs := fun b p hm => by
      rcases List.mem_cons.mp hm with e | hm
      · cases e; exact h (r.objs _ _ List.mem_cons_self)
      · exact r.objs b p (List.mem_cons_of_mem _ hm)
    nodup := by have := List.pairwise_cons.mp r.nodup; exact List.pairwise_cons.mpr ⟨fun q hq => this.1 q hq, this.2⟩
    apB := fun b p hm => by
      rcases List.mem_cons.mp hm with e | hm
      · cases e; exact r.apB _ _ List.mem_cons_self
      · exact r.apB b p (List.mem_cons_of_mem _ hm)
    apZ := fun b p hm => by
      rcases List.mem_cons.mp hm with e | hm
      · cases e; exact r.apZ _ _ List.mem_cons_self
      · exact r.apZ b p (List.mem_cons_of_mem _ hm) }

theorem ObjR.tell {W : Wd} {h : Heap} {L : Addr} {m : List (Str × V)} {x : Str} {b b' : V} (hx : m.lookup x = Option.some b) (hb : ∀ v, Is X W v b → Is X W v b') (o : ObjR X W h L (.ns m)) : ObjR X W h L (.ns ((x, b') :: m)) := by
  refine Classical.byContradiction fun hno => ?_
  obtain ⟨mc, h1, h2⟩ := o
  refine hno ?_
  clear hno
  refine ⟨mc, h1, fun y c hy => ?_⟩
  rw [lookup_cons_str] at hy
  by_cases e : y = x
  · subst e; rw [if_pos rfl] at hy; cases hy
    refine Classical.byContradiction fun hno => ?_
    obtain ⟨v, h3, h4⟩ := h2 y b hx
    refine hno ?_
    clear hno
    exact ⟨v, h3, hb v h4⟩
  · rw [if_neg e] at hy; exact h2 y c hy

theorem Rel.freezeL {B : Addr → Option Obj} {W : Wd} {a : Addr} {vs : List V} {rest : HS} {s : Shared} (r : Rel X B W ((a, .list vs) :: rest) s) : ∃ W', W.le W' ∧ Rel X B W' rest s ∧ Is X W' (.ref a) (.lst vs) := by
  refine Classical.byContradiction fun hno => ?_
  obtain ⟨ws, n, h1, h4⟩ := r.objs _ _ List.mem_cons_self
  refine hno ?_
  clear hno
  obtain ⟨le, r'⟩ := r.freeze rfl h1
  refine ⟨_, le, r', ?_⟩
  simp only [Is]
  exact ⟨a, _, ws, n, rfl, Wd.froze_self, rfl, rfl, h4.mono le⟩
theorem EntR.split {W : Wd} : ∀ {es : List DictEntry} {r : List (Str × V)}, EntR X W es r → KeysR X W es (r.map (·.1)) ∧ IsL X W (es.map (·.val)) (r.map (·.2))
  | [], [], _ => ⟨trivial, IsL.nil⟩
  | e :: es, (k, b) :: r, h => ⟨⟨h.1, h.2.1, (EntR.split h.2.2.2).1⟩, IsL.cons h.2.2.1 (EntR.split h.2.2.2).2⟩
  | [], _ :: _, h => h.elim
  | _ :: _, [], h => h.elim
theorem Rel.freezeD {B : Addr → Option Obj} {W : Wd} {a : Addr} {d : List (Str × V)} {rest : HS} {s : Shared} (r : Rel X B W ((a, .dict d) :: rest) s) : ∃ W', W.le W' ∧ Rel X B W' rest s ∧ Is X W' (.ref a) (.dct (d.map (·.1)) (d.map (·.2))) := by
  refine Classical.byContradiction fun hno => ?_
  obtain ⟨o, es, n, h1, h2, h3, h4, h5⟩ := r.objs _ _ List.mem_cons_self
  refine hno ?_
  clear hno
  obtain ⟨le, r'⟩ := r.freeze rfl h1
  refine ⟨_, le, r', ?_⟩
  simp only [Is]
  have h6 := (h4.mono le).split
  exact ⟨a, o, es, n, rfl, Wd.froze_self, h2, h3, h6.1, h5.1, h6.2, h5.2⟩

theorem Shift.list_ns {L a : Addr} {m : List (Str × V)} {x : Str} {vs : List V} {rest : HS} (hx : m.lookup x = some (.ref a)) : Shift X ((a, .list vs) :: (L, .ns m) :: rest) ((L, .ns ((x, .lst vs) :: m)) :: rest) := fun B W s r => by
  refine Classical.byContradiction fun hno => ?_
  obtain ⟨W', l, r', i⟩ := r.freezeL
  refine hno ?_
  clear hno
  exact ⟨W', l, r'.retell (.tell hx fun v hv => by rw [isRef hv]; exact i)⟩
theorem Shift.dict_cell {c a : Addr} {d : List (Str × V)} {rest : HS} : Shift X ((a, .dict d) :: (c, .cell (some (.ref a))) :: rest) ((c, .cell (some (.dct (d.map (·.1)) (d.map (·.2))))) :: rest) := fun B W s r => by
  refine Classical.byContradiction fun hno => ?_
  obtain ⟨W', l, r', i⟩ := r.freezeD
  refine hno ?_
  clear hno
  exact ⟨W', l, r'.retell fun ⟨vo, h1, h2⟩ => ⟨vo, h1, by
    cases vo with
    | none => exact h2.elim
    | some v => have e := isRef (X := X) (W := W') h2; subst e; exact i⟩⟩
theorem Je_freezeL {e : Expr} {Q : V → HS → Prop} (h : Je X A env e hs fun v h1 => ∃ a vs rest, v = .ref a ∧ h1.Perm ((a, .list vs) :: rest) ∧ Q (.lst vs) rest) : Je X A env e hs Q := fun B W s r =>
  wpAny_mono (h B W s r) (fun v s' q1 => by
    refine Classical.byContradiction fun hno => ?_
    obtain ⟨W', b, hs', l, i, r', a, vs, rest, e1, e2, q⟩ := q1
    refine hno ?_
    clear hno
    subst e1
    refine Classical.byContradiction fun hno => ?_
    obtain ⟨W2, l2, r2, i2⟩ := (r'.perm e2).freezeL
    refine hno ?_
    clear hno
    exact ⟨W2, .lst vs, rest, l.trans l2, by rw [isRef i]; exact i2, r2, q⟩) fun _ _ x => x
theorem Je_freezeD {e : Expr} {Q : V → HS → Prop} (h : Je X A env e hs fun v h1 => ∃ a d rest, v = .ref a ∧ h1.Perm ((a, .dict d) :: rest) ∧ Q (.dct (d.map (·.1)) (d.map (·.2))) rest) : Je X A env e hs Q := fun B W s r =>
  wpAny_mono (h B W s r) (fun v s' q2 => by
    refine Classical.byContradiction fun hno => ?_
    obtain ⟨W', b, hs', l, i, r', a, vs, rest, e1, e2, q⟩ := q2
    refine hno ?_
    clear hno
    subst e1
    refine Classical.byContradiction fun hno => ?_
    obtain ⟨W2, l2, r2, i2⟩ := (r'.perm e2).freezeD
    refine hno ?_
    clear hno
    exact ⟨W2, _, rest, l.trans l2, by rw [isRef i]; exact i2, r2, q⟩) fun _ _ x => x

theorem upd_seq {h : Heap} {a : Addr} {xs : Array Value} {n : Nat} (ho : h.get? a = some (seqObj "list" xs n)) (g : Array Value → Array Value) : ∃ n', (h.update a (Obj.mapSeq g)).get? a = some (seqObj "list" (g xs) n') := ⟨_, get?_update_seq ho g⟩
theorem S_list {a : Addr} {vs : List V} {i : Int} {b : V} {hs' : HS} {Q : HS → Prop} (h0 : 0 ≤ i) (h1 : i < vs.length) (h2 : vs.length < 2 ^ 63) (u : Upd hs a (.list vs) (.list (vs.set i.toNat b)) hs') (h : Q hs') : Jsi X A (.ref a) (.int i) b hs Q := fun B W s va vb vc r ha hb hc => by
  cases isRef ha
  obtain ⟨t, rfl⟩ := isInt hb
  refine Classical.byContradiction fun hno => ?_
  obtain ⟨ws, n, ho, hi⟩ := r.objs _ _ u.mem
  refine hno ?_
  clear hno
  have e : ws.size = vs.length := by rw [← Array.length_toList]; exact hi.length
  have hT : s.TypeIs (.ref a) "list" := ⟨_, ho, rfl⟩
  have hfit : i < 2 ^ 63 := by (first | lia | omega)
  unfold setItem
  refine wpAny_holding ?_
  refine wpAny_bind (wpAny_sequenceKey hT (by decide) ?_)
  refine wpAny_bind (wpAny_callSpecial?_slot (name := Str.ofString "__setitem__") hT slot_list_setitem (wpAny_call_entry slot_list_setitem hT entry_list_setitem ?_ (args_list_setitem _ _ _)))
  show wpAny _ _ (Builtin.List.listSubscript? (.int i t) >>= _) _ _ s
  refine wpAny_bind (wpAny_listSubscript_int (fitsIndex_of h0 hfit) ?_)
  clear hfit h2
  obtain ⟨j, rfl⟩ := Int.eq_ofNat_of_zero_le h0
  have hj : j < ws.size := by (first | lia | omega)
  show wpAny _ _ ((seqItemAt a j >>= fun r => pure (r.map (j, ·))) >>= _) _ _ s
  refine wpAny_bind (wpAny_bind (wpAny_seqItemAt ho rfl (wpAny_pure ?_)))
  rw [Array.getElem?_eq_getElem hj]
  show wpAny _ _ (setSeqItemAt a j vc >>= _) _ _ s
  obtain ⟨n', hd'⟩ := upd_seq ho (·.setIfInBounds j vc)
  refine wpAny_bind (wpAny_setSeqItemAt ho rfl ?_)
  have fin : Post X B W Same (fun (_ : Unit) h => Q h) () { s with heap := s.heap.update a (Obj.mapSeq (·.setIfInBounds j vc)) } := by
    refine .here (b := ()) rfl (r.upd (tk := s.toks) u (Heap.SameBut.update ..) (Nat.le_refl _) ⟨_, n', hd', ?_⟩) h
    have := hi.set j hc
    simpa using this
  first
    | exact wpAny_bind (wpAny_pure (wpAny_pure ⟨.none, rfl, wpAny_pure fin⟩))
    | exact wpAny_pure ⟨.none, rfl, wpAny_pure fin⟩
theorem N_append {a : Addr} {vs : List V} {b : V} {hs' : HS} {Q : V → HS → Prop} (hsz : vs.length ≤ sizeLine) (u : Upd hs a (.list vs) (.list (vs ++ [b])) hs') (h : Q .none hs') : JC X A (.bi "list.append") [.ref a, b] hs Q := JC_2 fun B W s vf va vb r hf ha hb => by
  cases isBi hf; cases isRef ha
  refine Classical.byContradiction fun hno => ?_
  obtain ⟨ws, n, ho, hi⟩ := r.objs _ _ u.mem
  refine hno ?_
  clear hno
  have e : ws.size = vs.length := by rw [← Array.length_toList]; exact hi.length
  refine wpAny_list_append_plain (hsz := by (first | lia | omega)) ⟨n, ho⟩ fun h' q3 hsb => ?_
  obtain ⟨n', hl⟩ := q3
  refine .here (b := .none) is_none (r.upd u hsb (Nat.le_refl _) ⟨_, n', hl, ?_⟩) h
  simpa using hi.append (IsL.cons hb IsL.nil)

noncomputable def dput : List (Str × V) → Str → V → List (Str × V)
  | [], k, b => [(k, b)]
  | (k', b') :: r, k, b => if k' = k then (k', b) :: r else (k', b') :: dput r k b
theorem dput_keys_mem {k : Str} {b : V} : ∀ {r : List (Str × V)} {x : Str}, x ∈ (dput r k b).map (·.1) → x = k ∨ x ∈ r.map (·.1)
  | [], x, h => by simp [dput] at h; exact .inl h
  | (k', b') :: r, x, h => by
    rw [dput] at h
    by_cases e : k' = k
    · rw [if_pos e] at h; exact .inr h
    · rw [if_neg e] at h
      rcases List.mem_cons.mp h with h | h
      · exact .inr (by rw [h]; exact List.mem_cons_self)
      · rcases dput_keys_mem h with h | h
        · exact .inl h
        · exact .inr (List.mem_cons_of_mem _ h)
theorem dput_nodup {k : Str} {b : V} : ∀ {r : List (Str × V)}, (r.map (·.1)).Nodup → ((dput r k b).map (·.1)).Nodup
  | [], _ => by simp [dput]
  | (k', b') :: r, h => by
    rw [dput]
    have hc := List.nodup_cons.mp h
    by_cases e : k' = k
    · rw [if_pos e]; exact List.nodup_cons.mpr hc
    · rw [if_neg e]
      refine List.nodup_cons.mpr ⟨fun hm => ?_, dput_nodup hc.2⟩
      rcases dput_keys_mem hm with hm | hm
      · exact e hm
      · exact hc.1 hm
theorem dput_length_le (k : Str) (b : V) : ∀ r : List (Str × V), (dput r k b).length ≤ r.length + 1
  | [] => Nat.le_refl _
  | (k', b') :: r => by
    rw [dput]
    by_cases e : k' = k
    · rw [if_pos e]; simp
    · rw [if_neg e]; have := dput_length_le k b r; simp; (first | lia | omega)

theorem EntR.length {W : Wd} : ∀ {es : List DictEntry} {r : List (Str × V)}, EntR X W es r → es.length = r.length
  | [], [], _ => rfl
  | _ :: _, _ :: _, h => by simp [EntR.length h.2.2.2]
  | [], _ :: _, h => h.elim
  | _ :: _, [], h => h.elim
theorem EntR.keysOf {W : Wd} : ∀ {es : List DictEntry} {r : List (Str × V)}, EntR X W es r → ∀ e ∈ es, ∃ k, Value.isStrOf k e.key = true ∧ e.hash = hashStr X.w k
  | e :: es, (k, b) :: r, h, e', hm => by
    rcases List.mem_cons.mp hm with rfl | hm
    · refine Classical.byContradiction fun hno => ?_
      obtain ⟨⟨t, h1, _⟩, h2, _⟩ := h
      refine hno ?_
      clear hno
      exact ⟨k, by rw [h1]; simp [Value.isStrOf], h2⟩
    · exact EntR.keysOf h.2.2.2 e' hm
  | [], [], _, _, hm => by simp at hm
  | [], _ :: _, h, _, _ => h.elim
  | _ :: _, [], h, _, _ => h.elim
theorem EntR.put {W : Wd} {k : Str} {t : Tok} {v : Value} {b : V} (ht : t ≠ 0) (hτ : W.τ t = some k) (hv : Is X W v b) : ∀ {es : List DictEntry} {r : List (Str × V)}, EntR X W es r →
    (∀ i, (es.findIdx? fun e => Value.isStrOf k e.key) = some i → EntR X W (es.modify i fun e => { e with val := v }) (dput r k b)) ∧
    ((es.findIdx? fun e => Value.isStrOf k e.key) = none → EntR X W (es ++ [⟨hashStr X.w k, .str k t, v⟩]) (dput r k b))
  | [], [], _ => ⟨fun i h => by simp at h, fun _ => ⟨⟨t, rfl, ht, hτ⟩, rfl, hv, trivial⟩⟩
  | e :: es, (k', b') :: r, h => by
    refine Classical.byContradiction fun hno => ?_
    obtain ⟨⟨t', h1, h1', h1''⟩, h2, h3, h4⟩ := h
    refine hno ?_
    clear hno
    have ih := EntR.put ht hτ hv h4
    by_cases he : k' = k
    · have hp : Value.isStrOf k e.key = true := by rw [h1, he]; simp [Value.isStrOf]
      refine ⟨fun i hi => ?_, fun hn => ?_⟩
      · rw [List.findIdx?_cons, if_pos hp] at hi
        cases hi
        rw [dput, if_pos he]
        exact ⟨⟨t', h1, h1', h1''⟩, h2, hv, h4⟩
      · rw [List.findIdx?_cons, if_pos hp] at hn; cases hn
    · have hp : Value.isStrOf k e.key = false := by
        rw [h1]; simp only [Value.isStrOf, beq_eq_false_iff_ne]; exact he
      refine ⟨fun i hi => ?_, fun hn => ?_⟩
      · rw [List.findIdx?_cons, hp] at hi
        cases hj : es.findIdx? fun e => Value.isStrOf k e.key with
        | none => rw [hj] at hi; simp at hi
        | some j =>
          rw [hj] at hi
          simp at hi
          subst hi
          rw [dput, if_neg he]
          exact ⟨⟨t', h1, h1', h1''⟩, h2, h3, ih.1 j hj⟩
      · rw [List.findIdx?_cons, hp] at hn
        have hj : es.findIdx? (fun e => Value.isStrOf k e.key) = none := by
          cases hj : es.findIdx? fun e => Value.isStrOf k e.key with
          | none => rfl
          | some j => rw [hj] at hn; simp at hn
        rw [dput, if_neg he]
        exact ⟨⟨t', h1, h1', h1''⟩, h2, h3, ih.2 hj⟩
  | [], _ :: _, h => h.elim
  | _ :: _, [], h => h.elim

theorem dictSet_run {B : Addr → Option Obj} {W : Wd} {s : Shared} {d : Addr} {r : List (Str × V)} {k : Str} {key v : Value} {b : V} {hs' : HS} (rel : Rel X B W hs s) (hk : Is X W key (.str k)) (hv : Is X W v b) (hsz : r.length ≤ sizeLine)
    (u : Upd hs d (.dict r) (.dict (dput r k b)) hs') {Q : Unit → Shared → Prop} (h : ∀ s', Rel X B W hs' s' → Q () s') : wpAny (M X) A (dictSet d key v) Q NoE s := by
  refine Classical.byContradiction fun hno => ?_
  obtain ⟨t, rfl, ht, hτ⟩ := isStr hk
  refine hno ?_
  clear hno
  refine Classical.byContradiction fun hno => ?_
  obtain ⟨o, es, n, h1, h2, h3, h4, h5⟩ := rel.objs _ _ u.mem
  refine hno ?_
  clear hno
  have hn := dput_nodup (k := k) (b := b) h5.1
  have hput := EntR.put ht hτ hv h4
  have hes : es.size ≤ sizeLine := by rw [← Array.length_toList, h4.length]; exact hsz
  have hko : KeysOf (PySem.strKind X.prog X.w) es := fun e he => h4.keysOf e (by simpa using he)
  unfold dictSet
  refine wpAny_holding (wpAny_bind ((PySem.strKind X.prog X.w).pyHash (k := k) (by simp [PySem.strKind, Value.isStrOf]) ?_))
  unfold dictSetHashed
  refine wpAny_holding (wpAny_bind (wpAny_dictFind_of (knd := PySem.strKind X.prog X.w) (k := k) (s := { s with toks := s.toks + 1 }) (by simp [PySem.strKind, Value.isStrOf]) h1 h3 hko ?_))
  have hfi : (es.findIdx? fun e => (PySem.strKind X.prog X.w).is k e.key) = es.toList.findIdx? fun e => Value.isStrOf k e.key := by
    obtain ⟨l⟩ := es; simp [PySem.strKind]
  cases hi : es.findIdx? fun e => (PySem.strKind X.prog X.w).is k e.key with
  | some i =>
    refine wpAny_bind (wpAny_rule (wpAny_bind (wpAny_updateDict (s := { s with toks := s.toks + 1 }) h1 h3 (wpAny_point (h _ ?_)))))
    refine rel.upd u (Heap.SameBut.update ..) (Nat.le_succ _) ⟨_, _, n, Heap.get?_update_self _ h1 (Obj.isFreed_of_dict (Obj.data_mapDict h3 _)), h2.mapDict _, Obj.data_mapDict h3 _, ?_, hn, h5.2⟩
    have := hput.1 i (hfi ▸ hi)
    obtain ⟨l⟩ := es
    simpa using this
  | none =>
    refine wpAny_bind (wpAny_rule (wpAny_updateDictKeys (hz := hes) (s := { s with toks := s.toks + 1 }) h1 h3 (h _ ?_)))
    refine rel.upd u (Heap.SameBut.update ..) (Nat.le_succ _) ⟨_, _, n + 1, Heap.get?_update_self _ h1 (Obj.isFreed_of_dict (Obj.data_mapDictKeys h3 _)), h2.mapDictKeys _, Obj.data_mapDictKeys h3 _, ?_, hn, h5.2⟩
    have := hput.2 (hfi ▸ hi)
    obtain ⟨l⟩ := es
    simpa [PySem.strKind] using this

theorem S_dict {d : Addr} {r : List (Str × V)} {k : Str} {b : V} {hs' : HS} {Q : HS → Prop} (hsz : r.length ≤ sizeLine) (u : Upd hs d (.dict r) (.dict (dput r k b)) hs') (h : Q hs') : Jsi X A (.ref d) (.str k) b hs Q := fun B W s va vb vc rel ha hb hc => by
  cases isRef ha
  have hT : s.TypeIs (.ref d) "dict" := TyAt.dict u.mem B W s _ rel is_ref
  unfold setItem
  refine wpAny_holding (wpAny_bind (wpAny_sequenceKey hT (by decide) ?_))
  refine wpAny_bind (wpAny_callSpecial?_slot (name := Str.ofString "__setitem__") hT slot_dict_setitem (wpAny_call_entry slot_dict_setitem hT entry_dict_setitem ?_ (args_dict_setitem _ _ _)))
  show wpAny _ _ (Builtin.Dict.notOrdered "__setitem__" ⟨[.ref d, vb, vc], []⟩ >>= _) _ _ s
  refine wpAny_bind (wpAny_notOrdered_dict hT ?_)
  show wpAny _ _ (dictSet d vb vc >>= _) _ _ s
  exact wpAny_bind (dictSet_run rel hb hc hsz u fun s' r' => wpAny_pure ⟨.none, rfl, wpAny_pure (.here (b := ()) rfl r' h)⟩)

theorem EntR.lookup {W : Wd} {k : Str} {b : V} : ∀ {es : List DictEntry} {r : List (Str × V)}, EntR X W es r → r.lookup k = some b → ∃ v, findBy Value.isStrOf es.toArray k = some v ∧ Is X W v b
  | [], [], _, h => by simp at h
  | e :: es, (k', b') :: r, ⟨⟨t, h1, _⟩, h2, h3, h4⟩, h => by
    rw [lookup_cons_str] at h
    by_cases he : k = k'
    · subst he
      rw [if_pos rfl] at h; cases h
      refine ⟨e.val, ?_, h3⟩
      simp [findBy, h1, Value.isStrOf]
    · rw [if_neg he] at h
      refine Classical.byContradiction fun hno => ?_
      obtain ⟨v, h5, h6⟩ := EntR.lookup h4 h
      refine hno ?_
      clear hno
      refine ⟨v, ?_, h6⟩
      have hp : Value.isStrOf k e.key = false := by
        rw [h1]; simp only [Value.isStrOf, beq_eq_false_iff_ne]; exact fun q => he q.symm
      simpa [findBy, hp] using h5
  | [], _ :: _, h, _ => h.elim
  | _ :: _, [], h, _ => h.elim

theorem isKey {W : Wd} {v : Value} {k : Str} (h : Is X W v (.str k) ∨ Is X W v (.txt k)) : ∃ t, v = .str k t := by
  rcases h with h | h
  · obtain ⟨t, rfl, _⟩ := isStr h; exact ⟨t, rfl⟩
  · exact isTxt h
theorem G_dictK {d : Addr} {r : List (Str × V)} {kb : V} {k : Str} {b : V} {Q : V → HS → Prop} (hkb : kb = .str k ∨ kb = .txt k) (hm : (d, AO.dict r) ∈ hs) (hb : r.lookup k = some b) (h : Q b hs) : Jgi X A (.ref d) kb hs Q := fun B W s va vb rel ha hk => by
  cases isRef ha
  obtain ⟨t, rfl⟩ : ∃ t, vb = .str k t := isKey (by rcases hkb with rfl | rfl; exact .inl hk; exact .inr hk)
  refine Classical.byContradiction fun hno => ?_
  obtain ⟨o, es, n, h1, h2, h3, h4, h5⟩ := rel.objs _ _ hm
  refine hno ?_
  clear hno
  refine Classical.byContradiction fun hno => ?_
  obtain ⟨v, h6, h7⟩ := h4.lookup hb
  refine hno ?_
  clear hno
  exact wpAny_getItem_of (knd := PySem.strKind X.prog X.w) (f := fun k => findBy Value.isStrOf es k) (k := k) (by simp [PySem.strKind, Value.isStrOf]) ⟨o, es, n, h1, h2, h3, fun e he => h4.keysOf e (by simpa using he), fun _ => rfl⟩ (by simpa using h6) (.here h7 (rel.toks (Nat.le_succ _)) h)
noncomputable def zipD (ks : List Str) (vs : List V) : List (Str × V) := ks.zip vs
theorem EntR.join {W : Wd} : ∀ {es : List DictEntry} {ks : List Str} {vs : List V}, KeysR X W es ks → IsL X W (es.map (·.val)) vs → EntR X W es (ks.zip vs)
  | [], [], _, _, _ => trivial
  | e :: es, k :: ks, vs, h, hv => by
    cases vs with
    | nil => simp only [List.map_cons, IsL] at hv; cases hv
    | cons v vs =>
      simp only [List.map_cons, IsL] at hv
      refine Classical.byContradiction fun hno => ?_
      obtain ⟨w, r, e1, h1, h2⟩ := hv
      refine hno ?_
      clear hno
      cases e1
      exact ⟨h.1, h.2.1, h1, EntR.join h.2.2 h2⟩
  | [], _ :: _, _, h, _ => h.elim
  | _ :: _, [], _, h, _ => h.elim
theorem G_dctK {ks : List Str} {vs : List V} {kb : V} {k : Str} {b : V} {Q : V → HS → Prop} (hkb : kb = .str k ∨ kb = .txt k) (hb : (ks.zip vs).lookup k = some b) (h : Q b hs) : Jgi X A (.dct ks vs) kb hs Q := fun B W s va vb rel ha hk => by
  refine Classical.byContradiction fun hno => ?_
  obtain ⟨d, o, es, n, rfl, h1, h2, h3, h4, h5, h6, _⟩ := isDct ha
  refine hno ?_
  clear hno
  obtain ⟨t, rfl⟩ : ∃ t, vb = .str k t := isKey (by rcases hkb with rfl | rfl; exact .inl hk; exact .inr hk)
  have h4' := EntR.join h4 h6
  refine Classical.byContradiction fun hno => ?_
  obtain ⟨v, h6, h7⟩ := h4'.lookup hb
  refine hno ?_
  clear hno
  exact wpAny_getItem_of (knd := PySem.strKind X.prog X.w) (f := fun k => findBy Value.isStrOf es k) (k := k) (by simp [PySem.strKind, Value.isStrOf]) ⟨o, es, n, rel.froz _ _ h1, h2, h3, fun e he => h4'.keysOf e (by simpa using he), fun _ => rfl⟩ (by simpa using h6) (.here h7 (rel.toks (Nat.le_succ _)) h)
end
end
section
section
variable {X : Fx} {A : Around} {env : Env} {hs : HS}

noncomputable def Jifs (X : Fx) (A : Around) (env : Env) : List Expr → HS → (Bool → HS → Prop) → Prop
  | [], hs, Q => Q true hs
  | c :: cs, hs, Q => Jt X A env c hs fun b h => if b then Jifs X A env cs h Q else Q false h
noncomputable def testsOf (ifs : List Expr) (env : Env) : Sem Bool := forIn ifs true fun c r => if r = true then do let ok ← isTrue c env (eval c env); pure (ForInStep.yield ok) else pure (ForInStep.yield r)
noncomputable def testsFrom (ifs : List Expr) (env : Env) (b : Bool) : Sem Bool := forIn ifs b fun c r => if r = true then do let ok ← isTrue c env (eval c env); pure (ForInStep.yield ok) else pure (ForInStep.yield r)
theorem tests_false : ∀ (ifs : List Expr) {M : Model} {E : Value → Shared → Prop} {s : Shared} {Q : Bool → Shared → Prop}, Q false s → wpAny M A (testsFrom ifs env false) Q E s
  | [], _, _, _, _, h => by unfold testsFrom; rw [List.forIn_nil]; exact wpAny_pure h
  | c :: cs, M, E, s, Q, h => by
    unfold testsFrom
    rw [List.forIn_cons]
    simp only [Bool.false_eq_true, if_false]
    exact wpAny_bind (wpAny_pure (tests_false cs h))
theorem Jifs.run : ∀ {ifs : List Expr} {hs : HS} {Q : Bool → HS → Prop}, Jifs X A env ifs hs Q → J X A Same (testsFrom ifs env true) hs Q
  | [], hs, Q, h => fun B W s r => by unfold testsFrom; rw [List.forIn_nil]; exact wpAny_pure (.here rfl r h)
  | c :: cs, hs, Q, h => fun B W s r => by
    unfold testsFrom
    rw [List.forIn_cons]
    simp only [if_true]
    refine wpAny_bind (wpAny_bind (wpAny_mono (h B W s r) (fun b s1 p0 => p0.elim fun W1 b' h1 l1 i1 r1 k1 => wpAny_pure ?_) fun _ _ x => x))
    cases i1
    cases b with
    | true => exact wpAny_mono (Jifs.run k1 B W1 s1 r1) (fun _ _ p => p.le l1) fun _ _ x => x
    | false => exact tests_false cs ⟨W1, false, h1, l1, rfl, r1, k1⟩

noncomputable def CT (X : Fx) (A : Around) (env : Env) (target : Expr) (ifs : List Expr) (inner : AO → HS → (AO → HS → Prop) → Prop) : List V → AO → HS → (AO → HS → Prop) → Prop
  | [], ao, hs, Q => Q ao hs
  | b :: r, ao, hs, Q => Jas X A env target b hs fun h1 => Jifs X A env ifs h1 fun ok h2 => if ok then inner ao h2 fun ao' h3 => CT X A env target ifs inner r ao' h3 Q else CT X A env target ifs inner r ao h2 Q

theorem wp_frame {α β : Type} {R : Wd → α → β → Prop} {t : Sem α} {F h : HS} {B : Addr → Option Obj} {W : Wd} {s : Shared} {Q : β → HS → Prop} (r : Rel X B W (F ++ h) s)
    (hyp : ∀ B', Rel X B' W h s → wpAny (M X) A t (Post X B' W R Q) NoE s) : wpAny (M X) A t (Post X B W R fun b h2 => ∃ h', h2 = F ++ h' ∧ Q b h') NoE s := by
  refine Classical.byContradiction fun hno => ?_
  obtain ⟨o, r1, _⟩ := r.under
  refine hno ?_
  clear hno
  exact wpAny_mono (hyp _ (r1.holdL o)) (fun v s' p0 => p0.elim fun W' b h' l i r' q => ⟨W', b, F ++ h', l, i, r.over l r', h', rfl, q⟩) fun _ _ x => x

noncomputable def Tails (X : Fx) (A : Around) (D : Addr) (tail : Sem Unit) (inner : AO → HS → (AO → HS → Prop) → Prop) : Prop :=
  ∀ B W s ao h K, Rel X B W ((D, ao) :: h) s → inner ao h K → wpAny (M X) A tail (fun _ s' => ∃ W' ao' h', W.le W' ∧ Rel X B W' ((D, ao') :: h') s' ∧ K ao' h') NoE s

theorem comp_loop {e : Expr} {d : Nat} {D I : Addr} {target : Expr} {p : Pos} {ifs : List Expr} {tail : Sem Unit} {inner : AO → HS → (AO → HS → Prop) → Prop} {own : List Addr} {tg : Bool} {St : List V → Wd → Heap → Prop} {Q : AO → HS → Prop}
    (hturn : compTurn e d (.ref I) (.ref D) env = (standAt p >>= fun _ => pyNext (.ref I) >>= fun r => match r with
      | none => pure (.done .next)
      | some v => letOwnedTupleGo target (.ref I) v >>= fun _ => assign target env v >>= fun _ => testsFrom ifs env true >>= fun ok => if ok = true then tail >>= fun _ => again (.compLoop e d (.ref I) (.ref D) env) else again (.compLoop e d (.ref I) (.ref D) env)))
    (hund : A.under (.compLoop e d (.ref I) (.ref D) env) = A) (hfr : (Code.compLoop e d (.ref I) (.ref D) env).isFrame = false) (hqt : (Code.compLoop e d (.ref I) (.ref D) env).quiet = true)
    (htail : Tails X A D tail inner) (hh : A.handled = none) (htg : tg = true → ∃ es k p, target = .Tuple es k p) (T : Itr X own I tg St) {B : Addr → Option Obj} {W : Wd} {s : Shared} {ao : AO} {vs : List V}
    (r : Rel X B W ((D, ao) :: hs) s) (o : Out own B W ((D, ao) :: hs)) (st : St vs W s.heap) (k : CT X A env target ifs inner vs ao hs Q) :
    codeAny (M X) A (.compLoop e d (.ref I) (.ref D) env) (fun r s' => ∃ W' ao' h', r = .ok .next ∧ W.le W' ∧ Rel X B W' ((D, ao') :: h') s' ∧ Out own B W' ((D, ao') :: h') ∧ Q ao' h') s := by
  refine codeAny_loop hqt (fun n s => ∃ W' ao' hs' vs, n = vs.length ∧ W.le W' ∧ Rel X B W' ((D, ao') :: hs') s ∧ Out own B W' ((D, ao') :: hs') ∧ St vs W' s.heap ∧ CT X A env target ifs inner vs ao' hs' Q) (fun n s3 q4 => ?_) vs.length ⟨W, ao, hs, vs, rfl, .refl _, r, o, st, k⟩
  refine Classical.byContradiction fun hno => ?_
  obtain ⟨W3, ao3, hs3, vs3, en, l3, r3, o3, st3, k3⟩ := q4
  refine hno ?_
  clear hno
  rw [hund]
  show wpAny _ _ (if (Code.compLoop e d (.ref I) (.ref D) env).isFrame = true then (compTurn e d (.ref I) (.ref D) env).onRaise (leaving env) else (compTurn e d (.ref I) (.ref D) env).onRaise (fun x => do noteFrame x env; theTreesLotGoes x)) _ _ s3
  rw [if_neg (by rw [hfr]; decide)]
  refine wpAny_noted ?_
  rw [hturn]
  refine wpAny_bind (wpAny_standAt (wpAny_bind ?_))
  cases vs3 with
  | nil =>
    refine wpAny_mono (T.stop (A := A) hh r3 o3 st3) (fun o' s4 q5 => ?_) fun _ _ x => x.elim
    obtain ⟨e, r4⟩ := q5
    subst e
    exact wpAny_pure ⟨W3, ao3, hs3, rfl, l3, r4, o3, k3⟩
  | cons b vs3 =>
    refine wpAny_mono (T.next (A := A) target hh htg r3 o3 st3) (fun o' s4 q6 => ?_) fun _ _ x => x.elim
    refine Classical.byContradiction fun hno => ?_
    obtain ⟨v, e, k4⟩ := q6
    refine hno ?_
    clear hno
    subst e
    refine wpAny_bind (wpAny_mono k4 (fun _ s5 q0 => ?_) fun _ _ x => x.elim)
    refine Classical.byContradiction fun hno => ?_
    obtain ⟨W5, l5, i5, r5, o5, st5⟩ := q0
    refine hno ?_
    clear hno
    have hr5 : Rel X _ W5 ([(D, ao3)] ++ hs3) s5 := r5.holdL o5
    have fin : ∀ W8 ao8 h8 s8, W5.le W8 → Rel X (holdL B own s5.heap) W8 ((D, ao8) :: h8) s8 → CT X A env target ifs inner vs3 ao8 h8 Q →
        wpAny (M X) (A) (again (.compLoop e d (.ref I) (.ref D) env)) (fun fin s' => match fin with
          | .done f => ∃ W' ao' h', (Except.ok f : Result) = .ok .next ∧ W.le W' ∧ Rel X B W' ((D, ao') :: h') s' ∧ Out own B W' ((D, ao') :: h') ∧ Q ao' h'
          | .again c' => c' = .compLoop e d (.ref I) (.ref D) env ∧ ∃ m, m < n ∧ ∃ W' ao' hs' vs, m = vs.length ∧ W.le W' ∧ Rel X B W' ((D, ao') :: hs') s' ∧ Out own B W' ((D, ao') :: hs') ∧ St vs W' s'.heap ∧ CT X A env target ifs inner vs ao' hs' Q) (notedBy (M X) A env fun e' s' => ∃ W' ao' h', (Except.error e' : Result) = .ok .next ∧ W.le W' ∧ Rel X B W' ((D, ao') :: h') s' ∧ Out own B W' ((D, ao') :: h') ∧ Q ao' h') s8 := fun W8 ao8 h8 s8 l8 r8 k8 => by
      refine Classical.byContradiction fun hno => ?_
      obtain ⟨r9, o9, hk9⟩ := r8.unholdL r3.hb (fun a ha => (o3 a ha).1) (T.has st5)
      refine hno ?_
      clear hno
      exact wpAny_pure ⟨rfl, vs3.length, by rw [en]; exact Nat.lt_succ_self _, W8, ao8, h8, vs3, rfl, (l3.trans l5).trans l8, r9, o9, T.frame st5 l8 hk9, k8⟩
    refine wpAny_bind (wpAny_mono (wp_frame hr5 fun B' r' => k3 B' W5 s5 v r' i5) (fun _ s6 q1 => ?_) fun _ _ x => x.elim)
    refine Classical.byContradiction fun hno => ?_
    obtain ⟨W6, _, h6, l6, _, r6, h6', e6, k6⟩ := q1
    refine hno ?_
    clear hno
    subst e6
    refine wpAny_bind (wpAny_mono (wp_frame r6 fun B' r' => Jifs.run k6 B' W6 s6 r') (fun ok s7 q2 => ?_) fun _ _ x => x.elim)
    refine Classical.byContradiction fun hno => ?_
    obtain ⟨W7, ok', h7, l7, i7, r7, h7', e7, k7⟩ := q2
    refine hno ?_
    clear hno
    subst e7
    cases i7
    cases ok with
    | true =>
      refine wpAny_bind (wpAny_mono (htail _ W7 s7 ao3 h7' _ r7 k7) (fun _ s8 q3 => ?_) fun _ _ x => x.elim)
      refine Classical.byContradiction fun hno => ?_
      obtain ⟨W8, ao8, h8, l8, r8, k8⟩ := q3
      refine hno ?_
      clear hno
      exact fin W8 ao8 h8 s8 ((l6.trans l7).trans l8) r8 k8
    | false => exact fin W7 ao3 h7' s7 (l6.trans l7) r7 k7

theorem comp_start {e : Expr} {d : Nat} {D I : Addr} {own : List Addr} {tg : Bool} {St : List V → Wd → Heap → Prop} {vs : List V} {W : Wd} {s : Shared} {R : Result → Shared → Prop} (T : Itr X own I tg St) (st : St vs W s.heap)
    {g : Comprehension} (hund : A.under (.compStart e d (.ref I) (.ref D) env) = A) (hfr : (Code.compStart e d (.ref I) (.ref D) env).isFrame = false) (hqt : (Code.compLoop e d (.ref I) (.ref D) env).quiet = true) (h0 : (clausesOf e)[d]? = some g) (h1 : g.is_async = 0) (h : codeAny (M X) A (.compLoop e d (.ref I) (.ref D) env) R s) : codeAny (M X) A (.compStart e d (.ref I) (.ref D) env) R s := by
  refine codeAny_of_tree ?_
  rw [hund]
  show wpAny _ _ (if (Code.compStart e d (.ref I) (.ref D) env).isFrame = true then (compStart e d (.ref I) (.ref D) env).onRaise (leaving env) else (compStart e d (.ref I) (.ref D) env).onRaise (fun x => do noteFrame x env; standAt theWindowsPlace)) _ _ s
  rw [if_neg (by rw [hfr]; decide)]
  refine wpAny_notedAt ?_
  unfold compStart
  rw [h0]
  rw [if_neg (by simp [h1])]
  show wpAny _ _ (ask >>= _) _ _ s
  refine wpAny_bind (wpAny_askSetting (wpAny_ite ?_))
  have hit : ∀ {α : Type} {f : Value → Sem α} {Q : α → Shared → Prop} {E : Value → Shared → Prop}, wpAny (M X) A (f (.ref I)) Q E s → wpAny (M X) A (pyIter (.ref I) >>= f) Q E s := fun hq =>
    wpAny_bind (wpAny_mono (T.self st (Q := fun it s' => it = .ref I ∧ s' = s) ⟨rfl, rfl⟩) (fun it s' q4 => by obtain ⟨e1, e2⟩ := q4; subst e1; subst e2; exact hq) fun _ _ x => x.elim)
  split
  · first
      | exact wpAny_bind (wpAny_pure (wpAny_pure (And.intro hqt h)))
      | exact wpAny_pure (And.intro hqt h)
  · refine wpAny_bind (wpAny_rule ?_)
    first
      | exact wpAny_bind (wpAny_standAt (hit (wpAny_pure (And.intro hqt h))))
      | (dsimp only; exact wpAny_bind (wpAny_standAt (hit (wpAny_pure (And.intro hqt h)))))
      | (show wpAny _ _ (standAt g.iter.pos >>= _) _ _ s; exact wpAny_bind (wpAny_standAt (hit (wpAny_pure (And.intro hqt h)))))

theorem cellsFrom_append : ∀ (names : List (Str × NameKind)) (n : Nat) (acc : List (Str × Addr)), cellsFrom n names acc = cellsFrom n names [] ++ acc
  | [], _, _ => rfl
  | (name, kind) :: r, n, acc => by
    unfold cellsFrom
    by_cases hk : (kind == .cell) = true
    · rw [if_pos hk, if_pos hk, cellsFrom_append r _ ((name, n) :: acc), cellsFrom_append r _ [(name, n)]]; simp
    · rw [if_neg hk, if_neg hk]; exact cellsFrom_append r _ acc

theorem comp_env {B : Addr → Option Obj} {W : Wd} {s : Shared} {scope : Scope} {cl : List (Str × Addr)} {Q : Env → Shared → Prop} {E : Value → Shared → Prop} (r : Rel X B W hs s)
    (h : ∀ C cs h', cs.map (·.1) = cellNames scope.names [] → s.heap.objs.size ≤ C → (∀ p ∈ cs, s.heap.objs.size ≤ p.2) → (∀ b o, s.heap.get? b = some o → h'.get? b = some o) → Rel X B W ((C, .ns []) :: (cs.map fun p => (p.2, AO.cell none)) ++ hs) { s with heap := h' } →
      Q (newEnv scope C env.globals (cs ++ cl) env.qual none .none (some env) builtinsNs) { s with heap := h' }) :
    wpAny (M X) A (newFunctionEnv scope env.globals cl [] env.qual none .none (some env)) Q E s := by
  simp only [newFunctionEnv, Option.isSome_some, if_true]
  refine wpAny_bind (wpAny_alloc ?_)
  refine wpAny_bind (wpAny_layCells _ (fun name kind cells => by cases hkc : kind == NameKind.cell <;> simp [hkc]) _ _ _ _ ?_)
  have ok := cellsFrom_ok scope.names (s.heap.push { cls := .type "dict", data := .dict #[] }) (s.heap.objs.size + 1) [] ⟨fun _ _ hm => (nomatch hm), List.Pairwise.nil⟩ (by rw [Heap.size_push]; exact Nat.le_refl _)
  rw [Heap.size_push] at ok
  rw [show ({ s with heap := s.heap.push { cls := .type "dict", data := .dict #[] } } : Shared).heap.objs.size = s.heap.objs.size + 1 from Heap.size_push .., cellsFrom_append]
  rw [List.forIn_nil]
  refine wpAny_bind (wpAny_pure (wpAny_pure ?_))
  have keep : ∀ b o, s.heap.get? b = some o → (pushCells (s.heap.push { cls := .type "dict", data := .dict #[] }) scope.names).get? b = some o := fun b o e => pushCells_keeps _ _ b o (Heap.get?_push_of_some _ e)
  refine h s.heap.objs.size _ _ (by rw [cellsFrom_fst]; rfl) (Nat.le_refl _) (fun p hp => Nat.le_of_succ_le (ok.empty p.1 p.2 hp).2) keep ?_
  have r' := r.keeps keep (Nat.le_refl s.toks)
  have hm : ∀ a o, (a, o) ∈ (s.heap.objs.size, AO.ns []) :: ((cellsFrom (s.heap.objs.size + 1) scope.names []).map fun p => (p.2, AO.cell none)) → s.heap.objs.size ≤ a ∧ ObjR X W (pushCells (s.heap.push { cls := .type "dict", data := .dict #[] }) scope.names) a o := fun a o hm => by
    rcases List.mem_cons.mp hm with e | hm
    · cases e
      exact ⟨Nat.le_refl _, _, (Heap.Ns.new s.heap (.type "dict")).keeps (pushCells_keeps _ _), fun x b e => by simp at e⟩
    · refine Classical.byContradiction fun hno => ?_
      obtain ⟨p, hp, e⟩ := List.mem_map.mp hm
      refine hno ?_
      clear hno
      cases e
      have := ok.empty p.1 p.2 hp
      exact ⟨Nat.le_of_succ_le this.2, none, this.1, trivial⟩
  refine { r' with objs := fun a o hmem => ?_, nodup := ?_, apB := fun a o hmem => ?_, apZ := fun a o hmem => ?_ }
  · rcases List.mem_append.mp hmem with h | h
    · exact (hm a o h).2
    · exact r'.objs a o h
  · refine List.pairwise_append.mpr ⟨List.pairwise_cons.mpr ⟨fun q hq => ?_, ?_⟩, r.nodup, fun p hp q hq e => ?_⟩
    · refine Classical.byContradiction fun hno => ?_
      obtain ⟨p, hp, e⟩ := List.mem_map.mp hq
      refine hno ?_
      clear hno
      subst e
      have := (ok.empty p.1 p.2 hp).2
      exact Nat.ne_of_lt this
    · rw [List.pairwise_map]; exact ok.apart
    · have := (hm p.1 p.2 hp).1
      exact (r.out_fresh this).2.2 q.2 (e ▸ hq)
  · rcases List.mem_append.mp hmem with h | h
    · exact (r.out_fresh (hm a o h).1).1
    · exact r.apB a o h
  · rcases List.mem_append.mp hmem with h | h
    · exact (r.out_fresh (hm a o h).1).2.1
    · exact r.apZ a o h

theorem Src.frame {iter : Expr} {tg : Bool} {K : List V → HS → Prop} {F h : HS} (hj : Src X A env iter tg h K) : Src X A env iter tg (F ++ h) fun vs h2 => ∃ h', h2 = F ++ h' ∧ K vs h' := fun B W s r => by
  refine Classical.byContradiction fun hno => ?_
  obtain ⟨o, r1, hx⟩ := r.under
  refine hno ?_
  clear hno
  refine wpAny_mono (hj _ W s (r1.holdL o)) (fun x s1 k1 => wpAny_mono k1 (fun it s2 q5 => ?_) fun _ _ x => x) fun _ _ x => x
  refine Classical.byContradiction fun hno => ?_
  obtain ⟨W', h', own, I, St, vs, l, e, T, r', o', st, k⟩ := q5
  refine hno ?_
  clear hno
  have r2 := r.over l r'
  refine Classical.byContradiction fun hno => ?_
  obtain ⟨o2, _, hx2⟩ := r2.under
  refine hno ?_
  clear hno
  refine ⟨W', F ++ h', own, I, St, vs, l, e, T, r2, fun a ha => ?_, st, h', rfl, k⟩
  have hF : a ∉ F.map (·.1) := fun hm => by
    obtain ⟨ob, e⟩ := hx a hm
    have := (o' a ha).1
    simp only [holdL, if_pos hm] at this
    rw [e] at this; cases this
  refine ⟨?_, (o' a ha).2.1, fun ob hm => ?_⟩
  · have := (o' a ha).1
    simpa only [holdL, if_neg hF] using this
  · rcases List.mem_append.mp hm with hm | hm
    · exact hF (List.mem_map.mpr ⟨_, hm, rfl⟩)
    · exact (o' a ha).2.2 ob hm

noncomputable def eltOf (X : Fx) (A : Around) (env : Env) (elt : Expr) (ao : AO) (h : HS) (K : AO → HS → Prop) : Prop :=
  Je X A env elt h fun b h' => ∃ ys, ao = .list ys ∧ ys.length ≤ sizeLine ∧ K (.list (ys ++ [b])) h'
noncomputable def entOf (X : Fx) (A : Around) (env : Env) (kx vx : Expr) (ao : AO) (h : HS) (K : AO → HS → Prop) : Prop :=
  Je X A env kx h fun kb h1 => Je X A env vx h1 fun b h2 => ∃ x r, kb = .str x ∧ ao = .dict r ∧ r.length ≤ sizeLine ∧ K (.dict (dput r x b)) h2
theorem tails_elt {D : Addr} {elt : Expr} : Tails X A D (eval elt env >>= fun x => call (.builtin "list.append") [.ref D, x] >>= fun _ => pure ()) (eltOf X A env elt) := fun B W s ao h K r k => by
  refine wpAny_bind (wpAny_mono (wp_frame (F := [(D, ao)]) r fun B' r' => k B' W s r') (fun v s1 q6 => ?_) fun _ _ x => x)
  refine Classical.byContradiction fun hno => ?_
  obtain ⟨W1, b, h1, l1, i1, r1, h', e, ys, e2, hsz, k1⟩ := q6
  refine hno ?_
  clear hno
  subst e; subst e2
  refine wpAny_bind (wpAny_mono (N_append (X := X) (A := A) (a := D) (vs := ys) (b := b) (hs := (D, .list ys) :: h') (hs' := (D, .list (ys ++ [b])) :: h') (Q := fun _ h2 => h2 = (D, .list (ys ++ [b])) :: h') hsz .here rfl B W1 s1 (.builtin "list.append") [.ref D, v] r1 (by simp only [Is]) (IsL.cons is_ref (IsL.cons i1 IsL.nil))) (fun _ s2 p0 => p0.elim fun W2 _ h2 l2 _ r2 e => ?_) fun _ _ x => x)
  subst e
  exact wpAny_pure ⟨W2, _, h', l1.trans l2, r2, k1⟩
theorem tails_ent {D : Addr} {kx vx : Expr} {p : Pos} : Tails X A D (eval kx env >>= fun kv => holding [kv] (eval vx env) >>= fun vv => standAt p >>= fun _ => holding [kv, vv] (dictSet D kv vv)) (entOf X A env kx vx) := fun B W s ao h K r k => by
  refine wpAny_bind (wpAny_mono (wp_frame (F := [(D, ao)]) r fun B' r' => k B' W s r') (fun kv s1 q0 => ?_) fun _ _ x => x)
  refine Classical.byContradiction fun hno => ?_
  obtain ⟨W1, kb, h1, l1, i1, r1, h', e, k1⟩ := q0
  refine hno ?_
  clear hno
  subst e
  refine wpAny_bind (wpAny_holding (wpAny_mono (wp_frame (F := [(D, ao)]) r1 fun B' r' => k1 B' W1 s1 r') (fun vv s2 q1 => ?_) fun _ _ x => x))
  refine Classical.byContradiction fun hno => ?_
  obtain ⟨W2, b, h2, l2, i2, r2, h'', e, x, rd, e2, e3, hsz, k2⟩ := q1
  refine hno ?_
  clear hno
  subst e; subst e2; subst e3
  refine wpAny_bind (wpAny_standAt (wpAny_holding ?_))
  exact dictSet_run r2 (i1.mono l2) i2 hsz .here fun s' r3 => ⟨W2, _, h'', l1.trans l2, r3, k2⟩

noncomputable def genOf (X : Fx) (A : Around) (env : Env) (target iter : Expr) (ifs : List Expr) (tg : Bool) (inner : AO → HS → (AO → HS → Prop) → Prop) (ao : AO) (h : HS) (K : AO → HS → Prop) : Prop :=
  Src X A env iter tg h fun vs h1 => CT X A env target ifs inner vs ao h1 K
theorem tails_gen {e : Expr} {D : Addr} {target iter : Expr} {ifs : List Expr} {p q : Pos} {tg : Bool} {tail : Sem Unit} {inner : AO → HS → (AO → HS → Prop) → Prop}
    (hs' : ∀ x, foldedSetIterable iter env x = pure x)
    (hturn : ∀ I, compTurn e 1 (.ref I) (.ref D) env = (standAt p >>= fun _ => pyNext (.ref I) >>= fun r => match r with
      | none => pure (.done .next)
      | some v => letOwnedTupleGo target (.ref I) v >>= fun _ => assign target env v >>= fun _ => testsFrom ifs env true >>= fun ok => if ok = true then tail >>= fun _ => again (.compLoop e 1 (.ref I) (.ref D) env) else again (.compLoop e 1 (.ref I) (.ref D) env)))
    (hund : ∀ I, A.under (.compLoop e 1 (.ref I) (.ref D) env) = A) (hfr : ∀ I, (Code.compLoop e 1 (.ref I) (.ref D) env).isFrame = false) (hqt : ∀ I, (Code.compLoop e 1 (.ref I) (.ref D) env).quiet = true)
    (hund' : ∀ I, A.under (.compStart e 1 (.ref I) (.ref D) env) = A) (hfr' : ∀ I, (Code.compStart e 1 (.ref I) (.ref D) env).isFrame = false) (hmk : A.mark none = A)
    {g : Comprehension} (h0 : (clausesOf e)[1]? = some g) (h1 : g.is_async = 0)
    (htail : Tails X A D tail inner) (hh : A.handled = none) (htg : tg = true → ∃ es k p, target = .Tuple es k p) :
    Tails X A D (eval iter env >>= fun x => standAt q >>= fun _ => foldedSetIterable iter env x >>= fun x => holding [x] (pyIter x) >>= fun it => runOwn (.compStart e 1 it (.ref D) env) env >>= fun _ => pure ()) (genOf X A env target iter ifs tg inner) := fun B W s ao h K r k => by
  refine wpAny_bind (wpAny_mono (Src.frame (F := [(D, ao)]) k B W s r) (fun x s1 k1 => wpAny_bind (wpAny_standAt (wpAny_bind (wpAny_of_eq (hs' x) (wpAny_bind (wpAny_holding (wpAny_mono k1 (fun it s2 q2 => ?_) fun _ _ x => x))))))) fun _ _ x => x)
  refine Classical.byContradiction fun hno => ?_
  obtain ⟨W', h2, own, I, St, vs, l, e', T, r', o', st, h', e2, k2⟩ := q2
  refine hno ?_
  clear hno
  subst e'; subst e2
  refine wpAny_bind (wpAny_runOwn ?_)
  rw [hmk]
  refine comp_start T st (hund' I) (hfr' I) (hqt I) h0 h1 (codeAny_mono (comp_loop (hturn I) (hund I) (hfr I) (hqt I) htail hh htg T r' o' st k2) fun rr s' q3 => ?_)
  refine Classical.byContradiction fun hno => ?_
  obtain ⟨W2, ao', h3, e3, l2, r3, o3, q3⟩ := q3
  refine hno ?_
  clear hno
  subst e3
  exact wpAny_pure ⟨W2, ao', h3, l.trans l2, r3, q3⟩

theorem comp_core {e : Expr} {scope : Scope} {newAcc : Sem Value} {o0 : Obj} {ao0 : AO} {cl : List (Str × Addr)} {target iter : Expr} {ifs : List Expr} {gs : List Comprehension} {tg : Bool} {pos p : Pos} {use : Option (Value → Sem Unit)} {Q0 : Value → Shared → Prop}
    {tail : Env → Addr → Sem Unit} {inner : Env → AO → HS → (AO → HS → Prop) → Prop} {QE : Addr → AO → HS → Prop}
    (hcl : clausesOf e = ⟨target, iter, ifs, 0⟩ :: gs) (hs' : ∀ x, foldedSetIterable iter env x = pure x) (hclos : closureFor scope env = pure cl) (hkind : scope.kind = .function) (hnames : ∀ x ∈ scope.names, x.2 = .local → scope.names.lookup x.1 = some .local)
    (hnew : ∀ {Q : Value → Shared → Prop} {s : Shared}, Q (.ref s.heap.objs.size) { s with heap := s.heap.push o0 } → wpAny (M X) A newAcc Q NoE s) (T0 : Base X) (hnew0 : ∀ (W : Wd) (h : Heap) (a : Addr), h.get? a = some o0 → (a == sysModules) = false → ObjR X W h a ao0) (hfree : o0.isFreed = false)
    (hturn : ∀ I D env', compTurn e 0 (.ref I) (.ref D) env' = (standAt p >>= fun _ => pyNext (.ref I) >>= fun r => match r with
      | none => pure (.done .next)
      | some v => letOwnedTupleGo target (.ref I) v >>= fun _ => assign target env' v >>= fun _ => testsFrom ifs env' true >>= fun ok => if ok = true then tail env' D >>= fun _ => again (.compLoop e 0 (.ref I) (.ref D) env') else again (.compLoop e 0 (.ref I) (.ref D) env')))
    (hund : ∀ I D env', A.under (.compLoop e 0 (.ref I) (.ref D) env') = A) (hfr : ∀ I D env', (Code.compLoop e 0 (.ref I) (.ref D) env').isFrame = false) (hqt : ∀ I D env', (Code.compLoop e 0 (.ref I) (.ref D) env').quiet = true)
    (hund' : ∀ I D env', A.under (.compStart e 0 (.ref I) (.ref D) env') = A) (hfr' : ∀ I D env', (Code.compStart e 0 (.ref I) (.ref D) env').isFrame = false)
    (htail : ∀ D env', Tails X A D (tail env' D) (inner env')) (hh : A.handled = none) (htg : tg = true → ∃ es k p, target = .Tuple es k p) {B : Addr → Option Obj} {W : Wd} {s : Shared} (r : Rel X B W hs s)
    (h : Src X A env iter tg hs fun vs h1 => ∀ C, AllCells (cellNames scope.names []) fun cs => CT X A (compEnvC scope (cs ++ cl) C env) target ifs (inner (compEnvC scope (cs ++ cl) C env)) vs ao0 ((C, .ns []) :: (cs.map fun p => (p.2, AO.cell none)) ++ h1) (QE C))
    (hend : ∀ W' D C ao h2 s', W.le W' → Rel X B W' ((D, ao) :: h2) s' → QE C ao h2 → compPost (M X) A NoE use Q0 (.ref D) C (.ok .next) s') :
    wpAny (M X) A (comprehension e scope env pos newAcc false (eval iter env) use) Q0 NoE s := by
  refine wpAny_comprehension_free hcl hs' hclos hkind hnames (wpAny_mono (h B W s r) (fun x s1 k1 => wpAny_mono k1 (fun it s2 q4 => ?_) fun _ _ x => x) fun _ _ x => x)
  refine Classical.byContradiction fun hno => ?_
  obtain ⟨W', h1, own, I, St, vs, l, e', T, r', o', st, k2⟩ := q4
  refine hno ?_
  clear hno
  subst e'
  refine hnew ?_
  have rD := r'.new (o := o0) (ao := ao0) (hnew0 _ _ _ (Heap.get?_push_size _ hfree) (by
    refine Classical.byContradiction fun hno => ?_
    obtain ⟨mc, ⟨oc, _, _, hc, _⟩, _⟩ := T0.nodigits
    refine hno ?_
    clear hno
    have := Heap.lt_size (r'.hbk _ _ hc)
    have h2 : 2 < s2.heap.objs.size := this
    have h3 : s2.heap.objs.size ≠ 1 := by (first | lia | omega)
    exact beq_eq_false_iff_ne.mpr h3))
  refine comp_env rD fun C cs h' hcs hC hCs hk r3 => ?_
  have r4 : Rel X B W' ((s2.heap.objs.size, ao0) :: ((C, .ns []) :: (cs.map fun p => (p.2, AO.cell none)) ++ h1)) { s2 with heap := h' } := r3.perm (by
    show (((C, AO.ns []) :: cs.map fun p => (p.2, AO.cell none)) ++ (s2.heap.objs.size, ao0) :: h1).Perm _
    exact List.perm_middle)
  have hk0 : ∀ b o, s2.heap.get? b = some o → h'.get? b = some o := fun b o e => hk b o (Heap.get?_push_of_some _ e)
  have st' : St vs W' h' := T.frame st (.refl _) fun b _ o e => hk0 b o e
  have o4 : Out own B W' ((s2.heap.objs.size, ao0) :: ((C, .ns []) :: (cs.map fun p => (p.2, AO.cell none)) ++ h1)) := fun a ha => by
    obtain ⟨ob, hob⟩ := T.has st a ha
    have hlt := Heap.lt_size hob
    refine ⟨(o' a ha).1, (o' a ha).2.1, fun ob' hm => ?_⟩
    -- a lies below all that is new
    rcases List.mem_cons.mp hm with e | hm
    · cases e; exact Nat.lt_irrefl _ hlt
    · rcases List.mem_append.mp hm with hm | hm
      · have hb : s2.heap.objs.size ≤ a := by
          rcases List.mem_cons.mp hm with e | hm
          · cases e; exact Nat.le_of_succ_le (by rw [Heap.size_push] at hC; exact hC)
          · refine Classical.byContradiction fun hno => ?_
            obtain ⟨p, hp, e⟩ := List.mem_map.mp hm
            refine hno ?_
            clear hno
            cases e
            have := hCs p hp
            rw [Heap.size_push] at this
            exact Nat.le_of_succ_le this
        exact Nat.lt_irrefl _ (Nat.lt_of_lt_of_le hlt hb)
      · exact (o' a ha).2.2 ob' hm
  have hct := (k2 C).at (k := fun cs => CT X A (compEnvC scope (cs ++ cl) C env) target ifs (inner (compEnvC scope (cs ++ cl) C env)) vs ao0 ((C, .ns []) :: (cs.map fun p => (p.2, AO.cell none)) ++ h1) (QE C)) hcs
  show codeAny (M X) A (.compStart e 0 (.ref I) (.ref s2.heap.objs.size) (compEnvC scope (cs ++ cl) C env)) (compPost (M X) A NoE use Q0 (.ref s2.heap.objs.size) C) _
  refine comp_start T st' (hund' _ _ _) (hfr' _ _ _) (hqt _ _ _) (g := ⟨target, iter, ifs, 0⟩) (by rw [hcl]; rfl) rfl (codeAny_mono (comp_loop (hturn _ _ _) (hund _ _ _) (hfr _ _ _) (hqt _ _ _) (htail _ _) hh htg T r4 o4 st' hct) fun rr s' q5 => ?_)
  refine Classical.byContradiction fun hno => ?_
  obtain ⟨W2, ao', h3, e3, l2, r5, o5, q5⟩ := q5
  refine hno ?_
  clear hno
  subst e3
  exact hend W2 _ C ao' h3 s' (l.trans l2) r5 q5
end
end
section
section
variable {X : Fx} {A : Around} {env : Env} {hs : HS}

theorem turn_L1 {elt target iter : Expr} {ifs : List Expr} {scope : Scope} {pos : Pos} (I D : Addr) (env : Env) : compTurn (.ListComp elt [⟨target, iter, ifs, 0⟩] scope pos) 0 (.ref I) (.ref D) env = (standAt iter.pos >>= fun _ => pyNext (.ref I) >>= fun r => match r with
      | none => pure (.done .next)
      | some v => letOwnedTupleGo target (.ref I) v >>= fun _ => assign target env v >>= fun _ => testsFrom ifs env true >>= fun ok => if ok = true then (eval elt env >>= fun x => call (.builtin "list.append") [.ref D, x] >>= fun _ => pure ()) >>= fun _ => again (.compLoop (.ListComp elt [⟨target, iter, ifs, 0⟩] scope pos) 0 (.ref I) (.ref D) env) else again (.compLoop (.ListComp elt [⟨target, iter, ifs, 0⟩] scope pos) 0 (.ref I) (.ref D) env)) := by rfl
theorem turn_D1 {kx vx target iter : Expr} {ifs : List Expr} {scope : Scope} {pos : Pos} (I D : Addr) (env : Env) : compTurn (.DictComp kx vx [⟨target, iter, ifs, 0⟩] scope pos) 0 (.ref I) (.ref D) env = (standAt iter.pos >>= fun _ => pyNext (.ref I) >>= fun r => match r with
      | none => pure (.done .next)
      | some v => letOwnedTupleGo target (.ref I) v >>= fun _ => assign target env v >>= fun _ => testsFrom ifs env true >>= fun ok => if ok = true then (eval kx env >>= fun kv => holding [kv] (eval vx env) >>= fun vv => standAt { kx.pos with endLine := vx.pos.endLine, endCol := vx.pos.endCol } >>= fun _ => holding [kv, vv] (dictSet D kv vv)) >>= fun _ => again (.compLoop (.DictComp kx vx [⟨target, iter, ifs, 0⟩] scope pos) 0 (.ref I) (.ref D) env) else again (.compLoop (.DictComp kx vx [⟨target, iter, ifs, 0⟩] scope pos) 0 (.ref I) (.ref D) env)) := by rfl
theorem turn_L2b {elt target iter target' iter' : Expr} {ifs ifs' : List Expr} {scope : Scope} {pos : Pos} (I D : Addr) (env : Env) : compTurn (.ListComp elt [⟨target', iter', ifs', 0⟩, ⟨target, iter, ifs, 0⟩] scope pos) 1 (.ref I) (.ref D) env = (standAt iter.pos >>= fun _ => pyNext (.ref I) >>= fun r => match r with
      | none => pure (.done .next)
      | some v => letOwnedTupleGo target (.ref I) v >>= fun _ => assign target env v >>= fun _ => testsFrom ifs env true >>= fun ok => if ok = true then (eval elt env >>= fun x => call (.builtin "list.append") [.ref D, x] >>= fun _ => pure ()) >>= fun _ => again (.compLoop (.ListComp elt [⟨target', iter', ifs', 0⟩, ⟨target, iter, ifs, 0⟩] scope pos) 1 (.ref I) (.ref D) env) else again (.compLoop (.ListComp elt [⟨target', iter', ifs', 0⟩, ⟨target, iter, ifs, 0⟩] scope pos) 1 (.ref I) (.ref D) env)) := by rfl
theorem turn_L2a {elt target iter target' iter' : Expr} {ifs ifs' : List Expr} {scope : Scope} {pos : Pos} (I D : Addr) (env : Env) : compTurn (.ListComp elt [⟨target, iter, ifs, 0⟩, ⟨target', iter', ifs', 0⟩] scope pos) 0 (.ref I) (.ref D) env = (standAt iter.pos >>= fun _ => pyNext (.ref I) >>= fun r => match r with
      | none => pure (.done .next)
      | some v => letOwnedTupleGo target (.ref I) v >>= fun _ => assign target env v >>= fun _ => testsFrom ifs env true >>= fun ok => if ok = true then (eval iter' env >>= fun x => standAt iter'.pos >>= fun _ => foldedSetIterable iter' env x >>= fun x => holding [x] (pyIter x) >>= fun it => runOwn (.compStart (.ListComp elt [⟨target, iter, ifs, 0⟩, ⟨target', iter', ifs', 0⟩] scope pos) 1 it (.ref D) env) env >>= fun _ => pure ()) >>= fun _ => again (.compLoop (.ListComp elt [⟨target, iter, ifs, 0⟩, ⟨target', iter', ifs', 0⟩] scope pos) 0 (.ref I) (.ref D) env) else again (.compLoop (.ListComp elt [⟨target, iter, ifs, 0⟩, ⟨target', iter', ifs', 0⟩] scope pos) 0 (.ref I) (.ref D) env)) := by
  simp only [bind_assoc, pure_bind]; rfl

noncomputable def lst0 : Obj := { cls := .type "list", data := .seq ([] : List Value).toArray }
noncomputable def dct0 : Obj := { cls := .type "dict", data := .dict #[] }
theorem new_lst0 {E : Value → Shared → Prop} {Q : Value → Shared → Prop} {s : Shared} (h : Q (.ref s.heap.objs.size) { s with heap := s.heap.push lst0 }) : wpAny (M X) A (newList []) Q E s := wpAny_newObj_type (hd := by size_fits) h
theorem new_dct0 {E : Value → Shared → Prop} {Q : Value → Shared → Prop} {s : Shared} (h : Q (.ref s.heap.objs.size) { s with heap := s.heap.push dct0 }) : wpAny (M X) A newDict Q E s := wpAny_newObj_type (hd := by size_fits) h
theorem rel_lst0 {W : Wd} {h : Heap} {a : Addr} (e : h.get? a = some lst0) : ObjR X W h a (.list []) := ⟨_, _, e, IsL.nil⟩
theorem rel_dct0 {W : Wd} {h : Heap} {a : Addr} (e : h.get? a = some dct0) (hs : (a == sysModules) = false) : ObjR X W h a (.dict []) := ⟨_, _, _, e, ⟨rfl, rfl, rfl⟩, rfl, trivial, List.nodup_nil, hs⟩

noncomputable def EndL (Q : V → HS → Prop) (C : Addr) (ao : AO) (h2 : HS) : Prop := ∃ ys m h3 h4, ao = .list ys ∧ h2 = (C, .ns m) :: h3 ∧ h4.Sublist h3 ∧ Q (.lst ys) h4
noncomputable def EndD (Q : V → HS → Prop) (C : Addr) (ao : AO) (h2 : HS) : Prop := ∃ r m h3 h4, ao = .dict r ∧ h2 = (C, .ns m) :: h3 ∧ h4.Sublist h3 ∧ ∀ D, Q (.ref D) ((D, .dict r) :: h4)
noncomputable def EndLA (X : Fx) (A : Around) (env : Env) (y : Str) (Q : HS → Prop) (C : Addr) (ao : AO) (h2 : HS) : Prop := ∃ ys m h3 h4, ao = .list ys ∧ h2 = (C, .ns m) :: h3 ∧ h4.Sublist h3 ∧ Jst X A env y (.lst ys) h4 Q
noncomputable def EndDA (X : Fx) (A : Around) (env : Env) (y : Str) (Q : HS → Prop) (C : Addr) (ao : AO) (h2 : HS) : Prop := ∃ r m h3 h4, ao = .dict r ∧ h2 = (C, .ns m) :: h3 ∧ h4.Sublist h3 ∧ ∀ D, Jst X A env y (.ref D) ((D, .dict r) :: h4) Q

theorem drop_frame {B : Addr → Option Obj} {W : Wd} {C : Addr} {m : List (Str × V)} {F h3 h4 : HS} {s : Shared} (r : Rel X B W (F ++ (C, .ns m) :: h3) s) (sub : h4.Sublist h3) :
    (∃ mc, s.heap.Ns C mc) ∧ ∀ h', Heap.SameBut C s.heap h' → Rel X B W (F ++ h4) { s with heap := h' } := by
  have hm : (C, AO.ns m) ∈ F ++ (C, .ns m) :: h3 := List.mem_append_right _ List.mem_cons_self
  refine Classical.byContradiction fun hno => ?_
  obtain ⟨mc, h1, _⟩ := r.objs _ _ hm
  refine hno ?_
  clear hno
  refine ⟨⟨mc, h1⟩, fun h' hs' => ?_⟩
  have r1 : Rel X B W (F ++ h4) s := r.sub ((List.Sublist.refl F).append (.cons _ sub))
  have hnd := List.pairwise_append.mp r.nodup
  refine r1.other (tk := s.toks) (r.apB _ _ hm) (r.apZ _ _ hm) (fun p hp => ?_) hs'.extBut (Nat.le_refl _)
  rcases List.mem_append.mp hp with hp | hp
  · exact hnd.2.2 _ hp _ List.mem_cons_self rfl
  · exact (List.pairwise_cons.mp hnd.2.1).1 _ (sub.subset hp) rfl

theorem end_L {Q : V → HS → Prop} {B : Addr → Option Obj} {W W' : Wd} {D C : Addr} {ao : AO} {h2 : HS} {s' : Shared} (l : W.le W') (r : Rel X B W' ((D, ao) :: h2) s') (q : EndL Q C ao h2) : compPost (M X) A NoE none (Post X B W (Is X) Q) (.ref D) C (.ok .next) s' := by
  refine Classical.byContradiction fun hno => ?_
  obtain ⟨ys, m, h3, h4, e1, e2, sub, hq⟩ := q
  refine hno ?_
  clear hno
  subst e1; subst e2
  refine Classical.byContradiction fun hno => ?_
  obtain ⟨⟨mc, hn⟩, hdrop⟩ := drop_frame (F := [(D, .list ys)]) r sub
  refine hno ?_
  clear hno
  refine ⟨mc, hn, fun h' hs' => ?_⟩
  refine Classical.byContradiction fun hno => ?_
  obtain ⟨W2, l2, r2, i2⟩ := Rel.freezeL (hdrop h' hs')
  refine hno ?_
  clear hno
  exact ⟨W2, _, h4, l.trans l2, i2, r2, hq⟩
theorem end_D {Q : V → HS → Prop} {B : Addr → Option Obj} {W W' : Wd} {D C : Addr} {ao : AO} {h2 : HS} {s' : Shared} (l : W.le W') (r : Rel X B W' ((D, ao) :: h2) s') (q : EndD Q C ao h2) : compPost (M X) A NoE none (Post X B W (Is X) Q) (.ref D) C (.ok .next) s' := by
  refine Classical.byContradiction fun hno => ?_
  obtain ⟨rd, m, h3, h4, e1, e2, sub, hq⟩ := q
  refine hno ?_
  clear hno
  subst e1; subst e2
  refine Classical.byContradiction fun hno => ?_
  obtain ⟨⟨mc, hn⟩, hdrop⟩ := drop_frame (F := [(D, .dict rd)]) r sub
  refine hno ?_
  clear hno
  exact ⟨mc, hn, fun h' hs' => ⟨W', _, _, l, is_ref, hdrop h' hs', hq D⟩⟩
theorem end_LA {y : Str} {py : Pos} {Q : Fl → HS → Prop} {B : Addr → Option Obj} {W W' : Wd} {D C : Addr} {ao : AO} {h2 : HS} {s' : Shared} (l : W.le W') (r : Rel X B W' ((D, ao) :: h2) s') (q : EndLA X A env y (fun h5 => Q .next h5) C ao h2) :
    compPost (M X) A NoE (some (assign (.Name y py) env)) (fun _ s'' => Post X B W (FlR X) Q .next s'') (.ref D) C (.ok .next) s' := by
  refine Classical.byContradiction fun hno => ?_
  obtain ⟨ys, m, h3, h4, e1, e2, sub, hq⟩ := q
  refine hno ?_
  clear hno
  subst e1; subst e2
  refine Classical.byContradiction fun hno => ?_
  obtain ⟨W2, l2, r2, i2⟩ := r.freezeL
  refine hno ?_
  clear hno
  have r3 : Rel X B W2 ([(C, .ns m)] ++ h4) s' := r2.sub (.cons₂ _ sub)
  refine wpAny_mono (wp_frame r3 fun B' r' => wpAny_assign_Name (hq B' W2 s' _ r' i2)) (fun _ s4 q6 => ?_) fun _ _ x => x
  refine Classical.byContradiction fun hno => ?_
  obtain ⟨W4, _, h5, l4, _, r4, h6, e6, k6⟩ := q6
  refine hno ?_
  clear hno
  subst e6
  refine Classical.byContradiction fun hno => ?_
  obtain ⟨⟨mc, hn⟩, hdrop⟩ := drop_frame (F := []) r4 (List.Sublist.refl h6)
  refine hno ?_
  clear hno
  exact ⟨mc, hn, fun h' hs' => ⟨W4, .next, h6, (l.trans l2).trans l4, trivial, hdrop h' hs', k6⟩⟩
theorem end_DA {y : Str} {py : Pos} {Q : Fl → HS → Prop} {B : Addr → Option Obj} {W W' : Wd} {D C : Addr} {ao : AO} {h2 : HS} {s' : Shared} (l : W.le W') (r : Rel X B W' ((D, ao) :: h2) s') (q : EndDA X A env y (fun h5 => Q .next h5) C ao h2) :
    compPost (M X) A NoE (some (assign (.Name y py) env)) (fun _ s'' => Post X B W (FlR X) Q .next s'') (.ref D) C (.ok .next) s' := by
  refine Classical.byContradiction fun hno => ?_
  obtain ⟨rd, m, h3, h4, e1, e2, sub, hq⟩ := q
  refine hno ?_
  clear hno
  subst e1; subst e2
  have r3 : Rel X B W' ([(C, .ns m)] ++ ((D, .dict rd) :: h4)) s' := (r.perm (List.Perm.swap ..)).sub (.cons₂ _ (.cons₂ _ sub))
  refine wpAny_mono (wp_frame r3 fun B' r' => wpAny_assign_Name (hq D B' W' s' _ r' is_ref)) (fun _ s4 q0 => ?_) fun _ _ x => x
  refine Classical.byContradiction fun hno => ?_
  obtain ⟨W4, _, h5, l4, _, r4, h6, e6, k6⟩ := q0
  refine hno ?_
  clear hno
  subst e6
  refine Classical.byContradiction fun hno => ?_
  obtain ⟨⟨mc, hn⟩, hdrop⟩ := drop_frame (F := []) r4 (List.Sublist.refl h6)
  refine hno ?_
  clear hno
  exact ⟨mc, hn, fun h' hs' => ⟨W4, .next, h6, l.trans l4, trivial, hdrop h' hs', k6⟩⟩

section
variable {scope : Scope} {cl : List (Str × Addr)} {target iter : Expr} {ifs : List Expr} {tg : Bool} {pos : Pos}
noncomputable abbrev hs0 (C : Addr) (cs : List (Str × Addr)) (h1 : HS) : HS := (C, .ns []) :: (cs.map fun p => (p.2, AO.cell none)) ++ h1

theorem J_LC {elt : Expr} {Q : V → HS → Prop} (T0 : Base X) (hh : A.handled = none)
    (h : Src X A env iter tg hs fun vs h1 => ∀ C, AllCells (cellNames scope.names []) fun cs => CT X A (compEnvC scope (cs ++ cl) C env) target ifs (eltOf X A (compEnvC scope (cs ++ cl) C env) elt) vs (.list []) (hs0 C cs h1) (EndL Q C))
    (hclos : closureFor scope env = pure cl := by rfl) (hkind : scope.kind = .function := by rfl) (hnames : ∀ x ∈ scope.names, x.2 = .local → scope.names.lookup x.1 = some .local := by decide) (htg : tg = true → ∃ es k p, target = .Tuple es k p := by first | exact (fun x => nomatch x) | exact (fun _ => ⟨_, _, _, rfl⟩)) (hs' : ∀ x, foldedSetIterable iter env x = pure x := by intro _; rfl) :
    Je X A env (.ListComp elt [⟨target, iter, ifs, 0⟩] scope pos) hs Q := fun B W s r => by
  rw [show eval (.ListComp elt [⟨target, iter, ifs, 0⟩] scope pos) env = comprehension (.ListComp elt [⟨target, iter, ifs, 0⟩] scope pos) scope env (firstIterPos [⟨target, iter, ifs, 0⟩] pos) (newList []) false (eval iter env) none from rfl]
  exact comp_core (o0 := lst0) (ao0 := .list []) (gs := []) (p := iter.pos) (tail := fun env D => eval elt env >>= fun x => call (.builtin "list.append") [.ref D, x] >>= fun _ => pure ()) (inner := fun env' => eltOf X A env' elt) (QE := EndL Q) rfl hs' hclos hkind hnames
    new_lst0 T0 (fun _ _ _ e _ => rel_lst0 e) rfl (fun I D env' => turn_L1 I D env') (fun I D env' => Around.under_of_weight rfl) (fun _ _ _ => rfl) (fun _ _ _ => rfl) (fun I D env' => Around.under_of_weight rfl) (fun _ _ _ => rfl) (fun D env' => tails_elt) hh htg r h
    fun W' D C ao h2 s' l r' q => end_L l r' q
theorem J_DC {kx vx : Expr} {Q : V → HS → Prop} (T0 : Base X) (hh : A.handled = none)
    (h : Src X A env iter tg hs fun vs h1 => ∀ C, AllCells (cellNames scope.names []) fun cs => CT X A (compEnvC scope (cs ++ cl) C env) target ifs (entOf X A (compEnvC scope (cs ++ cl) C env) kx vx) vs (.dict []) (hs0 C cs h1) (EndD Q C))
    (hclos : closureFor scope env = pure cl := by rfl) (hkind : scope.kind = .function := by rfl) (hnames : ∀ x ∈ scope.names, x.2 = .local → scope.names.lookup x.1 = some .local := by decide) (htg : tg = true → ∃ es k p, target = .Tuple es k p := by first | exact (fun x => nomatch x) | exact (fun _ => ⟨_, _, _, rfl⟩)) (hs' : ∀ x, foldedSetIterable iter env x = pure x := by intro _; rfl) :
    Je X A env (.DictComp kx vx [⟨target, iter, ifs, 0⟩] scope pos) hs Q := fun B W s r => by
  rw [show eval (.DictComp kx vx [⟨target, iter, ifs, 0⟩] scope pos) env = comprehension (.DictComp kx vx [⟨target, iter, ifs, 0⟩] scope pos) scope env (firstIterPos [⟨target, iter, ifs, 0⟩] pos) newDict false (eval iter env) none from rfl]
  exact comp_core (o0 := dct0) (ao0 := .dict []) (gs := []) (p := iter.pos) (tail := fun env D => eval kx env >>= fun kv => holding [kv] (eval vx env) >>= fun vv => standAt { kx.pos with endLine := vx.pos.endLine, endCol := vx.pos.endCol } >>= fun _ => holding [kv, vv] (dictSet D kv vv)) (inner := fun env' => entOf X A env' kx vx) (QE := EndD Q) rfl hs' hclos hkind hnames
    new_dct0 T0 (fun _ _ _ e h => rel_dct0 e h) rfl (fun I D env' => turn_D1 I D env') (fun I D env' => Around.under_of_weight rfl) (fun _ _ _ => rfl) (fun _ _ _ => rfl) (fun I D env' => Around.under_of_weight rfl) (fun _ _ _ => rfl) (fun D env' => tails_ent) hh htg r h
    fun W' D C ao h2 s' l r' q => end_D l r' q
theorem J_Assign_LC {elt : Expr} {y : Str} {py spos : Pos} {Q : Fl → HS → Prop} (T0 : Base X) (hh : A.handled = none)
    (h : Src X A env iter tg hs fun vs h1 => ∀ C, AllCells (cellNames scope.names []) fun cs => CT X A (compEnvC scope (cs ++ cl) C env) target ifs (eltOf X A (compEnvC scope (cs ++ cl) C env) elt) vs (.list []) (hs0 C cs h1) (EndLA X A env y (fun h5 => Q .next h5) C))
    (hsw : swapsWith (.ListComp elt [⟨target, iter, ifs, 0⟩] scope pos) (some (.Name y py)) spos.line env = pure true := by rfl)
    (hclos : closureFor scope env = pure cl := by rfl) (hkind : scope.kind = .function := by rfl) (hnames : ∀ x ∈ scope.names, x.2 = .local → scope.names.lookup x.1 = some .local := by decide) (htg : tg = true → ∃ es k p, target = .Tuple es k p := by first | exact (fun x => nomatch x) | exact (fun _ => ⟨_, _, _, rfl⟩)) (hs' : ∀ x, foldedSetIterable iter env x = pure x := by intro _; rfl) :
    Js X A env (.Assign [.Name y py] (.ListComp elt [⟨target, iter, ifs, 0⟩] scope pos) spos) hs Q := fun B W s r => by
  rw [exec_Assign_Name_used _ _ _ _ hsw]
  refine wpAny_bind (wpAny_standAt (wpAny_bind ?_))
  show wpAny _ A (do let _ ← comprehension (.ListComp elt [⟨target, iter, ifs, 0⟩] scope pos) scope env (firstIterPos [⟨target, iter, ifs, 0⟩] pos) (newList []) false (eval iter env) (some (assign (.Name y py) env))) _ _ s
  refine wpAny_bind (wpAny_mono (comp_core (o0 := lst0) (ao0 := .list []) (gs := []) (p := iter.pos) (tail := fun env D => eval elt env >>= fun x => call (.builtin "list.append") [.ref D, x] >>= fun _ => pure ()) (inner := fun env' => eltOf X A env' elt) (QE := EndLA X A env y (fun h5 => Q .next h5)) rfl hs' hclos hkind hnames
    new_lst0 T0 (fun _ _ _ e _ => rel_lst0 e) rfl (fun I D env' => turn_L1 I D env') (fun I D env' => Around.under_of_weight rfl) (fun _ _ _ => rfl) (fun _ _ _ => rfl) (fun I D env' => Around.under_of_weight rfl) (fun _ _ _ => rfl) (fun D env' => tails_elt) hh htg r h
    fun W' D C ao h2 s' l r' q => end_LA l r' q) (fun _ s' hq => wpAny_pure (wpAny_pure hq)) fun _ _ e => e)
theorem J_Assign_DC {kx vx : Expr} {y : Str} {py spos : Pos} {Q : Fl → HS → Prop} (T0 : Base X) (hh : A.handled = none)
    (h : Src X A env iter tg hs fun vs h1 => ∀ C, AllCells (cellNames scope.names []) fun cs => CT X A (compEnvC scope (cs ++ cl) C env) target ifs (entOf X A (compEnvC scope (cs ++ cl) C env) kx vx) vs (.dict []) (hs0 C cs h1) (EndDA X A env y (fun h5 => Q .next h5) C))
    (hsw : swapsWith (.DictComp kx vx [⟨target, iter, ifs, 0⟩] scope pos) (some (.Name y py)) spos.line env = pure true := by rfl)
    (hclos : closureFor scope env = pure cl := by rfl) (hkind : scope.kind = .function := by rfl) (hnames : ∀ x ∈ scope.names, x.2 = .local → scope.names.lookup x.1 = some .local := by decide) (htg : tg = true → ∃ es k p, target = .Tuple es k p := by first | exact (fun x => nomatch x) | exact (fun _ => ⟨_, _, _, rfl⟩)) (hs' : ∀ x, foldedSetIterable iter env x = pure x := by intro _; rfl) :
    Js X A env (.Assign [.Name y py] (.DictComp kx vx [⟨target, iter, ifs, 0⟩] scope pos) spos) hs Q := fun B W s r => by
  rw [exec_Assign_Name_used _ _ _ _ hsw]
  refine wpAny_bind (wpAny_standAt (wpAny_bind ?_))
  show wpAny _ A (do let _ ← comprehension (.DictComp kx vx [⟨target, iter, ifs, 0⟩] scope pos) scope env (firstIterPos [⟨target, iter, ifs, 0⟩] pos) newDict false (eval iter env) (some (assign (.Name y py) env))) _ _ s
  refine wpAny_bind (wpAny_mono (comp_core (o0 := dct0) (ao0 := .dict []) (gs := []) (p := iter.pos) (tail := fun env D => eval kx env >>= fun kv => holding [kv] (eval vx env) >>= fun vv => standAt { kx.pos with endLine := vx.pos.endLine, endCol := vx.pos.endCol } >>= fun _ => holding [kv, vv] (dictSet D kv vv)) (inner := fun env' => entOf X A env' kx vx) (QE := EndDA X A env y (fun h5 => Q .next h5)) rfl hs' hclos hkind hnames
    new_dct0 T0 (fun _ _ _ e h => rel_dct0 e h) rfl (fun I D env' => turn_D1 I D env') (fun I D env' => Around.under_of_weight rfl) (fun _ _ _ => rfl) (fun _ _ _ => rfl) (fun I D env' => Around.under_of_weight rfl) (fun _ _ _ => rfl) (fun D env' => tails_ent) hh htg r h
    fun W' D C ao h2 s' l r' q => end_DA l r' q) (fun _ s' hq => wpAny_pure (wpAny_pure hq)) fun _ _ e => e)
theorem J_LC2 {elt : Expr} {target' iter' : Expr} {ifs' : List Expr} {tg' : Bool} {Q : V → HS → Prop} (T0 : Base X) (hh : A.handled = none)
    (h : Src X A env iter tg hs fun vs h1 => ∀ C, AllCells (cellNames scope.names []) fun cs => CT X A (compEnvC scope (cs ++ cl) C env) target ifs (genOf X A (compEnvC scope (cs ++ cl) C env) target' iter' ifs' tg' (eltOf X A (compEnvC scope (cs ++ cl) C env) elt)) vs (.list []) (hs0 C cs h1) (EndL Q C))
    (hclos : closureFor scope env = pure cl := by rfl) (hkind : scope.kind = .function := by rfl) (hnames : ∀ x ∈ scope.names, x.2 = .local → scope.names.lookup x.1 = some .local := by decide) (htg : tg = true → ∃ es k p, target = .Tuple es k p := by first | exact (fun x => nomatch x) | exact (fun _ => ⟨_, _, _, rfl⟩)) (htg' : tg' = true → ∃ es k p, target' = .Tuple es k p := by first | exact (fun x => nomatch x) | exact (fun _ => ⟨_, _, _, rfl⟩)) (hs' : ∀ x, foldedSetIterable iter env x = pure x := by intro _; rfl) (hs'' : ∀ env x, foldedSetIterable iter' env x = pure x := by intro _ _; rfl) :
    Je X A env (.ListComp elt [⟨target, iter, ifs, 0⟩, ⟨target', iter', ifs', 0⟩] scope pos) hs Q := fun B W s r => by
  rw [show eval (.ListComp elt [⟨target, iter, ifs, 0⟩, ⟨target', iter', ifs', 0⟩] scope pos) env = comprehension (.ListComp elt [⟨target, iter, ifs, 0⟩, ⟨target', iter', ifs', 0⟩] scope pos) scope env (firstIterPos [⟨target, iter, ifs, 0⟩, ⟨target', iter', ifs', 0⟩] pos) (newList []) false (eval iter env) none from rfl]
  exact comp_core (o0 := lst0) (ao0 := .list []) (gs := [⟨target', iter', ifs', 0⟩]) (p := iter.pos) (tail := fun env D => (eval iter' env >>= fun x => standAt iter'.pos >>= fun _ => foldedSetIterable iter' env x >>= fun x => holding [x] (pyIter x) >>= fun it => runOwn (.compStart (.ListComp elt [⟨target, iter, ifs, 0⟩, ⟨target', iter', ifs', 0⟩] scope pos) 1 it (.ref D) env) env >>= fun _ => pure ()))
    (inner := fun env' => genOf X A env' target' iter' ifs' tg' (eltOf X A env' elt)) (QE := EndL Q) rfl hs' hclos hkind hnames
    new_lst0 T0 (fun _ _ _ e _ => rel_lst0 e) rfl (fun I D env' => turn_L2a I D env') (fun I D env' => Around.under_of_weight rfl) (fun _ _ _ => rfl) (fun _ _ _ => rfl) (fun I D env' => Around.under_of_weight rfl) (fun _ _ _ => rfl)
    (fun D env' => tails_gen (hs'' _) (fun I => turn_L2b I D env') (fun I => Around.under_of_weight rfl) (fun _ => rfl) (fun _ => rfl) (fun I => Around.under_of_weight rfl) (fun _ => rfl) rfl (g := ⟨target', iter', ifs', 0⟩) rfl rfl tails_elt hh htg') hh htg r h
    fun W' D C ao h2 s' l r' q => end_L l r' q
theorem J_Assign_LC2 {elt : Expr} {target' iter' : Expr} {ifs' : List Expr} {tg' : Bool} {y : Str} {py spos : Pos} {Q : Fl → HS → Prop} (T0 : Base X) (hh : A.handled = none)
    (h : Src X A env iter tg hs fun vs h1 => ∀ C, AllCells (cellNames scope.names []) fun cs => CT X A (compEnvC scope (cs ++ cl) C env) target ifs (genOf X A (compEnvC scope (cs ++ cl) C env) target' iter' ifs' tg' (eltOf X A (compEnvC scope (cs ++ cl) C env) elt)) vs (.list []) (hs0 C cs h1) (EndLA X A env y (fun h5 => Q .next h5) C))
    (hsw : swapsWith (.ListComp elt [⟨target, iter, ifs, 0⟩, ⟨target', iter', ifs', 0⟩] scope pos) (some (.Name y py)) spos.line env = pure true := by rfl)
    (hclos : closureFor scope env = pure cl := by rfl) (hkind : scope.kind = .function := by rfl) (hnames : ∀ x ∈ scope.names, x.2 = .local → scope.names.lookup x.1 = some .local := by decide) (htg : tg = true → ∃ es k p, target = .Tuple es k p := by first | exact (fun x => nomatch x) | exact (fun _ => ⟨_, _, _, rfl⟩)) (htg' : tg' = true → ∃ es k p, target' = .Tuple es k p := by first | exact (fun x => nomatch x) | exact (fun _ => ⟨_, _, _, rfl⟩)) (hs' : ∀ x, foldedSetIterable iter env x = pure x := by intro _; rfl) (hs'' : ∀ env x, foldedSetIterable iter' env x = pure x := by intro _ _; rfl) :
    Js X A env (.Assign [.Name y py] (.ListComp elt [⟨target, iter, ifs, 0⟩, ⟨target', iter', ifs', 0⟩] scope pos) spos) hs Q := fun B W s r => by
  rw [exec_Assign_Name_used _ _ _ _ hsw]
  refine wpAny_bind (wpAny_standAt (wpAny_bind ?_))
  show wpAny _ A (do let _ ← comprehension (.ListComp elt [⟨target, iter, ifs, 0⟩, ⟨target', iter', ifs', 0⟩] scope pos) scope env (firstIterPos [⟨target, iter, ifs, 0⟩, ⟨target', iter', ifs', 0⟩] pos) (newList []) false (eval iter env) (some (assign (.Name y py) env))) _ _ s
  refine wpAny_bind (wpAny_mono (comp_core (o0 := lst0) (ao0 := .list []) (gs := [⟨target', iter', ifs', 0⟩]) (p := iter.pos) (tail := fun env D => (eval iter' env >>= fun x => standAt iter'.pos >>= fun _ => foldedSetIterable iter' env x >>= fun x => holding [x] (pyIter x) >>= fun it => runOwn (.compStart (.ListComp elt [⟨target, iter, ifs, 0⟩, ⟨target', iter', ifs', 0⟩] scope pos) 1 it (.ref D) env) env >>= fun _ => pure ()))
    (inner := fun env' => genOf X A env' target' iter' ifs' tg' (eltOf X A env' elt)) (QE := EndLA X A env y (fun h5 => Q .next h5)) rfl hs' hclos hkind hnames
    new_lst0 T0 (fun _ _ _ e _ => rel_lst0 e) rfl (fun I D env' => turn_L2a I D env') (fun I D env' => Around.under_of_weight rfl) (fun _ _ _ => rfl) (fun _ _ _ => rfl) (fun I D env' => Around.under_of_weight rfl) (fun _ _ _ => rfl)
    (fun D env' => tails_gen (hs'' _) (fun I => turn_L2b I D env') (fun I => Around.under_of_weight rfl) (fun _ => rfl) (fun _ => rfl) (fun I => Around.under_of_weight rfl) (fun _ => rfl) rfl (g := ⟨target', iter', ifs', 0⟩) rfl rfl tails_elt hh htg') hh htg r h
    fun W' D C ao h2 s' l r' q => end_LA l r' q) (fun _ s' hq => wpAny_pure (wpAny_pure hq)) fun _ _ e => e)
end
end
end
section
section
variable {X : Fx} {A : Around} {env : Env} {hs : HS}

theorem Itb_lst {vs : List V} : Itb X A false (.lst vs) vs := fun B W hs s va r ha => by
  refine Classical.byContradiction fun hno => ?_
  obtain ⟨l, o, ws, n, rfl, h1, h2, h3, h4⟩ := isLst ha
  refine hno ?_
  clear hno
  refine iter_list (X := X) (B := B) (W := W) ⟨o, r.froz _ _ h1, h2, n, h3⟩ fun s' es hi hlt hne => ?_
  subst es
  refine ⟨W, [s.heap.objs.size], _, _, .refl _, rfl, Itr.list (l := l) (vs := vs) h2 h3 hne, r.push _, fun a ha => ?_, ⟨?_, h1, h4, ?_⟩⟩
  · rw [List.mem_singleton.mp ha]; exact r.none_size
  · rw [Nat.sub_self]; exact hi.1
  · simp

noncomputable def signs (x : Str) : List V := x.cps.toList.map fun c => .str ⟨#[c]⟩
theorem Itr.str {I : Addr} {x : Str} {t : Tok} : Itr X [I] I false fun r W h => ∃ i, h.IsStrIter I "str_ascii_iterator" x t i ∧ r = (signs x).drop i where
  has := fun q1 a ha => by obtain ⟨i, ⟨o, h, _⟩, _⟩ := q1; rw [List.mem_singleton.mp ha]; exact ⟨o, h⟩
  frame := fun q2 le hk => by refine Classical.byContradiction fun hno => ?_; obtain ⟨i, ⟨o, ho, r⟩, h2⟩ := q2; exact hno (⟨i, ⟨o, hk I (by simp) o ho, r⟩, h2⟩)
  next := fun {A B W hs s b r} target hh _ rel out ⟨i, h1, h2⟩ => by
    have hb : (signs x)[i]? = some b := by
      have : ((signs x).drop i)[0]? = some b := by rw [← h2]; rfl
      simpa using this
    have hr : r = (signs x).drop (i + 1) := by
      have : (b :: r).drop 1 = ((signs x).drop i).drop 1 := by rw [← h2]
      rw [List.drop_drop] at this
      exact this
    obtain ⟨c, hc, rfl⟩ : ∃ c, x.cps[i]? = some c ∧ b = .str ⟨#[c]⟩ := by
      rw [signs, List.getElem?_map] at hb
      cases hc : x.cps.toList[i]? with
      | none => rw [hc] at hb; cases hb
      | some c => rw [hc] at hb; cases hb; exact ⟨c, by rw [← Array.getElem?_toList]; exact hc, rfl⟩
    refine wpAny_pyNext_ascii_item h1 hc fun h' hit hsb => ⟨_, rfl, ?_⟩
    refine Classical.byContradiction fun hno => ?_
    obtain ⟨le, i1, r1⟩ := (rel.others (tk := s.toks) out (fun b p hb e => hsb.extBut b p (fun q => hb (by rw [q]; repeat' first | exact List.Mem.head _ | apply List.Mem.tail)) e) (Nat.le_refl _)).say ⟨#[c]⟩ (tk := s.toks + 1) (Nat.lt_succ_self _)
    refine hno ?_
    clear hno
    refine go_other (s := { s with heap := h', toks := s.toks + 1 }) (T := "str_ascii_iterator") (let ⟨o, ho, hc, hd⟩ := hit; ⟨o, ho, hc, by decide⟩) target _ ⟨_, le, i1, r1, fun a ha => ?_, i + 1, hit, hr⟩
    exact out a ha
  stop := fun {A B W hs s} hh rel out ⟨i, h1, h2⟩ => by
    have : x.cps[i]? = none := by
      have := congrArg List.length h2
      simp [signs] at this
      simp; (first | lia | omega)
    exact wpAny_pyNext_ascii_end hh h1 this fun h' he => ⟨rfl, rel.others out (fun b p hb e => he b p (fun q => hb (by rw [q]; repeat' first | exact List.Mem.head _ | apply List.Mem.tail)) e) (Nat.le_refl _)⟩
  self := fun q3 hq => by refine Classical.byContradiction fun hno => ?_; obtain ⟨i, h1, _⟩ := q3; exact hno (wpAny_pyIter_striter_ascii h1 hq)
theorem Itb_str {x : Str} {a : V} (ha : a = .str x ∨ a = .txt x) (hx : x.cps.all (· < 128) = true) : Itb X A false a (signs x) := fun B W hs s va r hv => by
  obtain ⟨t, rfl⟩ : ∃ t, va = .str x t := isKey (by rcases ha with rfl | rfl; exact .inl hv; exact .inr hv)
  refine wpAny_pyIter_ascii hx ⟨W, [s.heap.objs.size], _, _, .refl _, rfl, Itr.str (x := x) (t := t), r.push _, fun a ha => ?_, 0, ⟨_, Heap.get?_push_size _ rfl, rfl, rfl⟩, rfl⟩
  rw [List.mem_singleton.mp ha]; exact r.none_size

theorem next_key {B : Addr → Option Obj} {W : Wd} {s : Shared} {it d : Addr} {i n ep : Nat} {es : Array DictEntry} {od : Obj} {e : DictEntry} {Q : Option Value → Shared → Prop} {E : Value → Shared → Prop} (hit : s.heap.IsKeyIter it d i n ep) (hod : s.heap.get? d = some od)
    (hdd : od.data = .dict es ep) (hn : es.size = n) (hx : es[i]? = some e)
    (hQ : ∀ h', h'.IsKeyIter it d (i + 1) n ep → Heap.SameBut it s.heap h' → Q (some e.key) { s with heap := h' }) : wpAny (M X) A (pyNext (.ref it)) Q E s := by
  refine Classical.byContradiction fun hno => ?_
  obtain ⟨o, ho, hc, hd⟩ := id hit
  refine hno ?_
  clear hno
  have hlt : i < es.size := (Array.getElem?_eq_some_iff.mp hx).1
  unfold pyNext
  refine wpAny_bind (wpAny_attempt (wpAny_callSpecial?_slot (name := Str.ofString "__next__") hit.typeIs F.slot_dict_keyiterator_next
    (wpAny_call_entry F.slot_dict_keyiterator_next hit.typeIs F.entry_dict_keyiterator_next ?_ (F.args_dict_keyiterator_next_1 _))))
  refine wpAny_bind (wpAny_pure (wpAny_bind (wpAny_bind ?_)))
  first | refine wpAny_bind (wpAny_typeNameOfWhole_keyiter hit.typeIs (wpAny_pure ?_)) | refine wpAny_bind (wpAny_typeNameOf_keyiter hit.typeIs (wpAny_pure ?_))
  refine wpAny_bind (wpAny_fieldsOf ho hd ?_)
  simp only [show Builtin.Dict_items.ownsTuple "dict_keyiterator" = false by decide, Bool.false_eq_true, if_false]
  show wpAny _ _ (if (Value.ref d == Value.none) = true then _ else _) _ _ s
  rw [if_neg (show ¬ ((Value.ref d == Value.none) = true) from Bool.false_ne_true)]
  refine wpAny_bind (wpAny_pure (wpAny_bind (wpAny_dictEntries hod hdd ?_)))
  rw [if_neg (by rw [hn]; simp)]
  refine wpAny_bind (wpAny_pure (wpAny_bind (wpAny_dictEpoch hod hdd ?_)))
  rw [if_neg (by simp)]
  refine wpAny_pure ?_
  simp only [show ¬ ((i : Int) < 0) from by (first | lia | omega), if_false, Int.toNat_natCast, hx]
  refine wpAny_bind ?_
  first | refine wpAny_bind (wpAny_typeNameOfWhole_keyiter hit.typeIs (wpAny_pure ?_)) | refine wpAny_bind (wpAny_typeNameOf_keyiter hit.typeIs (wpAny_pure ?_))
  refine wpAny_bind (wpAny_isOneOf_keyiter hit.typeIs ?_)
  show wpAny _ _ (setField (.ref it) 1 (rawInt ((i : Int) + 1)) >>= _) _ _ s
  refine wpAny_bind (wpAny_setField ho hd (by simp) ?_)
  have hit' : (s.heap.update it (Obj.mapFields (·.setIfInBounds 1 (rawInt ((i : Int) + 1))))).IsKeyIter it d (i + 1) n ep :=
    ⟨_, Heap.get?_update_self _ ho (Obj.isFreed_of_fields (Obj.data_mapFields hd _)), (Obj.cls_mapFields ..).trans hc, by rw [Obj.data_mapFields hd]; simp [rawInt]⟩
  refine wpAny_bind (wpAny_holding ?_)
  refine wpAny_bind (wpAny_isOneOf_keyiter (s := { s with heap := s.heap.update it (Obj.mapFields (·.setIfInBounds 1 (rawInt ((i : Int) + 1)))) }) hit'.typeIs ?_)
  show wpAny _ _ (pure e.key) _ _ _
  exact wpAny_pure (wpAny_pure ⟨_, rfl, wpAny_pure (hQ _ hit' (Heap.SameBut.update ..))⟩)

theorem KeysR.get {W : Wd} : ∀ {es : List DictEntry} {ks : List Str}, KeysR X W es ks → ∀ {i : Nat} {k : Str}, ks[i]? = some k → ∃ e, es[i]? = some e ∧ Is X W e.key (.str k)
  | [], [], _, i, k, h => by simp at h
  | e :: es, k' :: ks, ⟨⟨t, h1, h2, h3⟩, _, h5⟩, 0, k, h => by
    simp at h; subst h
    exact ⟨e, rfl, by simp only [Is]; exact ⟨t, h1, h2, h3⟩⟩
  | e :: es, k' :: ks, ⟨_, _, h5⟩, i + 1, k, h => by
    simp at h
    refine Classical.byContradiction fun hno => ?_
    obtain ⟨e', h6, h7⟩ := KeysR.get h5 h
    refine hno ?_
    clear hno
    exact ⟨e', by simpa using h6, h7⟩
  | [], _ :: _, h, _, _, _ => h.elim
  | _ :: _, [], h, _, _, _ => h.elim
theorem KeysR.length {W : Wd} : ∀ {es : List DictEntry} {ks : List Str}, KeysR X W es ks → es.length = ks.length
  | [], [], _ => rfl
  | _ :: _, _ :: _, h => by simp [KeysR.length h.2.2]
  | [], _ :: _, h => h.elim
  | _ :: _, [], h => h.elim
theorem KeysR.pairs {W : Wd} : ∀ {es : List DictEntry} {ks : List Str}, KeysR X W es ks → Pairs (PySem.strKind X.prog X.w) es (ks.zip (es.map (·.val)))
  | [], [], _ => .nil
  | e :: es, k :: ks, ⟨⟨t, h1, _⟩, _, h5⟩ => .cons (by rw [h1]; simp [PySem.strKind, Value.isStrOf]) rfl (KeysR.pairs h5)
  | [], _ :: _, h => h.elim
  | _ :: _, [], h => h.elim
theorem KeysR.keysOf {W : Wd} : ∀ {es : List DictEntry} {ks : List Str}, KeysR X W es ks → ∀ e ∈ es, ∃ k, Value.isStrOf k e.key = true ∧ e.hash = hashStr X.w k
  | e :: es, k :: r, h, e', hm => by
    rcases List.mem_cons.mp hm with rfl | hm
    · refine Classical.byContradiction fun hno => ?_
      obtain ⟨⟨t, h1, _⟩, h2, _⟩ := h
      refine hno ?_
      clear hno
      exact ⟨k, by rw [h1]; simp [Value.isStrOf], h2⟩
    · exact KeysR.keysOf h.2.2 e' hm
  | [], [], _, _, hm => by simp at hm
  | [], _ :: _, h, _, _ => h.elim
  | _ :: _, [], h, _, _ => h.elim

theorem dictAt {W : Wd} {h : Heap} {d : Addr} {o : Obj} {es : Array DictEntry} {n : Nat} {ks : List Str} (ho : h.get? d = some o) (h2 : o.ExactDict) (h3 : o.data = .dict es n) (hk : KeysR X W es.toList ks) (hnd : ks.Nodup) :
    h.DictAt (PySem.strKind X.prog X.w) d (ks.zip (es.toList.map (·.val))) n := by
  have hl := hk.length
  refine ⟨o, es, ho, h2, h3, fun e he => hk.keysOf e (by simpa using he), hk.pairs, ?_⟩
  rw [List.map_fst_zip (by simp [← hl])]; exact hnd
theorem Itr.dict {I d : Addr} {o : Obj} {es : Array DictEntry} {n : Nat} {ks : List Str} (h2 : o.ExactDict) (h3 : o.data = .dict es n) (hnd : ks.Nodup) :
    Itr X [I] I false fun r W h => ∃ i, h.IsKeyIter I d i ks.length n ∧ W.Z d = some o ∧ KeysR X W es.toList ks ∧ r = (ks.drop i).map .str where
  has := fun q4 a ha => by obtain ⟨i, ⟨o, h, _⟩, _⟩ := q4; rw [List.mem_singleton.mp ha]; exact ⟨o, h⟩
  frame := fun q5 le hk' => by refine Classical.byContradiction fun hno => ?_; obtain ⟨i, ⟨o, ho, r⟩, hz, hk, hr⟩ := q5; exact hno (⟨i, ⟨o, hk' I (by simp) o ho, r⟩, le.1 _ _ hz, hk.mono le, hr⟩)
  next := fun {A B W hs s b r} target hh _ rel out ⟨i, h1, hz, hk, hr⟩ => by
    have hb : (ks.map V.str)[i]? = some b := by
      have : (((ks.drop i)).map V.str)[0]? = some b := by rw [← hr]; rfl
      simpa using this
    have hr' : r = (ks.drop (i + 1)).map .str := by
      have : (b :: r).drop 1 = ((ks.drop i).map V.str).drop 1 := by rw [← hr]
      rw [← List.map_drop, List.drop_drop] at this
      exact this
    obtain ⟨k, hk1, rfl⟩ : ∃ k, ks[i]? = some k ∧ b = .str k := by
      rw [List.getElem?_map] at hb
      cases hc : ks[i]? with
      | none => rw [hc] at hb; cases hb
      | some c => rw [hc] at hb; cases hb; exact ⟨c, rfl, rfl⟩
    refine Classical.byContradiction fun hno => ?_
    obtain ⟨e, he, ie⟩ := hk.get hk1
    refine hno ?_
    clear hno
    refine next_key (B := B) (W := W) h1 (rel.froz _ _ hz) h3 (by rw [← Array.length_toList]; exact hk.length) (by rw [← Array.getElem?_toList]; exact he) fun h' hit hsb => ⟨_, rfl, ?_⟩
    exact go_other (s := { s with heap := h' }) (T := "dict_keyiterator") (let ⟨o, ho, hc, hd⟩ := hit; ⟨o, ho, hc, by decide⟩) target _ ⟨W, .refl _, ie, rel.others out (fun b p hb e => hsb.extBut b p (fun q => hb (by rw [q]; repeat' first | exact List.Mem.head _ | apply List.Mem.tail)) e) (Nat.le_refl _), out, i + 1, hit, hz, hk, hr'⟩
  stop := fun {A B W hs s} hh rel out ⟨i, h1, hz, hk, hr⟩ => by
    have hge : ks.length ≤ i := by
      have := congrArg List.length hr
      simp at this; (first | lia | omega)
    have hl : (ks.zip (es.toList.map (·.val))).length = ks.length := by have := hk.length; simp at this ⊢; (first | lia | omega)
    refine wpAny_pyNext_dict_end hh (by rw [hl]; exact h1) (dictAt (rel.froz _ _ hz) h2 h3 hk hnd) (List.getElem?_eq_none (by (first | lia | omega))) fun h' he => ⟨rfl, rel.others out (fun b p hb e => he b p (fun q => hb (by rw [q]; repeat' first | exact List.Mem.head _ | apply List.Mem.tail)) e) (Nat.le_refl _)⟩
  self := fun q6 hq => by refine Classical.byContradiction fun hno => ?_; obtain ⟨i, h1, _⟩ := q6; exact hno (wpAny_pyIter_keyiter h1 hq)
theorem Itb_dct {ks : List Str} {vs : List V} : Itb X A false (.dct ks vs) (ks.map .str) := fun B W hs s va r ha => by
  refine Classical.byContradiction fun hno => ?_
  obtain ⟨d, o, es, n, rfl, h1, h2, h3, h4, h5, h6, hne⟩ := isDct ha
  refine hno ?_
  clear hno
  refine wpAny_pyIter_dict (knd := PySem.strKind X.prog X.w) hne (dictAt (r.froz _ _ h1) h2 h3 h4 h5) ?_
  have hl : (ks.zip (es.toList.map (·.val))).length = ks.length := by have := h4.length; simp at this ⊢; (first | lia | omega)
  rw [hl]
  refine ⟨W, [s.heap.objs.size], _, _, .refl _, rfl, Itr.dict (I := s.heap.objs.size) (d := d) (ks := ks) h2 h3 h5, r.push _, fun a ha => ?_, 0, ⟨_, Heap.get?_push_size _ rfl, rfl, rfl⟩, h1, h4, rfl⟩
  rw [List.mem_singleton.mp ha]; exact r.none_size
end
end
section
section
variable {X : Fx} {A : Around} {env : Env} {hs : HS}

theorem wp_Call {x : Str} {p pos : Pos} {e : Expr} {es : List Expr} {P : V → List V → HS → Prop} {B : Addr → Option Obj} {W : Wd} {s : Shared} {Q : Value → Shared → Prop} (r : Rel X B W hs s)
    (h : Je X A env (.Name x p) hs fun f h1 => Callable X f ∧ Jl X A env pos (e :: es) h1 fun as h2 => P f as h2)
    (hq : ∀ W' s' vf vs f as h2, W.le W' → Rel X B W' h2 s' → Is X W' vf f → IsL X W' vs as → P f as h2 → wpAny (M X) A (call vf vs) Q NoE s')
    (he : starEach (e :: es) env = (false, eval e env) :: starEach es env) (hp : (backTo pos (starEach es env)).any (·.1) = false) : wpAny (M X) A (eval (.Call (.Name x p) (e :: es) [] pos) env) Q NoE s := by
  refine wpAny_Call_Name_kw (wpAny_mono (h B W s r) (fun vf s1 q0 => ?_) fun _ _ x => x)
  refine Classical.byContradiction fun hno => ?_
  obtain ⟨W1, f, h1, l1, i1, r1, hc, k1⟩ := q0
  refine hno ?_
  clear hno
  have hpl : ((false, eval e env) :: backTo pos (starEach es env)).any (·.1) = false := by rw [List.any_cons, hp]; rfl
  have main : wpAny (M X) A (spliced (backTo pos (starEach (e :: es) env))) (fun vs s2 => ∃ W2 as h2, W1.le W2 ∧ Rel X B W2 h2 s2 ∧ wpAny (M X) A (call vf vs) Q NoE s2) NoE s1 :=
    wpAny_mono (k1 B W1 s1 r1) (fun vs s2 p0 => p0.elim fun W2 as h2 l2 i2 r2 k2 => ⟨W2, as, h2, l2, r2, hq W2 s2 vf vs f as h2 (l1.trans l2) r2 (i1.mono l2) i2 k2⟩) fun _ _ x => x
  rw [he] at main
  show wpAny (M X) A (callWith pos vf [] (backTo pos (starEach (e :: es) env)) []) _ _ s1
  rw [he]
  have hfunc : ∀ a o fd, vf = .ref a → o.data = .func fd → (∀ W2 h2 s2, W1.le W2 → Rel X B W2 h2 s2 → s2.heap.get? a = some o) → wpAny (M X) A (callWith pos vf [] (backTo pos ((false, eval e env) :: starEach es env)) []) Q NoE s1 := fun a o fd hv hd hk => by
    subst hv
    exact callWith_function (o := o) (fd := fd) (evalArgs_plain (wpAny_mono main (fun vs s2 q1 => by refine Classical.byContradiction fun hno => ?_; obtain ⟨W2, as, h2, l2, r2, k2⟩ := q1; exact hno (⟨⟨hk W2 h2 s2 l2 r2, hd⟩, k2⟩)) fun _ _ x => x))
  cases f with
  | fn x =>
    refine Classical.byContradiction fun hno => ?_
    obtain ⟨a, o, fd, e1, e2, e3⟩ := hc
    refine hno ?_
    clear hno
    simp only [Is] at i1
    refine Classical.byContradiction fun hno => ?_
    obtain ⟨a', rfl, e1'⟩ := i1
    refine hno ?_
    clear hno
    rw [e1] at e1'; cases e1'
    exact hfunc a o fd rfl e3 fun W2 h2 s2 _ r2 => r2.hbk _ _ e2
  | clo x cs =>
    refine Classical.byContradiction fun hno => ?_
    obtain ⟨a, o, doc, pm, c', ctv, d, oc, vs, t, rfl, e1, e0, e2, _⟩ := isClo i1
    refine hno ?_
    clear hno
    exact hfunc a o _ rfl e2 fun W2 h2 s2 l2 r2 => r2.froz _ _ (l2.1 _ _ e1)
  | bi id =>
    simp only [Is] at i1
    subst i1
    exact callWith_builtin hpl (evalArgs_plain (wpAny_mono main (fun vs s2 q2 => by refine Classical.byContradiction fun hno => ?_; obtain ⟨W2, as, h2, l2, r2, k2⟩ := q2; exact hno (k2)) fun _ _ x => x))
  | type T =>
    simp only [Is] at i1
    subst i1
    exact PySem.callWith_type hpl (evalArgs_plain (wpAny_mono main (fun vs s2 q3 => by refine Classical.byContradiction fun hno => ?_; obtain ⟨W2, as, h2, l2, r2, k2⟩ := q3; exact hno (k2)) fun _ _ x => x))
  | _ => exact hc.elim

noncomputable def SrcC (X : Fx) (A : Around) (tg : Bool) (f : V) (as : List V) (vs : List V) : Prop :=
  ∀ B W hs s vf va, Rel X B W hs s → Is X W vf f → IsL X W va as → wpAny (M X) A (call vf va) (fun x s1 => wpAny (M X) A (pyIter x) (fun it s2 => ∃ W' own I St, W.le W' ∧ it = .ref I ∧ Itr X own I tg St ∧ Rel X B W' hs s2 ∧ Out own B W' hs ∧ St vs W' s2.heap) NoE s1) NoE s
theorem Src_call {x : Str} {p pos : Pos} {e : Expr} {es : List Expr} {tg : Bool} {K : List V → HS → Prop} (h : Je X A env (.Name x p) hs fun f h1 => Callable X f ∧ Jl X A env pos (e :: es) h1 fun as h2 => ∃ vs, SrcC X A tg f as vs ∧ K vs h2)
    (he : starEach (e :: es) env = (false, eval e env) :: starEach es env := by rfl) (hp : (backTo pos (starEach es env)).any (·.1) = false := by rfl) : Src X A env (.Call (.Name x p) (e :: es) [] pos) tg hs K := fun B W s r =>
  wp_Call (P := fun f as h2 => ∃ vs, SrcC X A tg f as vs ∧ K vs h2) r h (fun W' s' vf vs f as h2 l r' i1 i2 ⟨ws, k1, k2⟩ =>
    wpAny_mono (k1 B W' h2 s' vf vs r' i1 i2) (fun x s1 k => wpAny_mono k (fun it s2 q4 => by refine Classical.byContradiction fun hno => ?_; obtain ⟨W2, own, I, St, l2, e', T, r2, o2, st⟩ := q4; exact hno (⟨W2, h2, own, I, St, ws, l.trans l2, e', T, r2, o2, st, k2⟩)) fun _ _ x => x) fun _ _ x => x) he hp

noncomputable def rangeV (a c : Int) : Nat → List V
  | 0 => []
  | n + 1 => .int a :: rangeV (a + c) c n
theorem Itr.range {I : Addr} {c : Int} : Itr X [I] I false fun r W h => ∃ a n, IsRangeIter h I a (n : Nat) c ∧ r = rangeV a c n where
  has := fun q5 b hb => by obtain ⟨a, n, h, _⟩ := q5; rw [List.mem_singleton.mp hb]; exact ⟨_, h⟩
  frame := fun q6 le hk => by refine Classical.byContradiction fun hno => ?_; obtain ⟨a, n, h, e⟩ := q6; exact hno (⟨a, n, hk I (by repeat' first | exact List.Mem.head _ | apply List.Mem.tail) _ h, e⟩)
  next := fun {A B W hs s b r} target hh _ rel out ⟨a, n, h1, h2⟩ => by
    cases n with
    | zero => simp [rangeV] at h2
    | succ n =>
      simp only [rangeV, List.cons.injEq] at h2
      obtain ⟨rfl, rfl⟩ := h2
      refine wpAny_pyNext_range_item h1 (by (first | lia | omega)) fun h' hit hsb => ⟨_, rfl, ?_⟩
      have e : (((n + 1 : Nat) : Int) - 1) = (n : Int) := by (first | lia | omega)
      rw [e] at hit
      exact go_other (s := { s with heap := h', toks := s.toks + 1 }) (T := "range_iterator") ⟨_, hit, rfl, by decide⟩ target _ ⟨W, .refl _, is_int, rel.others out (fun b p hb e => hsb.extBut b p (fun q => hb (by rw [q]; repeat' first | exact List.Mem.head _ | apply List.Mem.tail)) e) (Nat.le_succ _), out, _, n, hit, rfl⟩
  stop := fun {A B W hs s} hh rel out ⟨a, n, h1, h2⟩ => by
    cases n with
    | zero => exact wpAny_pyNext_range_end hh h1 (by (first | lia | omega)) fun h' he => ⟨rfl, rel.others out (fun b p hb e => he b p (fun q => hb (by rw [q]; repeat' first | exact List.Mem.head _ | apply List.Mem.tail)) e) (Nat.le_refl _)⟩
    | succ n => simp [rangeV] at h2
  self := fun q0 hq => by refine Classical.byContradiction fun hno => ?_; obtain ⟨a, n, h1, _⟩ := q0; exact hno (wpAny_pyIter_rangeiter h1 hq)
theorem iter_range {B : Addr → Option Obj} {W : Wd} {s : Shared} {r : Addr} {a b c : Int} {t u v : Tok} {n : Nat} (rel : Rel X B W hs s) (hr : IsRange s.heap r a b c t u v) (hsmall : Builtin.Range.small a b c = true) (hn : Builtin.Range.rangeSize a b c = (n : Int)) :
    wpAny (M X) A (pyIter (.ref r)) (fun it s2 => ∃ W' own I St, W.le W' ∧ it = .ref I ∧ Itr X own I false St ∧ Rel X B W' hs s2 ∧ Out own B W' hs ∧ St (rangeV a c n) W' s2.heap) NoE s := by
  refine wpAny_pyIter_range hr hsmall ?_
  refine ⟨W, [s.heap.objs.size], _, _, .refl _, rfl, Itr.range (I := s.heap.objs.size) (c := c), rel.push _, fun a ha => ?_, a, n, ?_, rfl⟩
  · rw [List.mem_singleton.mp ha]; exact rel.none_size
  · rw [hn]; exact Heap.get?_push_size _ rfl
theorem range_small {a b : Int} (ha : 0 ≤ a) (ha' : a < 2 ^ 60) (hb : 0 ≤ b) (hb' : b < 2 ^ 60) : Builtin.Range.small a b 1 = true ∧ Builtin.Range.rangeSize a b 1 = ((b - a).toNat : Int) := by
  have hsz : Builtin.Range.rangeSize a b 1 = ((b - a).toNat : Int) := by rw [rangeSize_one]; split <;> (first | lia | omega)
  refine ⟨?_, hsz⟩
  unfold Builtin.Range.small Builtin.Range.rangeFitsLong
  rw [hsz]
  simp only [Bool.and_eq_true, Bool.or_eq_true, decide_eq_true_eq]
  refine ⟨⟨⟨⟨?_, ?_⟩, ?_⟩, ?_⟩, .inr ?_⟩ <;> (try simp) <;> (first | lia | omega)
theorem Src_range1 {b : Int} (hb : 0 ≤ b) (hb' : b < 2 ^ 60) : SrcC X A false (.type "range") [.int b] (rangeV 0 1 b.toNat) := fun B W hs s vf va r hf hv => by
  have e := by simpa only [Is] using hf
  subst e
  refine Classical.byContradiction fun hno => ?_
  obtain ⟨v, rfl, h1⟩ := isL1 hv
  refine hno ?_
  clear hno
  obtain ⟨t, rfl⟩ := isInt h1
  refine call_range_1 ?_
  have r2 := (r.toks (tk := s.toks + 1 + 1) (by (first | lia | omega))).push { cls := .type "range", data := .fields #[.int 0 s.toks, .int b t, .int 1 (s.toks + 1)] }
  have := range_small (a := 0) (b := b) (by (first | lia | omega)) (by (first | lia | omega)) hb hb'
  exact iter_range r2 (IsRange.new ..) this.1 (by rw [this.2]; simp)
theorem Src_range2 {a b : Int} (ha : 0 ≤ a) (ha' : a < 2 ^ 60) (hb : 0 ≤ b) (hb' : b < 2 ^ 60) : SrcC X A false (.type "range") [.int a, .int b] (rangeV a 1 (b - a).toNat) := fun B W hs s vf va r hf hv => by
  have e := by simpa only [Is] using hf
  subst e
  refine Classical.byContradiction fun hno => ?_
  obtain ⟨v, w, rfl, h1, h2⟩ := isL2 hv
  refine hno ?_
  clear hno
  obtain ⟨t, rfl⟩ := isInt h1
  obtain ⟨u, rfl⟩ := isInt h2
  refine call_range_2 ?_
  have r2 := (r.toks (tk := s.toks + 1) (by (first | lia | omega))).push { cls := .type "range", data := .fields #[.int a t, .int b u, .int 1 s.toks] }
  have := range_small ha ha' hb hb'
  exact iter_range r2 (IsRange.new ..) this.1 this.2
theorem isL3 {W : Wd} {vs : List Value} {a b c : V} (h : IsL X W vs [a, b, c]) : ∃ u v w, vs = [u, v, w] ∧ Is X W u a ∧ Is X W v b ∧ Is X W w c := by
  simp only [IsL] at h
  refine Classical.byContradiction fun hno => ?_
  obtain ⟨v, r, rfl, h1, w, r', rfl, h2, u, r'', rfl, h3, rfl⟩ := h
  refine hno ?_
  clear hno
  exact ⟨v, w, u, rfl, h1, h2, h3⟩
theorem Src_range3 {a b c : Int} {n : Nat} (hc : c ≠ 0) (hsmall : Builtin.Range.small a b c = true) (hn : Builtin.Range.rangeSize a b c = (n : Int)) (hp : Builtin.divisionGoesByPylong (b - a) c = false) : SrcC X A false (.type "range") [.int a, .int b, .int c] (rangeV a c n) := fun B W hs s vf va r hf hv => by
  have e := by simpa only [Is] using hf
  subst e
  refine Classical.byContradiction fun hno => ?_
  obtain ⟨u, v, w, rfl, h1, h2, h3⟩ := isL3 hv
  refine hno ?_
  clear hno
  obtain ⟨t, rfl⟩ := isInt h1
  obtain ⟨u, rfl⟩ := isInt h2
  obtain ⟨v, rfl⟩ := isInt h3
  refine call_range_3 hc ?_ (.inl hp)
  have r2 := r.push { cls := .type "range", data := .fields #[.int a t, .int b u, .int c v] }
  exact iter_range (s := { s with heap := s.heap.push _, toks := s.toks }) r2 (IsRange.new ..) hsmall hn

noncomputable def enumV : Nat → List V → List V
  | _, [] => []
  | k, v :: r => .tup [.int k, v] :: enumV (k + 1) r
theorem drop_cons {α : Type} {vs : List α} {k : Nat} {b : α} {r : List α} (h : vs.drop k = b :: r) : vs[k]? = some b ∧ vs.drop (k + 1) = r ∧ k < vs.length := by
  refine ⟨?_, ?_, ?_⟩
  · have : (vs.drop k)[0]? = some b := by rw [h]; rfl
    simpa using this
  · have := congrArg (List.drop 1) h
    rw [List.drop_drop] at this
    simpa using this
  · have := congrArg List.length h
    simp at this; (first | lia | omega)
theorem drop_nil {α : Type} {vs : List α} {k : Nat} (h : vs.drop k = []) : vs.length ≤ k := by
  have := congrArg List.length h
  simp at this; (first | lia | omega)
theorem Itr.enum {e it l : Addr} {o : Obj} {ws : Array Value} {n : Nat} {vs : List V} (hei : e ≠ it) (hle : l ≠ e) (hli : l ≠ it) (hc : o.cls = .type "list") (hd : o.data = .seq ws n) :
    Itr X [e, it] e true fun r W h => ∃ k old, IsEnum h e it (k : Nat) old ∧ h.IsListIter it l k ∧ W.Z l = some o ∧ IsL X W ws.toList vs ∧ r = enumV k (vs.drop k) where
  has := fun q1 a ha => by
    refine Classical.byContradiction fun hno => ?_
    obtain ⟨k, old, h1, ⟨o, h2, _⟩, _⟩ := q1
    refine hno ?_
    clear hno
    rcases List.mem_cons.mp ha with rfl | ha
    · exact ⟨_, h1⟩
    · rw [List.mem_singleton.mp ha]; exact ⟨o, h2⟩
  frame := fun q2 le hk => by refine Classical.byContradiction fun hno => ?_; obtain ⟨k, old, h1, ⟨o, h2, h2'⟩, h3, h4, h5⟩ := q2; exact hno (⟨k, old, hk e (by repeat' first | exact List.Mem.head _ | apply List.Mem.tail) _ h1, ⟨o, hk it (by repeat' first | exact List.Mem.head _ | apply List.Mem.tail) _ h2, h2'⟩, le.1 _ _ h3, h4.mono le, h5⟩)
  next := fun {A B W hs s b r} target hh htg rel out ⟨k, old, h1, h2, h3, h4, h5⟩ => by
    refine Classical.byContradiction fun hno => ?_
    obtain ⟨es, kk, tp, rfl⟩ := htg rfl
    refine hno ?_
    clear hno
    cases hvs : vs.drop k with
    | nil => rw [hvs] at h5; simp [enumV] at h5
    | cons v vs' =>
      rw [hvs] at h5
      simp only [enumV, List.cons.injEq] at h5
      obtain ⟨rfl, rfl⟩ := h5
      refine Classical.byContradiction fun hno => ?_
      obtain ⟨hv, hdr, hlt⟩ := drop_cons hvs
      refine hno ?_
      clear hno
      refine Classical.byContradiction fun hno => ?_
      obtain ⟨w, hw, iw⟩ := h4.get hv
      refine hno ?_
      clear hno
      refine wpAny_pyNext_enum_item h1 h2 ⟨o, rel.froz _ _ h3, hc, n, hd⟩ (by rw [← Array.getElem?_toList]; exact hw) hei fun h' ho hit hT hsz hk => ⟨_, rfl, ?_⟩
      have helt : e < s.heap.objs.size := Heap.lt_size h1
      have hilt : it < s.heap.objs.size := by obtain ⟨_, x, _⟩ := h2; exact Heap.lt_size x
      have r1 : Rel X B W hs { s with heap := h', toks := s.toks + 1 } := rel.others out (fun b p hb e => hk b p (fun q => hb (by rw [q]; repeat' first | exact List.Mem.head _ | apply List.Mem.tail)) (fun q => hb (by rw [q]; repeat' first | exact List.Mem.head _ | apply List.Mem.tail)) e) (Nat.le_succ _)
      refine wpAny_letOwnedTupleGo_enum ho fun h2 he2 hs2 => ?_
      have r2 : Rel X B W hs { s with heap := h2, toks := s.toks + 1 } := r1.others (tk := s.toks + 1) out (fun b p hb e => hs2.extBut b p (fun q => hb (by rw [q]; repeat' first | exact List.Mem.head _ | apply List.Mem.tail)) e) (Nat.le_refl _)
      have hf := rel.none_size
      obtain ⟨le, r3⟩ := r2.freezeAt (a := s.heap.objs.size) ((hs2.2 _ (Nat.ne_of_gt helt)).trans hT) hf
      refine ⟨_, le, ?_, r3, fun a ha => ⟨(out a ha).1, ?_, (out a ha).2.2⟩, k + 1, _, he2, ?_, le.1 _ _ h3, h4.mono le, by rw [hdr]⟩
      · simp only [Is]
        exact ⟨_, _, _, _, rfl, Wd.froze_self, rfl, rfl, IsL.cons is_int (IsL.cons (iw.mono le) IsL.nil)⟩
      · have hne : a ≠ s.heap.objs.size := by
          rcases List.mem_cons.mp ha with rfl | ha
          · exact Nat.ne_of_lt helt
          · rw [List.mem_singleton.mp ha]; exact Nat.ne_of_lt hilt
        simpa [Wd.froze, hne] using (out a ha).2.1
      · refine Classical.byContradiction fun hno => ?_
        obtain ⟨oi, hoi, x⟩ := hit
        refine hno ?_
        clear hno
        exact ⟨oi, (hs2.2 _ (Ne.symm hei)).trans hoi, x⟩
  stop := fun {A B W hs s} hh rel out ⟨k, old, h1, h2, h3, h4, h5⟩ => by
    cases hvs : vs.drop k with
    | cons v vs' => rw [hvs] at h5; simp [enumV] at h5
    | nil =>
      have := drop_nil hvs
      have hlen := h4.length
      refine wpAny_pyNext_enum_end hh h1 h2 ⟨o, rel.froz _ _ h3, hc, n, hd⟩ (Array.getElem?_eq_none (by rw [← Array.length_toList]; (first | lia | omega))) fun h' he => ⟨rfl, rel.others out (fun b p hb e => he b p (fun q => hb (by rw [q]; repeat' first | exact List.Mem.head _ | apply List.Mem.tail)) e) (Nat.le_refl _)⟩
  self := fun q3 hq => by refine Classical.byContradiction fun hno => ?_; obtain ⟨k, old, h1, _⟩ := q3; exact hno (wpAny_pyIter_enum h1 hq)
theorem Src_enum {vs : List V} : SrcC X A true (.type "enumerate") [.lst vs] (enumV 0 vs) := fun B W hs s vf va r hf hv => by
  have e := by simpa only [Is] using hf
  subst e
  refine Classical.byContradiction fun hno => ?_
  obtain ⟨v, rfl, h1⟩ := isL1 hv
  refine hno ?_
  clear hno
  refine Classical.byContradiction fun hno => ?_
  obtain ⟨l, o, ws, n, rfl, h1, h2, h3, h4⟩ := isLst h1
  refine hno ?_
  clear hno
  have hl := r.froz _ _ h1
  have hlt := Heap.lt_size hl
  refine call_enumerate_list ⟨o, hl, h2, n, h3⟩ fun h' he hi hsz hk => wpAny_pyIter_enum he ?_
  refine ⟨W, [s.heap.objs.size + 1, s.heap.objs.size], _, _, .refl _, rfl, Itr.enum (e := s.heap.objs.size + 1) (it := s.heap.objs.size) (l := l) (vs := vs) (Nat.succ_ne_self _) (Nat.ne_of_lt (Nat.lt_succ_of_lt hlt)) (Nat.ne_of_lt hlt) h2 h3, r.keeps hk (Nat.le_refl _), fun a ha => ?_, 0, _, he, hi, h1, h4, rfl⟩
  refine r.out_fresh ?_
  rcases List.mem_cons.mp ha with rfl | ha
  · (first | lia | omega)
  · rw [List.mem_singleton.mp ha]; exact Nat.le_refl _

noncomputable def zipV : List V → List V → List V
  | a :: as, b :: bs => .tup [a, b] :: zipV as bs
  | _, _ => []
theorem Itr.zip {z TI TO i1 i2 l1 l2 : Addr} (D : ZipApart z TI TO i1 i2 l1 l2) {o1 o2 : Obj} {xs ys : Array Value} {n1 n2 : Nat} {as bs : List V} (hc1 : o1.cls = .type "list") (hd1 : o1.data = .seq xs n1) (hc2 : o2.cls = .type "list") (hd2 : o2.data = .seq ys n2) :
    Itr X [z, TI, TO, i1, i2] z true fun r W h => ∃ k a b, IsZip h z TI TO .none ∧ IsPair h TI (.ref i1) (.ref i2) ∧ IsPair h TO a b ∧ h.IsListIter i1 l1 k ∧ h.IsListIter i2 l2 k ∧ (W.Z l1 = some o1 ∧ IsL X W xs.toList as) ∧ (W.Z l2 = some o2 ∧ IsL X W ys.toList bs) ∧ r = zipV (as.drop k) (bs.drop k) where
  has := fun q4 c hc => by
    refine Classical.byContradiction fun hno => ?_
    obtain ⟨k, a, b, h1, h2, h3, ⟨o4, h4, _⟩, ⟨o5, h5, _⟩, _⟩ := q4
    refine hno ?_
    clear hno
    simp only [List.mem_cons, List.not_mem_nil, or_false] at hc
    rcases hc with rfl | rfl | rfl | rfl | rfl
    · exact ⟨_, h1⟩
    · exact ⟨_, h2⟩
    · exact ⟨_, h3⟩
    · exact ⟨_, h4⟩
    · exact ⟨_, h5⟩
  frame := fun q5 le hk => by refine Classical.byContradiction fun hno => ?_; obtain ⟨k, a, b, h1, h2, h3, ⟨o4, h4, h4'⟩, ⟨o5, h5, h5'⟩, h6, h7, h8⟩ := q5; exact hno (⟨k, a, b, hk z (by repeat' first | exact List.Mem.head _ | apply List.Mem.tail) _ h1, hk TI (by repeat' first | exact List.Mem.head _ | apply List.Mem.tail) _ h2, hk TO (by repeat' first | exact List.Mem.head _ | apply List.Mem.tail) _ h3, ⟨o4, hk i1 (by repeat' first | exact List.Mem.head _ | apply List.Mem.tail) _ h4, h4'⟩, ⟨o5, hk i2 (by repeat' first | exact List.Mem.head _ | apply List.Mem.tail) _ h5, h5'⟩, ⟨le.1 _ _ h6.1, h6.2.mono le⟩, ⟨le.1 _ _ h7.1, h7.2.mono le⟩, h8⟩)
  next := fun {A B W hs s b r} target hh htg rel out ⟨k, a, b', h1, h2, h3, h4, h5, h6, h7, h8⟩ => by
    refine Classical.byContradiction fun hno => ?_
    obtain ⟨es, kk, tp, rfl⟩ := htg rfl
    refine hno ?_
    clear hno
    cases has' : as.drop k with
    | nil => rw [has'] at h8; simp [zipV] at h8
    | cons u as' =>
      cases hbs' : bs.drop k with
      | nil => rw [has', hbs'] at h8; simp [zipV] at h8
      | cons v bs' =>
        rw [has', hbs'] at h8
        simp only [zipV, List.cons.injEq] at h8
        obtain ⟨rfl, rfl⟩ := h8
        refine Classical.byContradiction fun hno => ?_
        obtain ⟨hu, hda, _⟩ := drop_cons has'
        refine hno ?_
        clear hno
        refine Classical.byContradiction fun hno => ?_
        obtain ⟨hv, hdb, _⟩ := drop_cons hbs'
        refine hno ?_
        clear hno
        refine Classical.byContradiction fun hno => ?_
        obtain ⟨x, hx, ix⟩ := h6.2.get hu
        refine hno ?_
        clear hno
        refine Classical.byContradiction fun hno => ?_
        obtain ⟨y, hy, iy⟩ := h7.2.get hv
        refine hno ?_
        clear hno
        refine wpAny_pyNext_zip_item D h1 h2 h3 h4 h5 ⟨o1, rel.froz _ _ h6.1, hc1, n1, hd1⟩ ⟨o2, rel.froz _ _ h7.1, hc2, n2, hd2⟩ (by rw [← Array.getElem?_toList]; exact hx) (by rw [← Array.getElem?_toList]; exact hy) fun h' a1 a2 a3 a4 a5 a6 hk => ⟨_, rfl, ?_⟩
        have r1 : Rel X B W hs { s with heap := h' } := rel.others (tk := s.toks) out (fun b p hb e => hk b p (fun q => hb (by rw [q]; repeat' first | exact List.Mem.head _ | apply List.Mem.tail)) (fun q => hb (by rw [q]; repeat' first | exact List.Mem.head _ | apply List.Mem.tail)) (fun q => hb (by rw [q]; repeat' first | exact List.Mem.head _ | apply List.Mem.tail)) (fun q => hb (by rw [q]; repeat' first | exact List.Mem.head _ | apply List.Mem.tail)) e) (Nat.le_refl _)
        have lt : ∀ {c o}, s.heap.get? c = some o → c ≠ s.heap.objs.size := fun e => Nat.ne_of_lt (Heap.lt_size e)
        have hz : z ≠ s.heap.objs.size := lt h1
        refine wpAny_letOwnedTupleGo_zip a1 fun g hz' hs' => ?_
        have r2 : Rel X B W hs { s with heap := g } := r1.others (tk := s.toks) out (fun b p hb e => hs'.extBut b p (fun q => hb (by rw [q]; repeat' first | exact List.Mem.head _ | apply List.Mem.tail)) e) (Nat.le_refl _)
        obtain ⟨le, r3⟩ := r2.freezeAt (a := s.heap.objs.size) ((hs'.2 _ (Ne.symm hz)).trans a5) rel.none_size
        refine ⟨_, le, ?_, r3, fun c hc => ⟨(out c hc).1, ?_, (out c hc).2.2⟩, k + 1, x, y, hz', hs'.extBut _ _ D.TIz (hk _ _ D.TIz D.TITO D.TIi1 D.TIi2 h2), hs'.extBut _ _ D.TOz a2, ?_, ?_, ⟨le.1 _ _ h6.1, h6.2.mono le⟩, ⟨le.1 _ _ h7.1, h7.2.mono le⟩, by rw [hda, hdb]⟩
        · simp only [Is]
          exact ⟨_, _, _, _, rfl, Wd.froze_self, rfl, rfl, IsL.cons (ix.mono le) (IsL.cons (iy.mono le) IsL.nil)⟩
        · have hne : c ≠ s.heap.objs.size := by
            simp only [List.mem_cons, List.not_mem_nil, or_false] at hc
            rcases hc with rfl | rfl | rfl | rfl | rfl
            · exact hz
            · exact lt h2
            · exact lt h3
            · obtain ⟨_, e, _⟩ := h4; exact lt e
            · obtain ⟨_, e, _⟩ := h5; exact lt e
          simpa [Wd.froze, hne] using (out c hc).2.1
        · refine Classical.byContradiction fun hno => ?_
          obtain ⟨oi, hoi, e⟩ := a3
          refine hno ?_
          clear hno
          exact ⟨oi, hs'.extBut _ _ D.i1z hoi, e⟩
        · refine Classical.byContradiction fun hno => ?_
          obtain ⟨oi, hoi, e⟩ := a4
          refine hno ?_
          clear hno
          exact ⟨oi, hs'.extBut _ _ D.i2z hoi, e⟩
  stop := fun {A B W hs s} hh rel out ⟨k, a, b', h1, h2, h3, h4, h5, h6, h7, h8⟩ => by
    have hend : xs[k]? = none ∨ ys[k]? = none := by
      have e1 := h6.2.length
      have e2 := h7.2.length
      cases has' : as.drop k with
      | nil => have := drop_nil has'; exact .inl (Array.getElem?_eq_none (by rw [← Array.length_toList]; (first | lia | omega)))
      | cons u as' =>
        cases hbs' : bs.drop k with
        | nil => have := drop_nil hbs'; exact .inr (Array.getElem?_eq_none (by rw [← Array.length_toList]; (first | lia | omega)))
        | cons v bs' => rw [has', hbs'] at h8; simp [zipV] at h8
    exact wpAny_pyNext_zip_end hh D h1 h2 h3 h4 h5 ⟨o1, rel.froz _ _ h6.1, hc1, n1, hd1⟩ ⟨o2, rel.froz _ _ h7.1, hc2, n2, hd2⟩ hend fun h' hk => ⟨rfl, rel.others (tk := s.toks) out (fun b p hb e => hk b p (fun q => hb (by rw [q]; repeat' first | exact List.Mem.head _ | apply List.Mem.tail)) (fun q => hb (by rw [q]; repeat' first | exact List.Mem.head _ | apply List.Mem.tail)) (fun q => hb (by rw [q]; repeat' first | exact List.Mem.head _ | apply List.Mem.tail)) (fun q => hb (by rw [q]; repeat' first | exact List.Mem.head _ | apply List.Mem.tail)) e) (Nat.le_refl _)⟩
  self := fun q6 hq => by refine Classical.byContradiction fun hno => ?_; obtain ⟨k, a, b, h1, _⟩ := q6; exact hno (wpAny_pyIter_zip h1 hq)
theorem Src_zip {as bs : List V} : SrcC X A true (.type "zip") [.lst as, .lst bs] (zipV as bs) := fun B W hs s vf va r hf hv => by
  have e := by simpa only [Is] using hf
  subst e
  refine Classical.byContradiction fun hno => ?_
  obtain ⟨v, w, rfl, h1, h2⟩ := isL2 hv
  refine hno ?_
  clear hno
  refine Classical.byContradiction fun hno => ?_
  obtain ⟨l1, o1, xs, n1, rfl, a1, a2, a3, a4⟩ := isLst h1
  refine hno ?_
  clear hno
  refine Classical.byContradiction fun hno => ?_
  obtain ⟨l2, o2, ys, n2, rfl, b1, b2, b3, b4⟩ := isLst h2
  refine hno ?_
  clear hno
  have hl1 := r.froz _ _ a1
  have hl2 := r.froz _ _ b1
  refine call_zip_2 ⟨o1, hl1, a2, n1, a3⟩ ⟨o2, hl2, b2, n2, b3⟩ fun h' z1 z2 z3 z4 z5 hsz hk => wpAny_pyIter_zip z1 ?_
  refine ⟨W, [s.heap.objs.size + 4, s.heap.objs.size + 2, s.heap.objs.size + 3, s.heap.objs.size, s.heap.objs.size + 1], _, _, .refl _, rfl, Itr.zip (zipApart_new (Heap.lt_size hl1) (Heap.lt_size hl2)) (as := as) (bs := bs) a2 a3 b2 b3, r.keeps hk (Nat.le_refl _), fun a ha => r.out_fresh ?_, 0, _, _, z1, z2, z3, z4, z5, ⟨a1, a4⟩, ⟨b1, b4⟩, rfl⟩
  simp only [List.mem_cons, List.not_mem_nil, or_false] at ha
  rcases ha with rfl | rfl | rfl | rfl | rfl <;> (first | lia | omega)

theorem Itr.rev {I l : Addr} {o : Obj} {ws : Array Value} {n : Nat} {vs : List V} (hc : o.cls = .type "list") (hd : o.data = .seq ws n) : Itr X [I] I false fun r W h => ∃ k, h.IsRevIter I l ((k : Nat) - 1 : Int) ∧ W.Z l = some o ∧ IsL X W ws.toList vs ∧ k ≤ vs.length ∧ r = (vs.take k).reverse where
  has := fun q0 a ha => by obtain ⟨k, ⟨o, h, _⟩, _⟩ := q0; rw [List.mem_singleton.mp ha]; exact ⟨o, h⟩
  frame := fun q1 le hk => by refine Classical.byContradiction fun hno => ?_; obtain ⟨k, ⟨o, ho, r⟩, h2, h3, h4⟩ := q1; exact hno (⟨k, ⟨o, hk I (by simp) o ho, r⟩, le.1 _ _ h2, h3.mono le, h4⟩)
  next := fun {A B W hs s b r} target hh _ rel out ⟨k, h1, h2, h3, h4, h5⟩ => by
    cases k with
    | zero => simp at h5
    | succ k =>
      have hlt : k < vs.length := by (first | lia | omega)
      rw [List.take_add_one, List.getElem?_eq_getElem hlt] at h5
      simp only [Option.toList, List.reverse_append, List.reverse_cons, List.reverse_nil, List.nil_append, List.singleton_append, List.cons.injEq] at h5
      obtain ⟨rfl, rfl⟩ := h5
      refine Classical.byContradiction fun hno => ?_
      obtain ⟨w, hw, iw⟩ := h3.get (List.getElem?_eq_getElem hlt)
      refine hno ?_
      clear hno
      have e : (((k + 1 : Nat) : Int) - 1) = (k : Int) := by (first | lia | omega)
      rw [e] at h1
      refine wpAny_pyNext_rev_item h1 ⟨o, rel.froz _ _ h2, hc, n, hd⟩ (by rw [← Array.getElem?_toList]; exact hw) fun h' hit hsb => ⟨w, rfl, ?_⟩
      exact go_other (s := { s with heap := h' }) (T := "list_reverseiterator") (let ⟨o, ho, hc, hd⟩ := hit; ⟨o, ho, hc, by decide⟩) target w ⟨W, .refl _, iw, rel.others (tk := s.toks) out (fun b p hb e => hsb.extBut b p (fun q => hb (by rw [q]; repeat' first | exact List.Mem.head _ | apply List.Mem.tail)) e) (Nat.le_refl _), out, k, hit, h2, h3, by (first | lia | omega), rfl⟩
  stop := fun {A B W hs s} hh rel out ⟨k, h1, h2, h3, h4, h5⟩ => by
    have hk0 : k = 0 := by
      have := congrArg List.length h5
      simp at this; (first | lia | omega)
    subst hk0
    exact wpAny_pyNext_rev_end hh h1 fun h' he => ⟨rfl, rel.others (tk := s.toks) out (fun b p hb e => he b p (fun q => hb (by rw [q]; repeat' first | exact List.Mem.head _ | apply List.Mem.tail)) e) (Nat.le_refl _)⟩
  self := fun q2 hq => by refine Classical.byContradiction fun hno => ?_; obtain ⟨k, h1, _⟩ := q2; exact hno (wpAny_pyIter_revIter h1 hq)
theorem Src_rev {vs : List V} : SrcC X A false (.type "reversed") [.lst vs] vs.reverse := fun B W hs s vf va r hf hv => by
  have e := by simpa only [Is] using hf
  subst e
  refine Classical.byContradiction fun hno => ?_
  obtain ⟨v, rfl, h1⟩ := isL1 hv
  refine hno ?_
  clear hno
  refine Classical.byContradiction fun hno => ?_
  obtain ⟨l, o, ws, n, rfl, h1, h2, h3, h4⟩ := isLst h1
  refine hno ?_
  clear hno
  have hl := r.froz _ _ h1
  have e : ws.size = vs.length := by rw [← Array.length_toList]; exact h4.length
  refine call_reversed_list ⟨o, hl, h2, n, h3⟩ (wpAny_pyIter_revIter (i := (ws.size : Int) - 1) ⟨_, Heap.get?_push_size _ rfl, rfl, rfl⟩ ?_)
  refine ⟨W, [s.heap.objs.size], _, _, .refl _, rfl, Itr.rev (I := s.heap.objs.size) (l := l) (vs := vs) h2 h3, r.push _, fun a ha => ?_, vs.length, ⟨_, Heap.get?_push_size _ rfl, rfl, ?_⟩, h1, h4, Nat.le_refl _, ?_⟩
  · rw [List.mem_singleton.mp ha]; exact r.none_size
  · rw [← e]; rfl
  · rw [List.take_length]
end
end
section
section
variable {X : Fx} {A : Around} {env : Env} {hs : HS}

theorem strs_of {W : Wd} : ∀ {ws : List Value} {xs : List Str}, IsL X W ws (xs.map .str) → ws.map strOf = xs ∧ StrsAre ws xs ∧ ∀ w ∈ ws, Is X W w (.str (strOf w))
  | ws, [], h => by
    simp only [List.map_nil, IsL] at h; subst h
    exact ⟨rfl, .nil, fun _ h => by simp at h⟩
  | ws, x :: xs, h => by
    simp only [List.map_cons, IsL] at h
    refine Classical.byContradiction fun hno => ?_
    obtain ⟨w, r, rfl, h1, h2⟩ := h
    refine hno ?_
    clear hno
    refine Classical.byContradiction fun hno => ?_
    obtain ⟨e1, e2, e3⟩ := strs_of h2
    refine hno ?_
    clear hno
    refine Classical.byContradiction fun hno => ?_
    obtain ⟨t, rfl, ht⟩ := isStr h1
    refine hno ?_
    clear hno
    refine ⟨by simp [e1, strOf], .cons x t e2, fun u hu => ?_⟩
    rcases List.mem_cons.mp hu with rfl | hu
    · exact h1
    · exact e3 u hu
theorem isL_strs {W : Wd} : ∀ {ws : List Value}, (∀ w ∈ ws, Is X W w (.str (strOf w))) → IsL X W ws ((ws.map strOf).map .str)
  | [], _ => IsL.nil
  | w :: ws, h => IsL.cons (h w List.mem_cons_self) (isL_strs fun u hu => h u (List.mem_cons_of_mem _ hu))

noncomputable def SortedS (ys : List Str) : Prop := ys.Pairwise fun a b => ¬ b.cps.toList < a.cps.toList

theorem sort_out {W : Wd} {keys vs : List Value} {xs : List Str} (hk : IsL X W keys (xs.map .str)) (hv : IsL X W vs (xs.map .str)) {ps : Array (Value × Value)} (hp : ps.Perm (keys.toArray.zip vs.toArray)) (hs : SortedToK PyProof.Rows.strKind ps ps.size) :
    ∃ ys, IsL X W (ps.map (·.2)).toList (ys.map .str) ∧ ys.Perm xs ∧ SortedS ys := by
  refine Classical.byContradiction fun hno => ?_
  obtain ⟨ek, ek2, ek3⟩ := strs_of hk
  refine hno ?_
  clear hno
  refine Classical.byContradiction fun hno => ?_
  obtain ⟨ev, ev2, ev3⟩ := strs_of hv
  refine hno ?_
  clear hno
  have hl1 := hk.length
  have hl2 := hv.length
  have hperm : ps.toList.Perm (keys.zip vs) := by
    have := Array.perm_iff_toList_perm.mp hp
    simpa using this
  have hmem : ∀ p ∈ ps.toList, strOf p.1 = strOf p.2 ∧ Is X W p.2 (.str (strOf p.2)) ∧ ∃ t, p.1 = .str (strOf p.1) t := fun p h => by
    have h' := hperm.mem_iff.mp h
    refine Classical.byContradiction fun hno => ?_
    obtain ⟨i, hi, e⟩ := List.mem_iff_getElem.mp h'
    refine hno ?_
    clear hno
    have hi1 : i < keys.length := by simp at hi; (first | lia | omega)
    have hi2 : i < vs.length := by simp at hi; (first | lia | omega)
    rw [List.getElem_zip] at e
    subst e
    have e1 : strOf keys[i] = xs[i]'(by simp at hl1; (first | lia | omega)) := by
      have : (keys.map strOf)[i]'(by simpa using hi1) = xs[i]'(by simp at hl1; (first | lia | omega)) := by simp only [ek]
      simpa using this
    have e2 : strOf vs[i] = xs[i]'(by simp at hl1; (first | lia | omega)) := by
      have : (vs.map strOf)[i]'(by simpa using hi2) = xs[i]'(by simp at hl1; (first | lia | omega)) := by simp only [ev]
      simpa using this
    refine ⟨e1.trans e2.symm, ev3 _ (List.getElem_mem hi2), ?_⟩
    refine Classical.byContradiction fun hno => ?_
    obtain ⟨t, ht, _⟩ := isStr (ek3 _ (List.getElem_mem hi1))
    refine hno ?_
    clear hno
    exact ⟨t, ht⟩
  refine ⟨(ps.map (·.2)).toList.map strOf, isL_strs fun w hw => ?_, ?_, ?_⟩
  · rw [Array.toList_map] at hw
    refine Classical.byContradiction fun hno => ?_
    obtain ⟨p, hp', rfl⟩ := List.mem_map.mp hw
    refine hno ?_
    clear hno
    exact (hmem p hp').2.1
  · rw [Array.toList_map, List.map_map]
    have e : (keys.zip vs).map (strOf ∘ fun x => x.2) = xs := by
      rw [← List.map_map, List.map_snd_zip (by simp at hl1 hl2; (first | lia | omega)), ev]
    rw [← e]
    exact hperm.map _
  · unfold SortedS
    rw [Array.toList_map, List.map_map, List.pairwise_iff_getElem]
    intro i j hi hj hij
    simp at hi hj
    have := hs i j (Nat.le_of_lt hij) hj
    have hKK : ∀ i (h : i < ps.size), KK PyProof.Rows.strKind ps i = (strOf ps[i].2).cps.toList := fun i h => by
      refine Classical.byContradiction fun hno => ?_
      obtain ⟨e1, _, t, e2⟩ := hmem ps[i] (by simp)
      refine hno ?_
      clear hno
      have hx : ps[i] = (Value.str (strOf ps[i].1) t, ps[i].2) := Prod.ext e2 rfl
      rw [KK_str h hx, e1]
    rw [hKK i hi, hKK j hj] at this
    have hlt : decide ((strOf ps[j].2).cps.toList < (strOf ps[i].2).cps.toList) = false := this
    simpa using hlt

theorem seqObj_upd {h : Heap} {a : Addr} {c : String} {xs : Array Value} {n : Nat} (ho : h.get? a = some (seqObj c xs n)) (g : Array Value → Array Value) : ∃ n', (h.update a (Obj.mapSeq g)).get? a = some (seqObj c (g xs) n') := ⟨_, get?_update_seq ho g⟩

structure SortAt (X : Fx) (B : Addr → Option Obj) (W : Wd) (hs : HS) (kS a : Addr) (keys : Array Value) (e e1 : Nat) (s : Shared) : Prop where
  rel : Rel X B W hs s
  out : Out [kS, a] B W hs
  kAt : s.heap.get? kS = some (seqObj "list" keys e)
  aAt : s.heap.get? a = some (seqObj "list" #[] e1)
  ne : kS ≠ a

theorem sort_tail {B : Addr → Option Obj} {W : Wd} {kS a : Addr} {keys : Array Value} {e e1 : Nat} {s : Shared} {st : SortSt} {vs : List Value} {xs : List Str} {P : PySem.Fin → Shared → Prop} {E : Value → Shared → Prop} (S : SortAt X B W hs kS a keys e e1 s)
    (hk : IsL X W keys.toList (xs.map .str)) (hv : IsL X W vs (xs.map .str)) (h64 : vs.length < 64) (hp : (arrOf st).Perm (keys.zip vs.toArray)) (hs' : SortedToK PyProof.Rows.strKind (arrOf st) (arrOf st).size) (hfl : failedOf st = none)
    (h : ∀ ys out c s', Rel X B W hs s' → Out [a] B W hs → s'.heap.get? a = some (seqObj "list" out c) → IsL X W out.toList (ys.map .str) → ys.Perm xs → SortedS ys → P (.done (.ret .none)) s') :
    wpAny (M X) A (ksk_tail a false e1 (.ref kS) st) P E s := by
  have hl1 := hk.length
  have hl2 := hv.length
  have hsz : keys.size = vs.length := by rw [← Array.length_toList]; (first | lia | omega)
  have hsz2 : (arrOf st).size = vs.length := by rw [hp.size_eq, Array.size_zip, hsz, List.size_toArray, Nat.min_self]
  have hout : ((arrOf st).map (·.2)).size = vs.length := by rw [Array.size_map]; exact hsz2
  have s1 := Heap.SameBut.update s.heap kS (Obj.mapSeq fun _ => (#[] : Array Value))
  have na1 : (s.heap.update kS (Obj.mapSeq fun _ => (#[] : Array Value))).get? a = some (seqObj "list" #[] e1) := (s1.2 a S.ne.symm).trans S.aAt
  have s2 := Heap.SameBut.update (s.heap.update kS (Obj.mapSeq fun _ => (#[] : Array Value))) a (Obj.mapSeq fun _ => (arrOf st).map (·.2))
  obtain ⟨c2, hc2⟩ := seqObj_upd na1 fun _ => (arrOf st).map (·.2)
  unfold ksk_tail
  dsimp only
  refine wpAny_bind (listUpdate_at S.kAt rfl ?_ (by rw [hsz, sizeLine_eq]; (first | lia | omega)) (Nat.zero_le _))
  refine wpAny_bind (wpAny_letGo ?_)
  refine wpAny_bind (seqEpoch_at na1 rfl ?_)
  refine wpAny_bind (listUpdate_at na1 rfl ?_ (Nat.zero_le _) (Nat.le_trans (Nat.le_of_eq hout) (by rw [sizeLine_eq]; (first | lia | omega))))
  rw [hfl]
  simp only [bne_self_eq_false, Bool.false_eq_true, if_false]
  refine Classical.byContradiction fun hno => ?_
  obtain ⟨ys, h1, h2, h3⟩ := sort_out hk hv (ps := arrOf st) (by simpa using hp) hs'
  refine hno ?_
  clear hno
  refine wpAny_pure (h ys _ c2 _ ?_ (fun b hb => S.out b (List.mem_cons_of_mem _ hb)) hc2 h1 h2 h3)
  have r1 : Rel X B W hs { s with heap := s.heap.update kS (Obj.mapSeq fun _ => (#[] : Array Value)) } := S.rel.others (tk := s.toks) S.out (fun b p hb e => s1.extBut b p (fun q => hb (by rw [q]; repeat' first | exact List.Mem.head _ | apply List.Mem.tail)) e) (Nat.le_refl _)
  exact r1.others (tk := s.toks) S.out (fun b p hb e => s2.extBut b p (fun q => hb (by rw [q]; repeat' first | exact List.Mem.head _ | apply List.Mem.tail)) e) (Nat.le_refl _)

theorem strs_keyKind {W : Wd} {keys : Array Value} {xs : List Str} (hk : IsL X W keys.toList (xs.map .str)) (h2 : 2 ≤ keys.size) : keyKind' keys = pure oneType' := by
  obtain ⟨ks⟩ := keys
  match ks, h2 with
  | v₁ :: v₂ :: rest, _ => exact keyKind_strs (strs_of hk).2.1

theorem sort_end {B : Addr → Option Obj} {W : Wd} {kS a : Addr} {keys : Array Value} {e e1 : Nat} {s : Shared} {vs : List Value} {xs : List Str} {P : PySem.Fin → Shared → Prop} {E : Value → Shared → Prop} (S : SortAt X B W hs kS a keys e e1 s)
    (hk : IsL X W keys.toList (xs.map .str)) (hv : IsL X W vs (xs.map .str)) (h64 : vs.length < 64)
    (h : ∀ ys out c s', Rel X B W hs s' → Out [a] B W hs → s'.heap.get? a = some (seqObj "list" out c) → IsL X W out.toList (ys.map .str) → ys.Perm xs → SortedS ys → P (.done (.ret .none)) s') :
    wpAny (M X) A (ksk_end a false vs.toArray e1 (.ref kS) keys) P E s := by
  have hl1 := hk.length
  have hl2 := hv.length
  have hsz : keys.size = vs.length := by rw [← Array.length_toList]; (first | lia | omega)
  have hzs : (keys.zip vs.toArray).size = vs.length := by rw [Array.size_zip, hsz, List.size_toArray, Nat.min_self]
  unfold ksk_end
  simp only [Bool.false_eq_true, if_false]
  by_cases h2 : vs.toArray.size < 2
  · rw [if_pos h2, if_pos h2]
    refine wpAny_bind (wpAny_pure ?_)
    rw [StateT.run_pure]
    refine wpAny_bind (wpAny_pure ?_)
    dsimp only
    refine sort_tail (st := SortSt.mk' general' (keys.zip vs.toArray) #[] 7 none) S hk hv h64 (Array.Perm.refl _) ?_ rfl h
    intro i j hij hj
    have hj2 : j < (keys.zip vs.toArray).size := hj
    rw [hzs] at hj2
    rw [List.size_toArray] at h2
    have : i = j := by (first | lia | omega)
    subst this
    exact KeyOrd.kle_refl _
  · rw [if_neg h2, if_neg h2]
    rw [List.size_toArray] at h2
    rw [strs_keyKind hk (by rw [hsz]; (first | lia | omega))]
    refine wpAny_bind (wpAny_pure ?_)
    have hkeys : KeysOf PyProof.Rows.strKind (keys.zip vs.toArray) := fun p hp => by
      rw [Array.toList_zip] at hp
      obtain ⟨x, y⟩ := p
      refine Classical.byContradiction fun hno => ?_
      obtain ⟨t, ht, _⟩ := isStr ((strs_of hk).2.2 _ (List.of_mem_zip hp).1)
      refine hno ?_
      clear hno
      exact ⟨(strOf x).cps.toList, by show PyProof.Rows.strKind.keyOf x = _; rw [ht]; rfl⟩
    refine wpAny_bind (wpAny_mono (wpS_sortRunsK (κ := PyProof.Rows.strKind) (a₀ := keys.zip vs.toArray) (st := SortSt.mk' oneType' (keys.zip vs.toArray) #[] 7 none)
      (Q := fun _ st' => (arrOf st').Perm (keys.zip vs.toArray) ∧ failedOf st' = none ∧ SortedToK PyProof.Rows.strKind (arrOf st') (keys.zip vs.toArray).size)
      strKind_oneLt hkeys ⟨Array.Perm.refl _, rfl, rfl, rfl⟩ (by rw [hzs]; (first | lia | omega)) (by rw [hzs]; exact h64) fun st' a1 a2 a3 => ⟨a1, a2, a3⟩) ?_ fun _ _ e => e)
    rintro ⟨⟨⟩, st'⟩ s' ⟨rfl, hp, hf, hss⟩
    dsimp only
    exact sort_tail S hk hv h64 hp (by rw [hp.size_eq]; exact hss) hf h

theorem sort_rest {B : Addr → Option Obj} {W : Wd} {kS a : Addr} {e1 : Nat} {s : Shared} {vf : Value} {f : V} {vs : List Value} {xs : List Str} {P : PySem.Fin → Shared → Prop} (S : SortAt X B W hs kS a #[] 0 e1 s)
    (hf : Is X W vf f) (hv : IsL X W vs (xs.map .str)) (h64 : vs.length < 64) (hkey : ∀ x ∈ xs, JC X A f [.str x] hs fun v h2 => v = .str x ∧ h2 = hs)
    (h : ∀ W' ys out c s', W.le W' → Rel X B W' hs s' → Out [a] B W' hs → s'.heap.get? a = some (seqObj "list" out c) → IsL X W' out.toList (ys.map .str) → ys.Perm xs → SortedS ys → P (.done (.ret .none)) s') :
    wpAny (M X) A (ksk_rest a vf false vs.toArray e1 (.ref kS)) P NoE s := by
  have hl2 := hv.length
  unfold ksk_rest
  refine wpAny_bind (wpAny_rule ?_)
  rw [List.forIn_toArray]
  refine wpAny_bind (ksk_fold (fun i s' => ∃ W' kA e, W.le W' ∧ SortAt X B W' hs kS a kA e e1 s' ∧ IsL X W' kA.toList ((xs.take i).map .str)) vs 0 s ⟨W, #[], 0, .refl _, S, IsL.nil⟩ ?step ?done)
  case step =>
    rintro j x s' hx ⟨W', kA, e, le, S', hk⟩
    simp only [Nat.zero_add] at hk ⊢
    have hj : j < vs.length := (List.getElem?_eq_some_iff.mp hx).1
    have hjx : j < xs.length := by simp at hl2; (first | lia | omega)
    have ix : Is X W' x (.str xs[j]) := by
      have := hv.get (i := j) (b := .str xs[j]) (by simp [hjx])
      refine Classical.byContradiction fun hno => ?_
      obtain ⟨w, hw, iw⟩ := this
      refine hno ?_
      clear hno
      rw [hx] at hw; cases hw
      exact iw.mono le
    have hz : kA.size ≤ vs.length := by
      have h1 := hk.length
      rw [Array.length_toList] at h1
      simp at h1 hl2; (first | lia | omega)
    have rH := S'.rel.holdL S'.out
    refine wpAny_bind (wpAny_attempt (wpAny_mono (hkey xs[j] (List.getElem_mem hjx) _ W' s' vf [x] rH (hf.mono le) (IsL.cons ix IsL.nil)) (fun v s'' q3 => ?_) fun _ _ hF => hF.elim))
    refine Classical.byContradiction fun hno => ?_
    obtain ⟨W2, b, h2, l2, i2, r2, e2, e3⟩ := q3
    refine hno ?_
    clear hno
    subst e2; subst e3
    obtain ⟨r3, o3, k3⟩ := r2.unholdL S'.rel.hb (fun a ha => (S'.out a ha).1) (fun b hb => by
      rcases List.mem_cons.mp hb with rfl | hb
      · exact ⟨_, S'.kAt⟩
      · rw [List.mem_singleton.mp hb]; exact ⟨_, S'.aAt⟩)
    have nk := k3 kS (by simp) _ S'.kAt
    have na := k3 a (by simp) _ S'.aAt
    have s1 := Heap.SameBut.update s''.heap kS (Obj.mapSeq (·.push v))
    obtain ⟨c2, hc2⟩ := seqObj_upd nk (·.push v)
    refine wpAny_bind (listUpdate_at nk rfl ?_ (by rw [sizeLine_eq]; (first | lia | omega)) (Nat.le_trans (Nat.le_of_eq (Array.size_push ..)) (by rw [sizeLine_eq]; (first | lia | omega))))
    refine wpAny_pure ⟨rfl, W2, kA.push v, c2, le.trans l2, ⟨?_, o3, hc2, (s1.2 a S'.ne.symm).trans na, S'.ne⟩, ?_⟩
    · exact r3.others (tk := s''.toks) o3 (fun b p hb e => s1.extBut b p (fun q => hb (by rw [q]; repeat' first | exact List.Mem.head _ | apply List.Mem.tail)) e) (Nat.le_refl _)
    · rw [Array.toList_push, List.take_add_one, List.getElem?_eq_getElem hjx]
      simp only [Option.toList, List.map_append, List.map_cons, List.map_nil]
      exact (hk.mono l2).append (IsL.cons i2 IsL.nil)
  case done =>
    rintro s' ⟨W', kA, e, le, S', hk⟩
    have hk' : IsL X W' kA.toList (xs.map .str) := by
      rw [List.take_of_length_le (by simp at hl2; (first | lia | omega))] at hk
      exact hk
    refine wpAny_bind (listItems_at S'.kAt rfl ?_)
    exact sort_end S' hk' (hv.mono le) h64 fun ys out c s2 r2 o2 h1 h2 h3 h4 => h W' ys out c s2 le r2 o2 h1 h2 h3 h4

theorem sort_tree {B : Addr → Option Obj} {W : Wd} {a : Addr} {n : Nat} {s : Shared} {vf : Value} {f : V} {vs : List Value} {xs : List Str} {P : PySem.Fin → Shared → Prop} (rel : Rel X B W hs s) (out : Out [a] B W hs) (ho : s.heap.get? a = some (seqObj "list" vs.toArray n))
    (hf : Is X W vf f) (hv : IsL X W vs (xs.map .str)) (h64 : vs.length < 64) (hkey : ∀ x ∈ xs, JC X A f [.str x] hs fun v h2 => v = .str x ∧ h2 = hs)
    (h : ∀ W' ys out c s', W.le W' → Rel X B W' hs s' → Out [a] B W' hs → s'.heap.get? a = some (seqObj "list" out c) → IsL X W' out.toList (ys.map .str) → ys.Perm xs → SortedS ys → P (.done (.ret .none)) s') :
    wpAny (M X) A (ksk_tree a vf false) P NoE s := by
  have ha : a < s.heap.objs.size := Heap.lt_size ho
  have s1 := Heap.SameBut.update s.heap a (Obj.mapSeq fun _ => (#[] : Array Value))
  obtain ⟨e1, ho1⟩ := seqObj_upd ho fun _ => #[]
  have hkS : ((s.heap.update a (Obj.mapSeq fun _ => (#[] : Array Value))).push (seqObj "tuple" vs.toArray 0)).objs.size = s.heap.objs.size + 1 := by rw [size_push', Heap.size_update]
  have r1 : Rel X B W hs { s with heap := s.heap.update a (Obj.mapSeq fun _ => (#[] : Array Value)) } := rel.others (tk := s.toks) out (fun b p hb e => s1.extBut b p (fun q => hb (by rw [q]; repeat' first | exact List.Mem.head _ | apply List.Mem.tail)) e) (Nat.le_refl _)
  have r2 : Rel X B W hs { s with heap := ((s.heap.update a (Obj.mapSeq fun _ => (#[] : Array Value))).push (seqObj "tuple" vs.toArray 0)).push (seqObj "list" #[] 0) } := (r1.push (seqObj "tuple" vs.toArray 0)).push (seqObj "list" #[] 0)
  unfold ksk_tree
  refine wpAny_bind (listItems_at ho rfl ?_)
  refine wpAny_bind (listUpdate_at ho rfl ?_ (by rw [List.size_toArray, sizeLine_eq]; (first | lia | omega)) (Nat.zero_le _))
  refine wpAny_bind (seqEpoch_at ho1 rfl ?_)
  refine wpAny_bind (wpAny_newTuple ?_ (by show vs.length ≤ _; rw [sizeLine_eq]; (first | lia | omega)))
  refine wpAny_bind (wpAny_newList ?_ (Nat.zero_le _))
  refine wpAny_holding ?_
  refine sort_rest (s := { s with heap := ((s.heap.update a (Obj.mapSeq fun _ => (#[] : Array Value))).push (seqObj "tuple" vs.toArray 0)).push (seqObj "list" #[] 0) }) ⟨r2, fun b hb => ?_, Heap.get?_push_size _ rfl, Heap.get?_push_of_some _ (Heap.get?_push_of_some _ ho1), ?_⟩ hf hv h64 hkey h
  · rcases List.mem_cons.mp hb with rfl | hb
    · exact rel.out_fresh (by rw [hkS]; exact Nat.le_succ _)
    · rw [List.mem_singleton.mp hb]; exact out a (by simp)
  · rw [hkS]; exact Nat.ne_of_gt (Nat.lt_succ_of_lt ha)

theorem call_sorted {B : Addr → Option Obj} {W : Wd} {l : V} {s : Shared} {va vf : Value} {f : V} {xs : List Str} {Q : V → HS → Prop} (rel : Rel X B W hs s) (ha : Is X W va (.lst (xs.map .str))) (hf : Is X W vf f) (hfr : ∃ q, vf = .ref q)
    (h64 : xs.length < 64) (hkey : ∀ x ∈ xs, JC X A.in1.in1 f [.str x] hs fun v h2 => v = .str x ∧ h2 = hs) (h : ∀ ys, ys.Perm xs → SortedS ys → Q (.lst (ys.map .str)) hs) :
    wpAny (M X) A (call (.builtin "sorted") [va] [(Str.ofString "key", vf)]) (Post X B W (Is X) Q) NoE s := by
  obtain ⟨q, rfl⟩ := hfr
  refine Classical.byContradiction fun hno => ?_
  obtain ⟨l, o, ws, n, rfl, h1, h2, h3, h4⟩ := isLst ha
  refine hno ?_
  clear hno
  have hlen := h4.length
  have hl : s.heap.IsList l ws.toList.toArray := ⟨o, rel.froz _ _ h1, h2, n, by simpa using h3⟩
  have h64' : ws.toList.length < 64 := by simp at hlen ⊢; (first | lia | omega)
  refine call_function_entry_kw kind_sorted plain_sorted entry_sorted (ksk_s1 _ _) ?_
  unfold Builtin.«sorted»
  refine wpAny_bind (m := checkCount "sorted" 1 1 _) (wpAny_pure ?_)
  refine wpAny_bind (collect_list hl ?_ (by rw [sizeLine_eq]; (first | lia | omega)))
  refine wpAny_bind (wpAny_newList ?_ (by rw [sizeLine_eq]; (first | lia | omega)))
  generalize hvs : ws.toList = vs at *
  have hsz : ((s.heap.push (seqObj "list" #[] 0)).update s.heap.objs.size (Obj.mapSeq (· ++ vs.toArray))).objs.size = s.heap.objs.size + 1 := by
    rw [Heap.size_update, size_push']
  have hoL : (((s.heap.push (seqObj "list" #[] 0)).update s.heap.objs.size (Obj.mapSeq (· ++ vs.toArray))).push (seqObj "list" vs.toArray 0)).get? (s.heap.objs.size + 1) = some (seqObj "list" vs.toArray 0) := by
    rw [← hsz]; exact Heap.get?_push_size _ rfl
  have keep : ∀ b o, s.heap.get? b = some o → (((s.heap.push (seqObj "list" #[] 0)).update s.heap.objs.size (Obj.mapSeq (· ++ vs.toArray))).push (seqObj "list" vs.toArray 0)).get? b = some o := fun b o q => by
    have hlt : b < s.heap.objs.size := Heap.lt_size q
    rw [Heap.get?_push_ne _ _ _ (by rw [hsz]; exact Nat.ne_of_lt (Nat.lt_succ_of_lt hlt)), Heap.get?_update_ne _ _ _ _ (Nat.ne_of_lt hlt), Heap.get?_push_ne _ _ _ (Nat.ne_of_lt hlt)]
    exact q
  show wpAny _ _ _ _ _ { s with heap := ((s.heap.push (seqObj "list" #[] 0)).update s.heap.objs.size (Obj.mapSeq (· ++ vs.toArray))).push (seqObj "list" vs.toArray 0) }
  rw [hsz]
  have r1 : Rel X B W hs { s with heap := ((s.heap.push (seqObj "list" #[] 0)).update s.heap.objs.size (Obj.mapSeq (· ++ vs.toArray))).push (seqObj "list" vs.toArray 0) } := rel.keeps keep (Nat.le_refl _)
  have o1 : Out [s.heap.objs.size + 1] B W hs := fun b hb => by rw [List.mem_singleton.mp hb]; exact rel.out_fresh (Nat.le_succ _)
  refine wpAny_bind (wpAny_holding (wpAny_call_entry_kw slot_list_sort ⟨_, hoL, rfl⟩ entry_list_sort ?body (ksk_l1 _ _)))
  case body =>
    rw [ksk_t1]
    refine sort_tree (A := A.in1.in1) (s := { s with heap := ((s.heap.push (seqObj "list" #[] 0)).update s.heap.objs.size (Obj.mapSeq (· ++ vs.toArray))).push (seqObj "list" vs.toArray 0) }) r1 o1 hoL hf h4 h64' hkey fun W' ys out c s' le r' o' ho' hi hp hs => ⟨_, rfl, ?_⟩
    obtain ⟨le2, r2⟩ := r'.freezeAt ho' (o' _ (by simp))
    refine wpAny_pure ⟨_, rfl, _, _, _, le.trans le2, ?_, r2, h ys hp hs⟩
    simp only [Is]
    exact ⟨_, _, _, _, rfl, Wd.froze_self, rfl, rfl, hi.mono le2⟩

theorem J_Sorted {p pos kp : Pos} {e k : Expr} {Q : V → HS → Prop} (h : Je X A env (.Name "sorted" p) hs fun f h1 => f = .bi "sorted" ∧ Je X A env e h1 fun a h2 => Je X A env k h2 fun kf h3 => ∃ xs : List Str, a = .lst (xs.map .str) ∧ (∃ n, kf = .fn n) ∧ xs.length < 64 ∧
      (∀ x ∈ xs, JC X A.in1.in1 kf [.str x] h3 fun v h2 => v = .str x ∧ h2 = h3) ∧ ∀ ys, ys.Perm xs → SortedS ys → Q (.lst (ys.map .str)) h3)
    (he : starEach [e] env = [(false, eval e env)] := by rfl) :
    Je X A env (.Call (.Name "sorted" p) [e] [⟨some "key", k, kp⟩] pos) hs Q := fun B W s r => by
  refine wpAny_Call_Name_kw (wpAny_mono (h B W s r) (fun vf s1 q4 => ?_) fun _ _ x => x)
  refine Classical.byContradiction fun hno => ?_
  obtain ⟨W1, f, h1, l1, i1, r1, ef, k1⟩ := q4
  refine hno ?_
  clear hno
  subst ef
  cases isBi i1
  refine callWith_kw ?_ (by rw [he]; rfl) (by rw [he]; rfl)
  refine wpAny_items_cons (wpAny_mono (k1 B W1 s1 r1) (fun va s2 p0 => p0.elim fun W2 a h2 l2 i2 r2 k2 => wpAny_items_nil (kws_cons (wpAny_mono (k2 B W2 s2 r2) (fun vk s3 ⟨W3, kf, h3, l3, i3, r3, xs, e1, ⟨n, e2⟩, h64, hkey, hq⟩ => kws_nil ?_) fun _ _ x => x))) fun _ _ x => x) (by rw [he]; rfl)
  subst e1; subst e2
  refine wpAny_mono (call_sorted (l := .none) r3 (i2.mono l3) i3 ?_ h64 hkey hq) (fun _ _ p => p.le ((l1.trans l2).trans l3)) fun _ _ x => x
  simp only [Is] at i3
  refine Classical.byContradiction fun hno => ?_
  obtain ⟨a, e, _⟩ := i3
  refine hno ?_
  clear hno
  exact ⟨a, e⟩
end
end
section
section
variable {X : Fx} {A : Around} {env : Env} {hs : HS}

theorem B_addl {as bs : List V} {Q : V → HS → Prop} (hsz : as.length + bs.length ≤ sizeLine) (h : Q (.lst (as ++ bs)) hs) : Jb X A .Add (.lst as) (.lst bs) hs Q := fun B W s va vb r ha hb => by
  refine Classical.byContradiction fun hno => ?_
  obtain ⟨l, o1, xs, n1, rfl, a1, a2, a3, a4⟩ := isLst ha
  refine hno ?_
  clear hno
  refine Classical.byContradiction fun hno => ?_
  obtain ⟨b, o2, ys, n2, rfl, b1, b2, b3, b4⟩ := isLst hb
  refine hno ?_
  clear hno
  have ho := r.froz _ _ a1
  have ho2 := r.froz _ _ b1
  refine Classical.byContradiction fun hno => ?_
  obtain ⟨cls, dd, data, sl⟩ := o1
  refine hno ?_
  clear hno
  refine Classical.byContradiction fun hno => ?_
  obtain ⟨cls2, dd2, data2, sl2⟩ := o2
  refine hno ?_
  clear hno
  simp only at a2 a3 b2 b3
  subst a2 a3 b2 b3
  have e1 : xs.size = as.length := by rw [← Array.length_toList]; exact a4.length
  have e2 : ys.size = bs.length := by rw [← Array.length_toList]; exact b4.length
  refine concat_meets ⟨_, ho, rfl⟩ ⟨_, ho2, rfl⟩ noFill_list_add seq_list_add PySem.F.slot_list_add PySem.F.entry_list_add (PySem.F.args_list_add_2 _ _) (list_addW l b xs ys n1 n2 dd dd2 sl sl2 (by (first | lia | omega))) ⟨ho, ho2, ?_⟩
  obtain ⟨le, r2⟩ := r.newZ { cls := .type "list", data := .seq (xs ++ ys) }
  refine .mk' le ?_ r2 h
  simp only [Is]
  exact ⟨_, _, _, _, rfl, Wd.froze_self, rfl, rfl, by rw [Array.toList_append]; exact (a4.append b4).mono le⟩

noncomputable def repL (n : Int) (vs : List V) : List V := (List.replicate n.toNat vs).flatten
theorem IsL.rep {W : Wd} {ws : List Value} {vs : List V} (h : IsL X W ws vs) : ∀ n : Nat, IsL X W (List.replicate n ws).flatten (List.replicate n vs).flatten
  | 0 => IsL.nil
  | n + 1 => by simp only [List.replicate_succ, List.flatten_cons]; exact h.append (IsL.rep h n)
theorem foldl_app (xs : Array Value) : ∀ (k : Nat) (acc : Array Value), (List.foldl (fun x1 x2 => x1 ++ x2) acc (List.replicate k xs)).toList = acc.toList ++ (List.replicate k xs.toList).flatten
  | 0, acc => by simp
  | k + 1, acc => by rw [List.replicate_succ, List.foldl_cons, foldl_app xs k]; simp [List.replicate_succ]
theorem J_MulDisp {pos p' : Pos} {es : List Expr} {e : Expr} {Q : V → HS → Prop}
    (h : Jl X A env p' es hs fun bs h1 => bs.length ≤ sizeLine ∧ Je X A env e h1 fun n h2 => ∃ i : Int, n = .int i ∧ bs ≠ [] ∧ -(2 ^ 63 : Int) ≤ i ∧ i < 2 ^ 63 ∧ bs.length * i.toNat ≤ 2 ^ 24 ∧ (Q (.lst (repL i bs)) h2 ∨ ∀ a, Q (.ref a) ((a, .list (repL i bs)) :: h2))) :
    Je X A env (.BinOp (.List es p') .Mult e pos) hs Q := fun B W s r => by
  refine wpAny_BinOp (wpAny_List (wpAny_mono (h B W s r) (fun vs s1 ⟨W1, bs, h1, l1, i1, r1, hsz, k1⟩ => ⟨by rw [i1.length]; exact hsz, ?_⟩) fun _ _ x => x))
  obtain ⟨le, r2⟩ := r1.newZ { cls := .type "list", data := .seq vs.toArray }
  refine wpAny_mono (k1 B _ _ r2) (fun vn s2 q0 => ?_) fun _ _ x => x
  refine Classical.byContradiction fun hno => ?_
  obtain ⟨W2, n, h2, l2, i2, r3, i, en, hne, h0, h1', hz, hq⟩ := q0
  refine hno ?_
  clear hno
  subst en
  obtain ⟨u, rfl⟩ := isInt i2
  have hl : s2.heap.get? s1.heap.objs.size = some { cls := .type "list", dict := none, data := .seq vs.toArray, slots := #[] } := r3.froz _ _ (l2.1 _ _ Wd.froze_self)
  have hlen := i1.length
  have hemp : vs.toArray.isEmpty = false := by
    cases vs with
    | nil => exact absurd (List.eq_nil_of_length_eq_zero (by simpa using hlen.symm)) hne
    | cons a b => rfl
  refine wpAny_binaryOp_repeat_ref (T := "list") (U := "int") (by decide) ⟨_, hl, rfl⟩ (fun s' => typeIs_int s' i u) noFill_list_mul F.fills_int_mul F.slot_int_rmul repeat_list F.slot_int_index.lookup
    (call_meets F.slot_int_rmul (typeIs_int s2 i u) F.entry_int_rmul (F.args_int_rmul_2 _ _) (int___rmul___int_list i u _ vs.toArray 0)
      ⟨hl, rfl, ⟨_, hl, rfl⟩, call_meets F.slot_list_mul ⟨_, hl, rfl⟩ F.entry_list_mul (F.args_list_mul_2 _ _)
        (AutoListH.list___mul___list_int_3 _ vs.toArray 0 i u (by simp [Builtin.List.listFitsIndex]; (first | lia | omega)) (by rw [List.size_toArray, hlen]; (first | lia | omega)) (by simp only [Builtin.List.listTooLong, sizeLine_eq, List.size_toArray, hlen]; simp; (first | lia | omega)))
        ⟨hl, ?_⟩⟩)
  rw [hemp]
  simp only [Bool.false_eq_true, if_false]
  have hitems : IsL X W2 (List.foldl (fun x1 x2 => x1 ++ x2) #[] (List.replicate i.toNat vs.toArray)).toList (repL i bs) := by
    rw [foldl_app]; simpa [repL] using (i1.mono (le.trans l2)).rep i.toNat
  rcases hq with hq | hq
  · obtain ⟨le3, r4⟩ := r3.newZ { cls := .type "list", data := .seq (List.foldl (fun x1 x2 => x1 ++ x2) #[] (List.replicate i.toNat vs.toArray)) }
    refine ⟨_, .lst (repL i bs), h2, ((l1.trans le).trans l2).trans le3, ?_, r4, hq⟩
    simp only [Is]
    exact ⟨_, _, _, _, rfl, Wd.froze_self, rfl, rfl, hitems.mono le3⟩
  · have r4 := r3.new (o := { cls := .type "list", data := .seq (List.foldl (fun x1 x2 => x1 ++ x2) #[] (List.replicate i.toNat vs.toArray)) }) (ao := .list (repL i bs)) ⟨_, _, Heap.get?_push_size _ rfl, hitems⟩
    exact ⟨W2, .ref _, _, (l1.trans le).trans l2, is_ref, r4, hq _⟩

noncomputable def revS (x : Str) : Str := ⟨x.cps.reverse⟩
theorem picked_rev_eq (x : Str) (u : Tok) : (⟨((slicePicked x none none (some ((-1 : Int), u))).filterMap (x.cps[·]?)).toArray⟩ : Str) = revS x := by
  unfold slicePicked revS
  show (⟨((PySem.Builtin.Str.strSliceIndices none none (-1) x.length).filterMap (x.cps[·]?)).toArray⟩ : Str) = _
  rw [picked_rev]
  congr 1
  apply Array.ext'
  rw [Array.toList_reverse]
  apply List.ext_getElem?
  intro i
  have e1 : ((List.range x.length).map fun k => x.length - 1 - k).filterMap (x.cps[·]?) = (List.range x.length).map fun k => x.cps.getD (x.length - 1 - k) 0 := by
    rw [filterMap_get, List.map_map]
    · rfl
    · intro i hi
      refine Classical.byContradiction fun hno => ?_
      obtain ⟨k, hk, rfl⟩ := List.mem_map.mp hi
      refine hno ?_
      clear hno
      have hk' : k < x.length := List.mem_range.mp hk
      show x.length - 1 - k < x.cps.size
      exact Nat.lt_of_le_of_lt (Nat.sub_le _ _) (Nat.sub_one_lt_of_lt hk')
  have hlen : x.length = x.cps.size := rfl
  rw [List.toList_toArray, e1]
  by_cases hi : i < x.cps.size
  · rw [List.getElem?_map, List.getElem?_range (by (first | lia | omega)), List.getElem?_reverse (by simpa using hi)]
    simp only [Option.map_some, Array.length_toList, hlen]
    rw [Array.getElem?_toList, Array.getElem?_eq_getElem (by (first | lia | omega))]
    simp [Array.getD, show x.cps.size - 1 - i < x.cps.size from Nat.lt_of_le_of_lt (Nat.sub_le _ _) (Nat.sub_one_lt_of_lt hi)]
  · rw [List.getElem?_eq_none (by simp; (first | lia | omega)), List.getElem?_eq_none (by simp; (first | lia | omega))]
theorem J_SliceRev {value : Expr} {k : Nat} {p1 p2 p pos : Pos} {Q : V → HS → Prop} (h : Je X A env value hs fun a h1 => ∃ x, a = .str x ∧ x.length ≤ sizeLine ∧ Q (.str (revS x)) h1) :
    Je X A env (.Subscript value (.Slice none none (some (.UnaryOp .USub (.Constant (.int 1) k p1) p2)) p) pos) hs Q := fun B W s r =>
  Subscript_ (wpAny_mono (h B W s r) (fun va s1 q1 => by
    refine Classical.byContradiction fun hno => ?_
    obtain ⟨W1, a, h1, l1, i1, r1, x, ea, hsz, hq⟩ := q1
    refine hno ?_
    clear hno
    subst ea
    refine Classical.byContradiction fun hno => ?_
    obtain ⟨t, rfl, ht⟩ := isStr i1
    refine hno ?_
    clear hno
    refine wpAny_Slice (wpAny_pure (wpAny_pure ?_))
    have hneg : Je X A env (.UnaryOp .USub (.Constant (.int 1) k p1) p2) h1 fun v h2 => v = .int (-1) ∧ h2 = h1 := J_Unary (J_int (U_neg ⟨rfl, rfl⟩))
    show wpAny (M X) A (eval (.UnaryOp .USub (.Constant (.int 1) k p1) p2) env) _ NoE s1
    refine wpAny_mono (hneg B W1 s1 r1) (fun vn s2 q2 => ?_) fun _ _ x => x
    refine Classical.byContradiction fun hno => ?_
    obtain ⟨W2, n, h2, l2, i2, r2, e1, e2⟩ := q2
    refine hno ?_
    clear hno
    subst e1; subst e2
    obtain ⟨u, rfl⟩ := isInt i2
    have r3 := r2.push { cls := .type "slice", data := .fields #[.none, .none, .int (-1) u] }
    refine tail_any (typeIs_str _ x t) F.slot_str_getitem.lookup ?_ rfl
    refine wpAny_getItem_str_slice (l := none) (u := none) (st := some ((-1 : Int), u)) ⟨_, Heap.get?_push_size _ rfl, rfl, rfl⟩ rfl ?_
    unfold sliceMade
    rw [if_neg (by simp), picked_rev_eq]
    refine ⟨?_, ?_⟩
    · show (x.cps.reverse).size ≤ sizeLine
      rw [Array.size_reverse]; exact hsz
    · refine Classical.byContradiction fun hno => ?_
      obtain ⟨le, i3, r4⟩ := r3.say (revS x) (Nat.lt_succ_self _)
      refine hno ?_
      clear hno
      exact ⟨_, _, _, (l1.trans l2).trans le, i3, r4, hq⟩) fun _ _ x => x)

noncomputable def octs (b : List UInt8) : List V := b.map fun c => .int c.toNat
theorem Itr.bytes {I : Addr} {b : List UInt8} {t : Tok} : Itr X [I] I false fun r W h => ∃ i, PySem.W.KBw.IsBytesIter h I b.toArray t i ∧ r = (octs b).drop i where
  has := fun q3 a ha => by obtain ⟨i, ⟨o, h, _⟩, _⟩ := q3; rw [List.mem_singleton.mp ha]; exact ⟨o, h⟩
  frame := fun q4 le hk => by refine Classical.byContradiction fun hno => ?_; obtain ⟨i, ⟨o, ho, r⟩, h2⟩ := q4; exact hno (⟨i, ⟨o, hk I (by simp) o ho, r⟩, h2⟩)
  next := fun {A B W hs s v r} target hh _ rel out ⟨i, h1, h2⟩ => by
    refine Classical.byContradiction fun hno => ?_
    obtain ⟨hv, hdr, hlt⟩ := drop_cons h2.symm
    refine hno ?_
    clear hno
    have hlt' : i < b.length := by simpa [octs] using hlt
    have ev : v = .int (b[i]'hlt').toNat := by
      simp only [octs, List.getElem?_map, List.getElem?_eq_getElem hlt', Option.map_some, Option.some.injEq] at hv
      exact hv.symm
    subst ev
    refine PySem.W.KBw.next_item h1 (c := b[i]'hlt') (by simp [hlt']) fun h' hit hsb => ⟨_, rfl, ?_⟩
    exact go_other (s := { s with heap := h', toks := s.toks + 1 }) (T := "bytes_iterator") (let ⟨o, ho, hc, hd⟩ := hit; ⟨o, ho, hc, by decide⟩) target _ ⟨W, .refl _, is_int, rel.others out (fun b p hb e => hsb.extBut b p (fun q => hb (by rw [q]; repeat' first | exact List.Mem.head _ | apply List.Mem.tail)) e) (Nat.le_succ _), out, i + 1, hit, hdr.symm⟩
  stop := fun {A B W hs s} hh rel out ⟨i, h1, h2⟩ => by
    have : b.length ≤ i := by simpa [octs] using drop_nil h2.symm
    exact PySem.W.KBw.next_end hh h1 (by simp; (first | lia | omega)) fun h' he => ⟨rfl, rel.others (tk := s.toks) out (fun b p hb e => he b p (fun q => hb (by rw [q]; repeat' first | exact List.Mem.head _ | apply List.Mem.tail)) e) (Nat.le_refl _)⟩
  self := fun q5 hq => by refine Classical.byContradiction fun hno => ?_; obtain ⟨i, h1, _⟩ := q5; exact hno (PySem.W.KBw.pyIter_self h1 hq)
theorem Itb_bytes {b : List UInt8} : Itb X A false (.bytes b) (octs b) := fun B W hs s va r hv => by
  obtain ⟨t, rfl⟩ := isBytes hv
  refine PySem.W.KBw.pyIter_bytes ⟨W, [s.heap.objs.size], _, _, .refl _, rfl, Itr.bytes (b := b) (t := t), r.push _, fun a ha => ?_, 0, ⟨_, Heap.get?_push_size _ rfl, rfl, rfl⟩, rfl⟩
  rw [List.mem_singleton.mp ha]; exact r.none_size
theorem N_len_bytes {b : List UInt8} {Q : V → HS → Prop} (hf : b.length ≤ 2 ^ 30) (h : Q (.int b.length) hs) : JC X A (.bi "len") [.bytes b] hs Q := JC_1 fun B W s vf va r hf' ha => by
  cases isBi hf'
  obtain ⟨t, rfl⟩ := isBytes ha
  exact PySem.W.len_bytes (by simp; (first | lia | omega)) (by simpa using ans_int (t := s.toks + 1) r h (Nat.le_succ_of_le (Nat.le_succ _)))
theorem G_bytes {b : List UInt8} {i : Int} {c : UInt8} {Q : V → HS → Prop} (hf : b.length ≤ 2 ^ 30) (h0 : 0 ≤ i) (hc : b[i.toNat]? = some c) (h : Q (.int c.toNat) hs) : Jgi X A (.bytes b) (.int i) hs Q := fun B W s va vb r ha hi => by
  obtain ⟨t, rfl⟩ := isBytes ha
  obtain ⟨u, rfl⟩ := isInt hi
  have hlt := (List.getElem?_eq_some_iff.mp hc).1
  have e : (b.getD i.toNat 0) = c := by rw [List.getD_eq_getElem?_getD, hc]; rfl
  refine PySem.W.getItem_bytes (by (first | lia | omega)) h0 (by (first | lia | omega)) ?_
  rw [e]
  exact ans_int r h
theorem Sl_bytes {b : List UInt8} {lo hi : Option Int} {Q : V → HS → Prop} (hsz : b.length ≤ 2 ^ 20) (h : Q (.bytes (cutL b lo hi)) hs) : Jsl X A (.bytes b) (optI lo) (optI hi) hs Q := fun B W s va vl vu sl r ha hl hu hsl => by
  obtain ⟨t, rfl⟩ := isBytes ha
  have hs := sizeLine_eq
  have hpk : PySem.W.KBy.picked b.toArray lo hi = (cutL b lo hi).toArray := by
    rw [PySem.W.KBc.picked_eq, cutL, List.drop_take]
    simp
  have main : wpAny (M X) A (getItem (.bytes b.toArray t) (.ref sl)) (fun v s' => ∃ t' k, v = .bytes (PySem.W.KBy.picked b.toArray lo hi) t' ∧ s' = { s with toks := k }) NoE s :=
    getItem_meets (PySem.W.typeIs_bytes _ _ _) (by decide) PySem.W.FB.slot_bytes_getitem PySem.W.FB.entry_bytes_getitem (PySem.W.FB.args_bytes_getitem_2 _ _) (PySem.W.KBc.meets_slice2 b.toArray t sl (isPart hl) (isPart hu))
      ⟨⟨_, hsl, rfl, rfl⟩, Nat.le_trans (PySem.W.KBc.size_picked_le _ lo hi) (by simp; (first | lia | omega)), fun t' k => ⟨t', k, rfl, rfl⟩⟩
  refine wpAny_mono (wpAny_toks main) ?_ (fun _ _ x => x.2)
  rintro v s' ⟨ht, t', k, rfl, rfl⟩
  exact .here (b := .bytes (cutL b lo hi)) (by simp only [Is]; exact ⟨t', by rw [hpk]⟩) (r.toks ht) h
noncomputable def bytesOf (ns : List Int) : List UInt8 := ns.map fun n => n.toNat.toUInt8
theorem ints_are {W : Wd} : ∀ {ws : List Value} {ns : List Int}, IsL X W ws (intsOf ns) → IntsAre ws ns
  | ws, [], h => by simp only [intsOf, List.map_nil, IsL] at h; subst h; exact .nil
  | ws, n :: ns, h => by
    simp only [intsOf, List.map_cons, IsL] at h
    refine Classical.byContradiction fun hno => ?_
    obtain ⟨w, r, rfl, h1, h2⟩ := h
    refine hno ?_
    clear hno
    obtain ⟨t, rfl⟩ := isInt h1
    exact .cons n t (ints_are h2)
theorem N_bytes_ints {ns : List Int} {Q : V → HS → Prop} (hh : A.handled = none) (hr : ∀ n ∈ ns, 0 ≤ n ∧ n < 256) (hz : ns.length ≤ 2 ^ 20) (h : Q (.bytes (bytesOf ns)) hs) : JC X A (.type "bytes") [.lst (intsOf ns)] hs Q := JC_1 fun B W s vf va r hf' ha => by
  cases isTy hf'
  refine Classical.byContradiction fun hno => ?_
  obtain ⟨l, ws, rfl, hl, hi⟩ := IsList.of_lst r ha
  refine hno ?_
  clear hno
  have hlen := hi.length
  have hsl := sizeLine_eq
  have hl' : s.heap.IsList l ws.toList.toArray := by simpa using hl
  have main : wpAny (M X) A (call (.type "bytes") [.ref l]) (fun v s' => ∃ h' t k, (∀ b o, s.heap.get? b = some o → h'.get? b = some o) ∧ v = .bytes (byteArr ns) t ∧ s' = { s with heap := h', toks := k }) NoE s :=
    call_bytes_ints hl' (ints_are hi) hr (by simp [intsOf] at hlen ⊢; (first | lia | omega)) hh fun h' t k hk => ⟨h', t, k, hk, rfl, rfl⟩
  refine wpAny_mono (wpAny_toks main) ?_ (fun _ _ x => x.2)
  rintro v s' ⟨ht, h', t, k, hk, rfl, rfl⟩
  exact .here (b := .bytes (bytesOf ns)) (by simp only [Is]; exact ⟨t, rfl⟩) (r.keeps hk ht) h
theorem N_isi_bytes {b : List UInt8} {Q : V → HS → Prop} (h : Q (.bool true) hs) : JC X A (.bi "isinstance") [.bytes b, .type "bytes"] hs Q := JC_2 fun B W s vf va vb r hf' ha hb => by
  cases isBi hf'
  obtain ⟨t, rfl⟩ := isBytes ha
  cases isTy hb
  exact call_isinstance (isinstance_true (Tx := "bytes") F.isi_meta_bytes F.sub_bytes_bytes) ⟨rfl, ans_bool r h⟩

noncomputable def NoDct (X : Fx) (hs : HS) (a : V) : Prop := ∀ B W s va, Rel X B W hs s → Is X W va a → ∀ b, va = .ref b → ∃ ob, s.heap.get? b = some ob ∧ ob.dict = none
theorem NoDct.int {i : Int} : NoDct X hs (.int i) := fun B W s va r h b e => by obtain ⟨t, rfl⟩ := isInt h; cases e
theorem NoDct.str {x : Str} : NoDct X hs (.str x) := fun B W s va r h b e => by obtain ⟨t, rfl, _⟩ := isStr h; cases e
theorem NoDct.list {a : Addr} {vs : List V} (hm : (a, AO.list vs) ∈ hs) : NoDct X hs (.ref a) := fun B W s va r h b e => by
  cases isRef h; cases e
  refine Classical.byContradiction fun hno => ?_
  obtain ⟨ws, n, h1, _⟩ := r.objs _ _ hm
  refine hno ?_
  clear hno
  exact ⟨_, h1, rfl⟩
theorem TyAt.int {i : Int} : TyAt X hs (.int i) "int" := fun B W s va r h => by obtain ⟨t, rfl⟩ := isInt h; exact typeIs_int s i t
structure Meth (T : String) (name : Str) (id : String) : Prop where
  pa : PlainAttrs T
  slot : Slot T name id
  hty : typeOf (.builtin id) = pure (.type "method_descriptor")
theorem meth_bit_length : Meth "int" "bit_length" "int.bit_length" := ⟨F.plainAttrs_int, PyProof.Rows.slot_int_bit_length, PyProof.Rows.type_int_bit_length⟩
theorem meth_append : Meth "list" "append" "list.append" := ⟨F.plainAttrs_list, slot_list_append, type_list_append⟩
theorem meth_reverse : Meth "list" "reverse" "list.reverse" := ⟨F.plainAttrs_list, F.slot_list_reverse, F.type_list_reverse⟩
theorem meth_join : Meth "str" "join" "str.join" := ⟨F.plainAttrs_str, F.slot_str_join, F.type_str_join⟩
theorem J_Meth0 {o : Expr} {name : Str} {apos pos : Pos} {T id : String} {Q : V → HS → Prop} (m : Meth T name id) (h : Je X A env o hs fun a h1 => TyAt X h1 a T ∧ NoDct X h1 a ∧ JC X A (.bi id) [a] h1 Q)
    (hbase : attributeBase o name env (eval o env) = eval o env := by rfl) (hline : (apos.endLine == pos.line) = true := by rfl) : Je X A env (.Call (.Attribute o name apos) [] [] pos) hs Q := fun B W s r =>
  wpAny_Call_method hbase rfl hline m.pa m.slot m.hty (wpAny_mono (h B W s r) (fun va s1 ⟨W1, a, h1, l1, i1, r1, k1, k2, k3⟩ => ⟨k1 B W1 s1 va r1 i1, k2 B W1 s1 va r1 i1,
    callWith_method0 (wpAny_mono (k3 B W1 s1 (.builtin id) [va] r1 (by simp only [Is]) (IsL.cons i1 IsL.nil)) (fun _ _ p => p.le l1) fun _ _ x => x)⟩) fun _ _ x => x)
theorem J_Meth1 {o e : Expr} {name : Str} {apos pos : Pos} {T id : String} {Q : V → HS → Prop} (m : Meth T name id) (h : Je X A env o hs fun a h1 => TyAt X h1 a T ∧ NoDct X h1 a ∧ Je X A env e h1 fun b h2 => JC X A (.bi id) [a, b] h2 Q)
    (hbase : attributeBase o name env (eval o env) = eval o env := by rfl) (hline : (apos.endLine == pos.line) = true := by rfl) (he : starEach [e] env = [(false, eval e env)] := by rfl)
    (hfew : ((backTo pos (starEach [e] env)).all (fun x => !x.1) && (backToKw pos (keywordEach [] env)).all (fun x => x.1.isSome) && decide ([e].length + ([] : List Keyword).length + (if ([] : List Keyword).isEmpty then 0 else 1) < 30)) = true := by rfl) :
    Je X A env (.Call (.Attribute o name apos) [e] [] pos) hs Q := fun B W s r =>
  wpAny_Call_method hbase hfew hline m.pa m.slot m.hty (wpAny_mono (h B W s r) (fun va s1 ⟨W1, a, h1, l1, i1, r1, k1, k2, k3⟩ => ⟨k1 B W1 s1 va r1 i1, k2 B W1 s1 va r1 i1,
    callWith_method1 (wpAny_items_cons (wpAny_mono (k3 B W1 s1 r1) (fun vb s2 p0 => p0.elim fun W2 b h2 l2 i2 r2 k4 => wpAny_items_nil
      (wpAny_mono (k4 B W2 s2 (.builtin id) [va, vb] r2 (by simp only [Is]) (IsL.cons (i1.mono l2) (IsL.cons i2 IsL.nil))) (fun _ _ p => p.le (l1.trans l2)) fun _ _ x => x)) fun _ _ x => x) (by rw [he]; rfl)) (by rw [he]; rfl)⟩) fun _ _ x => x)
theorem N_bit_length {i : Int} {Q : V → HS → Prop} (h : Q (.int (Builtin.Int.intBits i)) hs) : JC X A (.bi "int.bit_length") [.int i] hs Q := JC_1 fun B W s vf va r hf' ha => by
  cases isBi hf'
  obtain ⟨t, rfl⟩ := isInt ha
  exact PyProof.Rows.call_int_bit_length (ans_int r h)
theorem N_reverse {a : Addr} {vs : List V} {hs' : HS} {Q : V → HS → Prop} (hsz : vs.length ≤ sizeLine) (u : Upd hs a (.list vs) (.list vs.reverse) hs') (h : Q .none hs') : JC X A (.bi "list.reverse") [.ref a] hs Q := JC_1 fun B W s vf va r hf ha => by
  cases isBi hf; cases isRef ha
  refine Classical.byContradiction fun hno => ?_
  obtain ⟨ws, n, ho, hi⟩ := r.objs _ _ u.mem
  refine hno ?_
  clear hno
  have e : ws.size = vs.length := by rw [← Array.length_toList]; exact hi.length
  refine call_meets F.slot_list_reverse ⟨_, ho, rfl⟩ F.entry_list_reverse (F.args_list_reverse_1 _) (AutoSeq1.list_reverse_list_0 a ws n (by (first | lia | omega))) ⟨ho, ?_⟩
  obtain ⟨n', hl⟩ := upd_seq ho fun x => x.reverse
  refine .here (b := .none) is_none (r.upd (tk := s.toks) u (Heap.SameBut.update ..) (Nat.le_refl _) ⟨_, n', hl, ?_⟩) h
  rw [Array.toList_reverse]
  exact hi.reverse
end
end
section
section
variable {X : Fx} {A : Around} {env : Env} {hs : HS}

theorem N_join {sep : Str} {xs : List Str} {Q : V → HS → Prop} (hok : JoinOk sep xs = true) (h : Q (.txt (Txt.join sep xs)) hs) : JC X A (.bi "str.join") [.str sep, .lst (xs.map .str)] hs Q := JC_2 fun B W s vf va vb r hf ha hb => by
  cases isBi hf
  refine Classical.byContradiction fun hno => ?_
  obtain ⟨t, rfl, _⟩ := isStr ha
  refine hno ?_
  clear hno
  refine Classical.byContradiction fun hno => ?_
  obtain ⟨l, ws, rfl, hl, hi⟩ := IsList.of_lst r hb
  refine hno ?_
  clear hno
  refine Classical.byContradiction fun hno => ?_
  obtain ⟨e1, e2, e3⟩ := strs_of hi
  refine hno ?_
  clear hno
  obtain ⟨ps, hps⟩ := exists_strValues ws.toList fun v hv => by obtain ⟨t, ht, _⟩ := isStr (e3 v hv); exact ⟨_, t, ht⟩
  have hx : ps.map (·.1) = xs := by
    rw [← e1, ← hps]
    simp [strValues, strOf]
  have hl' : s.heap.IsList l (strValues ps).toArray := by rw [hps]; simpa using hl
  refine wpAny_mono (wpAny_toks (SC.join (Q := fun v s' => ∃ t' k, v = .str (Txt.join sep xs) t' ∧ s' = { s with toks := k }) hl' hx hok fun t' k => ⟨t', k, rfl, rfl⟩)) ?_ (fun _ _ x => x.2)
  rintro v s' ⟨ht, t', k, rfl, rfl⟩
  exact .here (b := .txt (Txt.join sep xs)) (by simp only [Is]; exact ⟨t', rfl⟩) (r.toks ht) h

theorem C_is {x y : Str} {Q : V → HS → Prop} (T : Base X) (h : ∀ b : Bool, (b = true → x = y) → Q (.bool b) hs) : Jc X A .Is (.str x) (.str y) hs Q := fun B W s va vb r ha hb => by
  refine Classical.byContradiction fun hno => ?_
  obtain ⟨t, rfl, ht0, ht⟩ := isStr ha
  refine hno ?_
  clear hno
  refine Classical.byContradiction fun hno => ?_
  obtain ⟨u, rfl, hu0, hu⟩ := isStr hb
  refine hno ?_
  clear hno
  show wpAny _ _ (isSame (.str x t) (.str y u) >>= fun b => pure (Value.bool b)) _ _ s
  refine wpAny_bind ?_
  show wpAny _ _ (isSame.created (x == y) t u) _ _ s
  unfold isSame.created
  have e0 : (t == 0 || u == 0) = false := by simp [ht0, hu0]
  simp only [e0, Bool.false_eq_true, if_false]
  have hb' : NoneBooked s.heap := by
    refine Classical.byContradiction fun hno => ?_
    obtain ⟨mc, h1, h2⟩ := T.booked
    refine hno ?_
    clear hno
    exact ⟨mc, h1.keeps r.hbk, h2⟩
  by_cases htu : t = u
  · subst htu
    have exy : x = y := by rw [ht] at hu; exact Option.some.inj hu
    simp only [beq_self_eq_true, if_true]
    exact wpAny_pure (wpAny_pure (ans_bool r (h true fun _ => exy)))
  · have e1 : (t == u) = false := by simpa using htu
    simp only [e1, Bool.false_eq_true, if_false]
    by_cases hxy : x = y
    · have e2 : (x == y) = true := by simpa using hxy
      simp only [e2, Bool.not_true, Bool.false_eq_true, if_false]
      refine wpAny_bind (wpAny_sharingNotTold_none hb' ?_)
      simp only [Bool.false_eq_true, if_false]
      refine wpAny_bind (wpAny_sharingNotTold_none hb' ?_)
      simp only [Bool.false_eq_true, if_false]
      refine wpAny_bind (wpAny_rule ?_)
      exact wpAny_bind (wpAny_askSetting (wpAny_pure (wpAny_pure (ans_bool r (h _ fun _ => hxy)))))
    · have e2 : (x == y) = false := by simpa using hxy
      simp only [e2, Bool.not_false, if_true]
      exact wpAny_pure (wpAny_pure (ans_bool r (h false fun e => by cases e)))
theorem C_eqt {x y : Str} {Q : V → HS → Prop} (h : Q (.bool (x == y)) hs) : Jc X A .Eq (.txt x) (.str y) hs Q := fun B W s va vb r ha hb => by
  obtain ⟨t, rfl⟩ := isTxt ha; obtain ⟨u, rfl, _⟩ := isStr hb; exact PyProof.Rows.eq_str (ans_bool r h)

theorem J_tCmp2 {op1 op2 : CmpOp} {l r1 r2 : Expr} {pos : Pos} {Q : Bool → HS → Prop}
    (h : Je X A env l hs fun a h1 => Je X A env r1 h1 fun b h2 => Jc X A op1 a b h2 fun c h3 => Jtr X A c h3 fun t h4 => if t then (Je X A env r2 h4 fun d h5 => Jc X A op2 b d h5 fun e h6 => Jtr X A e h6 Q) else Q false h4)
    (hm : lastMarks [op1, op2] [r1, r2] = false := by with_unfolding_all rfl) : Jt X A env (.Compare l [op1, op2] [r1, r2] pos) hs Q := fun B W s rel =>
  isTrue_chain (hm := hm) (wpAny_mono (h B W s rel) (fun va s1 p0 => p0.elim fun W1 a h1 l1 i1 q1 k1 => test_link (wpAny_mono (k1 B W1 s1 q1) (fun vb s2 p0 => p0.elim fun W2 b h2 l2 i2 q2 k2 =>
    wpAny_mono (k2 B W2 s2 va vb q2 (i1.mono l2) i2) (fun vc s3 p0 => p0.elim fun W3 c h3 l3 i3 q3 k3 => wpAny_mono (k3 B W3 s3 vc q3 i3) (fun t s4 p0 => p0.elim fun W4 t' h4 l4 i4 q4 k4 => by
      cases i4
      cases t with
      | false => exact ⟨W4, false, h4, ((l1.trans l2).trans l3).trans l4, rfl, q4, k4⟩
      | true => exact test_last (wpAny_mono (k4 B W4 s4 q4) (fun vd s5 p0 => p0.elim fun W5 d h5 l5 i5 q5 k5 => wpAny_mono (k5 B W5 s5 vb vd q5 (i2.mono ((l3.trans l4).trans l5)) i5) (fun ve s6 p0 => p0.elim fun W6 e h6 l6 i6 q6 k6 =>
          wpAny_mono (k6 B W6 s6 ve q6 i6) (fun _ _ p => p.le (((((l1.trans l2).trans l3).trans l4).trans l5).trans l6)) fun _ _ x => x) fun _ _ x => x) fun _ _ x => x))
      fun _ _ x => x) fun _ _ x => x) fun _ _ x => x)) fun _ _ x => x)

theorem J_Expr {e : Expr} {pos : Pos} {Q : Fl → HS → Prop} (h : Je X A env e hs fun _ h1 => Q .next h1) (hi : interactive env = false := by with_unfolding_all rfl) (hs' : swapsWith e none pos.line env = pure false := by with_unfolding_all rfl) : Js X A env (.Expr e pos) hs Q := fun B W s r =>
  wpAny_Expr_any (wpAny_mono (h B W s r) (fun v s1 p0 => p0.elim fun W1 a h1 l1 i1 r1 k1 => ⟨W1, .next, h1, l1, trivial, r1, k1⟩) fun _ _ x => x) hi hs'

theorem J_While {test : Expr} {body : List Stmt} {pos : Pos} {Q : Fl → HS → Prop} (I : Nat → HS → Prop)
    (turn : ∀ n h, I n h → Jt X A env test h fun b h1 => if b then Jx X A env body h1 fun f h2 => match f with
      | .next => ∃ m, m < n ∧ I m h2
      | .cont => ∃ m, m < n ∧ I m h2
      | .brk => Q .next h2
      | .ret v => Q (.ret v) h2 else Q .next h1) (n : Nat) (h : I n hs) : Js X A env (.While test body [] pos) hs Q := fun B W s r => by
  refine wpAny_While (codeAny_whileLoop (fun n s' => ∃ W' h', W.le W' ∧ Rel X B W' h' s' ∧ I n h') (fun n s' q6 => ?_) n ⟨W, hs, .refl _, r, h⟩)
  refine Classical.byContradiction fun hno => ?_
  obtain ⟨W', h', l, r', i⟩ := q6
  refine hno ?_
  clear hno
  refine wpAny_mono (turn n h' i B W' s' r') (fun b s2 p0 => p0.elim fun W2 b' h2 l2 i2 r2 k2 => ?_) fun _ _ x => x.elim
  cases i2
  cases b with
  | true =>
    refine wpAny_mono (k2 B W2 s2 r2) (fun f s3 p0 => p0.elim fun W3 f' h3 l3 i3 r3 k3 => ?_) fun _ _ x => x.elim
    have le := (l.trans l2).trans l3
    cases f <;> cases f' <;> first
      | exact i3.elim
      | (obtain ⟨m, hm, hi⟩ := k3; exact ⟨m, hm, W3, h3, le, r3, hi⟩)
      | exact ⟨W3, .next, h3, le, trivial, r3, k3⟩
      | exact ⟨W3, _, h3, le, i3, r3, k3⟩
  | false => exact wpAny_execs_nil ⟨W2, .next, h2, l.trans l2, trivial, r2, k2⟩

noncomputable def JstL (X : Fx) (A : Around) (env : Env) : List Str → List V → HS → (HS → Prop) → Prop
  | [], [], hs, Q => Q hs
  | x :: xs, b :: bs, hs, Q => Jst X A env x b hs fun h1 => JstL X A env xs bs h1 Q
  | _, _, _, _ => False
theorem JstL.run : ∀ {xs : List Str} {bs : List V} {hs : HS} {Q : HS → Prop} (h : JstL X A env xs bs hs Q) {B : Addr → Option Obj} {W : Wd} {s : Shared} {vs : List Value}, Rel X B W hs s → IsL X W vs bs →
    wpAny (M X) A (assignInOrder (xs.map fun n => bindName env n) vs) (Post X B W Same fun (_ : Unit) h => Q h) NoE s
  | [], [], hs, Q, h, B, W, s, vs, r, hv => by
    simp only [IsL] at hv; subst hv
    exact wpAny_pure (.here (b := ()) rfl r h)
  | x :: xs, b :: bs, hs, Q, h, B, W, s, vs, r, hv => by
    simp only [IsL] at hv
    refine Classical.byContradiction fun hno => ?_
    obtain ⟨w, r', rfl, h1, h2⟩ := hv
    refine hno ?_
    clear hno
    refine wpAny_bind (wpAny_holding (bindName_ (wpAny_mono (h B W s w r h1) (fun _ s1 p0 => p0.elim fun W1 _ hs1 l1 _ r1 k1 => ?_) fun _ _ x => x)))
    exact wpAny_mono (JstL.run k1 r1 (h2.mono l1)) (fun _ _ p => p.le l1) fun _ _ x => x
  | [], _ :: _, _, _, h, _, _, _, _, _, _ => h.elim
  | _ :: _, [], _, _, h, _, _, _, _, _, _ => h.elim
theorem J_Assign_TupSw {elts : List Expr} {k : Nat} {tpos : Pos} {value : Expr} {pos : Pos} {names : List Str} {Q : Fl → HS → Prop} (hh : A.handled = none) (h : Je X A env value hs fun b h1 => ∃ bs, b = .tup bs ∧ names.length = bs.length ∧ JstL X A env names.reverse bs.reverse h1 fun h2 => Q .next h2)
    (hs' : swapsWithSole [.Tuple elts k tpos] value pos.line env = pure false := by rfl) (hw : swappedStores [.Tuple elts k tpos] value env = pure (some names) := by rfl) : Js X A env (.Assign [.Tuple elts k tpos] value pos) hs Q := fun B W s r =>
  Assign_Tuple_swapped (wpAny_mono (h B W s r) (fun v s1 q0 => by
    refine Classical.byContradiction fun hno => ?_
    obtain ⟨W1, b, h1, l1, i1, r1, bs, eb, hl, k1⟩ := q0
    refine hno ?_
    clear hno
    subst eb
    refine Classical.byContradiction fun hno => ?_
    obtain ⟨a, o, ws, n, rfl, e1, e2, e3, e4⟩ := isTup i1
    refine hno ?_
    clear hno
    have hg := r1.froz _ _ e1
    have hsz : names.length = ws.size := by rw [hl, ← e4.length, Array.length_toList]
    rw [hsz]
    refine unpackItems_tuple hh ⟨o, hg, e2, n, e3⟩ fun h' he => ?_
    have n0 := r1.none_size
    have r2 : Rel X B W1 h1 { s1 with heap := h' } := r1.other (a := s1.heap.objs.size) (tk := s1.toks) n0.1 n0.2.1 n0.2.2 he (Nat.le_refl _)
    exact wpAny_mono (JstL.run k1 r2 e4.reverse) (fun _ s3 p0 => p0.elim fun W3 _ h3 l3 _ r3 k3 => ⟨W3, .next, h3, l1.trans l3, trivial, r3, k3⟩) fun _ _ x => x) fun _ _ x => x) hs' hw

theorem Rel.consX {B : Addr → Option Obj} {W : Wd} {rest : HS} {s : Shared} {a : Addr} {ao : AO} (r : Rel X B W rest s) (ho : ObjR X W s.heap a ao) (hB : B a = none) (hZ : W.Z a = none) (hh : ∀ p, (a, p) ∉ rest) : Rel X B W ((a, ao) :: rest) s :=
  { r with
    objs := fun b p hm => by
      rcases List.mem_cons.mp hm with e | hm
      · cases e; exact ho
      · exact r.objs b p hm
    nodup := List.pairwise_cons.mpr ⟨fun q hq e => hh q.2 (by rw [show a = q.1 from e]; exact hq), r.nodup⟩
    apB := fun b p hm => by
      rcases List.mem_cons.mp hm with e | hm
      · cases e; exact hB
      · exact r.apB b p hm
    apZ := fun b p hm => by
      rcases List.mem_cons.mp hm with e | hm
      · cases e; exact hZ
      · exact r.apZ b p hm }
theorem J_FunDef {name : Str} {params : Arguments} {body : List Stmt} {scope : Scope} {pos : Pos} {c P : Addr} {d : Def} {clos : List (Str × Addr)} {rest : HS} {Q : Fl → HS → Prop} (T : Base X)
    (hge : env.globals = mainGlobals) (hcode : env.code = .ref c) (C : PySem.W.CodeHd X.hb c P) (hcl : closureFor scope env = pure clos) (hd : X.nested (qualnameIn env name name) = some d) (ed : d = ⟨name, params, body, scope⟩)
    (hm : hs.Perm ((P, .tab pos (qualnameIn env name name)) :: rest)) (h : Jst X A env name (.clo (qualnameIn env name name) clos) ((P, .tab pos (qualnameIn env name name)) :: rest) fun h1 => Q .next h1)
    (hd0 : params.defaults = [] := by rfl) (hk0 : params.kw_defaults = [] := by rfl) (ha : annTrees params none env = [] := by rfl) : Js X A env (.FunctionDef name params body [] none [] scope none name pos) hs Q := fun B W s r0 => by
  subst ed
  have r := r0.perm hm
  refine Classical.byContradiction fun hno => ?_
  obtain ⟨bm, ob, b1, b2, b3, b4, b5, b6⟩ := T.bmain
  refine hno ?_
  clear hno
  have hg := T.g.keeps r.hbk
  refine Classical.byContradiction fun hno => ?_
  obtain ⟨ps, hP, hps⟩ := r.objs _ _ List.mem_cons_self
  refine hno ?_
  clear hno
  have hB := r.apB _ _ List.mem_cons_self
  have notP : ∀ b o, X.hb.get? b = some o → b ≠ P := fun b o e q => by
    have := r.hb _ _ e
    rw [q, hB] at this; cases this
  have hbG : bm ≠ mainGlobals := fun q => by
    refine Classical.byContradiction fun hno => ?_
    obtain ⟨o, es, ep, e, hd, _⟩ := T.g
    refine hno ?_
    clear hno
    rw [q, e] at b3; cases b3; rw [hd] at b6; cases b6
  have hgP : mainGlobals ≠ P := by obtain ⟨o, es, ep, e, _⟩ := T.g; exact notP _ _ e
  have hbat : s.heap.BuiltinsAt X.mg P := ⟨bm, ob, b1, b2, hbG, notP _ _ b3, r.hbk _ _ b3, b4, b5, b6⟩
  have Cs := C.keeps r.hbk
  refine PySem.W.nestDef_K hd0 hk0 ha ?_
  generalize hqn : qualnameIn env name name = qn at *
  have store : ∀ W1 s1 v, W.le W1 → Rel X B W1 ((P, .tab pos qn) :: rest) s1 → Is X W1 v (.clo qn clos) → wpAny (M X) A (storeName env name v) (fun _ s'' => Post X B W (FlR X) Q .next s'') NoE s1 := fun W1 s1 v l1 r1 i1 =>
    wpAny_mono (h B W1 s1 v r1 i1) (fun _ s2 p0 => p0.elim fun W2 _ h2 l2 _ r2 k2 => ⟨W2, .next, h2, l1.trans l2, trivial, r2, k2⟩) fun _ _ x => x
  have hZ := r.apZ _ _ List.mem_cons_self
  have hnd := List.pairwise_cons.mp r.nodup
  have hnot : ∀ p, (P, p) ∉ rest := fun p hp => hnd.1 _ hp rfl
  have rrest := r.sub (List.sublist_cons_self _ _)
  have hPlt : P < s.heap.objs.size := Heap.lt_size hP
  -- the function laid upon the heap
  have fin : ∀ (h' : Heap) (tk : Tok) (c' : Addr) (oc : Obj) (vs : Array Value) (t : Tok) (doc pm ctv : Value) (ps' : Array Value) (W0 : Wd), W.le W0 → Rel X B W0 rest { s with heap := h', toks := tk } → W0.Z c' = some oc → oc.data = .fields vs → vs[1]? = some (.str qn t) → W0.Z P = none → P < h'.objs.size →
      h'.get? P = some (PySem.W.tabObj ps') → ps' = #[rawInt pos.line, rawInt pos.col, .ref c'] →
      wpAny (M X) A (storeName env name (.ref h'.objs.size)) (fun _ s'' => Post X B W (FlR X) Q .next s'') NoE { s with heap := h'.push { cls := .type "function", data := .func (PySem.W.fnX name qn params body scope clos .none .none doc pm none (.ref c') ctv) }, toks := tk } := fun h' tk c' oc vs t doc pm ctv ps' W0 le0 r0 z0 z1 z2 zP hlt hP' eps => by
    obtain ⟨le, r1⟩ := r0.newZ { cls := .type "function", data := .func (PySem.W.fnX name qn params body scope clos .none .none doc pm none (.ref c') ctv) }
    have hne : P ≠ h'.objs.size := Nat.ne_of_lt hlt
    refine store _ _ _ (le0.trans le) (r1.consX ⟨ps', Heap.get?_push_of_some _ hP', .inr ⟨c', oc, vs, t, eps, le.1 _ _ z0, z1, z2⟩⟩ hB ?_ hnot) ?_
    · simpa [Wd.froze, hne] using zP
    · simp only [Is]
      exact ⟨_, _, doc, pm, c', ctv, _, oc, vs, t, rfl, Wd.froze_self, hd, rfl, le.1 _ _ z0, z1, z2⟩
  rcases hps with e | ⟨c', oc, vs, t, e, e1, e2, e3⟩
  · subst e
    have main := wpAny_toks (PySem.W.makeFunction_K (M := M X) (A := A) (E := NoE) (s := s) (name := name) (qual := qn) (params := params) (body := body) (firstLine := pos.line) (mg := X.mg) (Q := fun v s' => ∃ c' ctv doc h' tk, Heap.ExtBut P s.heap h' ∧ s.heap.objs.size ≤ c' ∧ c' < h'.objs.size ∧ h'.CodeRec (.ref c') qn ∧ h'.get? P = some (PySem.W.tabObj (#[] ++ #[rawInt pos.line, rawInt pos.col, .ref c'])) ∧ v = .ref h'.objs.size ∧
      s' = { s with heap := h'.push (PySem.W.fnMade name qn params body scope clos doc ((X.mg "__name__").getD .none) c' ctv), toks := tk }) hcl hge hg hcode Cs hP trivial rfl hgP hbat fun c' ctv doc h' tk a1 a2 a3 a4 a5 => ⟨c', ctv, doc, h', tk, a1, a2, a3, a4, a5, rfl, rfl⟩)
    refine wpAny_mono main ?_ (fun _ _ x => x.2)
    rintro v s' ⟨ht, c', ctv, doc, h', tk, hx, hge', hlt, ⟨c2, oc, vs, t, ec, hoc, hdat, hv⟩, htb, rfl, rfl⟩
    cases ec
    have hcf := r.out_fresh hge'
    have r1 : Rel X B W rest { s with heap := h', toks := tk } := rrest.other (a := P) hB hZ hnot hx ht
    obtain ⟨le, r2⟩ := r1.freezeAt (a := c') hoc ⟨hcf.1, hcf.2.1, fun o hm => hcf.2.2 o (List.mem_cons_of_mem _ hm)⟩
    have hPc : P ≠ c' := Nat.ne_of_lt (Nat.lt_of_lt_of_le hPlt hge')
    exact fin h' tk c' oc vs t doc _ ctv _ _ le r2 Wd.froze_self hdat hv (by simpa [Wd.froze, hPc] using hZ) (Heap.lt_size htb) htb (by simp)
  · subst e
    have hcm : codeAmong pos (#[rawInt pos.line, rawInt pos.col, Value.ref c'] : Array Value).toList = some (.ref c') := by simp [codeAmong, rawInt]
    have main := wpAny_toks (PySem.W.makeFunction_hit (M := M X) (A := A) (E := NoE) (s := s) (name := name) (qual := qn) (params := params) (body := body) (firstLine := pos.line) (mg := X.mg) (Q := fun v s' => ∃ ctv doc h' tk, (∀ b o, s.heap.get? b = some o → h'.get? b = some o) ∧ s.heap.objs.size ≤ h'.objs.size ∧ v = .ref h'.objs.size ∧
      s' = { s with heap := h'.push { cls := .type "function", data := .func (PySem.W.fnX name qn params body scope clos .none .none doc ((X.mg "__name__").getD .none) none (.ref c') ctv) }, toks := tk }) hcl hge hg hcode Cs hP (by simp [TriplesOk, rawInt]) hcm hbat fun ctv doc h' tk a1 a2 => ⟨ctv, doc, h', tk, a1, a2, rfl, rfl⟩)
    refine wpAny_mono main ?_ (fun _ _ x => x.2)
    rintro v s' ⟨ht, ctv, doc, h', tk, hk, hsz, rfl, rfl⟩
    have r1 : Rel X B W rest { s with heap := h', toks := tk } := rrest.keeps hk ht
    exact fin h' tk c' oc vs t doc _ ctv _ W (.refl _) r1 e1 e2 e3 hZ (Nat.lt_of_lt_of_le hPlt hsz) (hk _ _ hP) rfl
end
end
section
noncomputable def defAt (k : Nat) : Def := match (PySem.Challenge.pw_wy0023_01.main.body)[k]? with
  | some (.FunctionDef name args body _ _ _ scope _ _ _) => ⟨name, args, body, scope⟩
  | _ => ⟨"", ⟨[], [], none, [], [], none, []⟩, [], ⟨.function, [], false, false, []⟩⟩
noncomputable def fnTab : List (Str × Nat) := [("_strcoll", 1), ("_strxfrm", 2), ("_div2n1n", 5), ("_div3n2n", 6), ("_int2digits", 7), ("_digits2int", 8), ("_divmod_pos", 9), ("int_divmod", 10), ("add", 12), ("mul", 13), ("neg", 14), ("countOf", 15), ("setitem", 16),
  ("_byteswap", 18), ("_law_cells", 20), ("_law_words", 21), ("_law_in_order", 22), ("_law_bracket", 23), ("_law_lay", 24), ("_law_read", 25), ("_law_riffles", 26), ("_law_cancelled", 27), ("_law_left", 28), ("_law_goes", 29), ("law", 30)]
noncomputable def biTab : List (Str × Value) := [("len", .builtin "len"), ("sum", .builtin "sum"), ("max", .builtin "max"), ("abs", .builtin "abs"), ("ord", .builtin "ord"), ("chr", .builtin "chr"), ("divmod", .builtin "divmod"), ("sorted", .builtin "sorted"), ("isinstance", .builtin "isinstance"),
  ("range", .type "range"), ("zip", .type "zip"), ("enumerate", .type "enumerate"), ("reversed", .type "reversed"), ("bytes", .type "bytes"), ("bytearray", .type "bytearray"), ("bool", .type "bool"), ("str", .type "str"), ("ZeroDivisionError", .type "ZeroDivisionError")]

structure Prog (X : Fx) : Prop where
  T : Base X
  fn : ∀ x k, fnTab.lookup x = some k → FnIs X (defAt k) ∧ (defAt k).name = x
  bi : ∀ x v, biTab.lookup x = some v → X.mg x = none ∧ bootBuiltins x = some v
  lim : ∃ t, X.mg "_DIV_LIMIT" = some (.int 4000 t)

section
variable {X : Fx} {A : Around} {env : Env} {hs : HS}

theorem J_fn {x : Str} {pos : Pos} {k : Nat} {Q : V → HS → Prop} (G : Prog X) (hk : env.scope.kind = .function) (hl : env.kindOf x = some .globalImplicit) (hg : env.globals = mainGlobals) (ht : fnTab.lookup x = some k) (h : Q (.fn x) hs) (hd : (x == ("__debug__" : Str)) = false) : Je X A env (.Name x pos) hs Q := by
  obtain ⟨F, e⟩ := G.fn x k ht
  obtain ⟨a, ha⟩ := F.mg
  rw [e] at ha
  exact J_Name_fn G.T hk hl hg ha h hd
theorem fnCall {x : Str} {k : Nat} (G : Prog X) (ht : fnTab.lookup x = some k) : Callable X (.fn x) := by
  obtain ⟨F, e⟩ := G.fn x k ht
  have := F.callable
  rwa [e] at this
theorem J_bi {x : Str} {pos : Pos} {id : String} {Q : V → HS → Prop} (G : Prog X) (hk : env.scope.kind = .function) (hl : env.kindOf x = some .globalImplicit) (hg : env.globals = mainGlobals) (hbn : env.builtins = builtinsNs) (ht : biTab.lookup x = some (.builtin id)) (h : Q (.bi id) hs)
    (hd : (x == ("__debug__" : Str)) = false) (hnm : x ≠ "__name__") : Je X A env (.Name x pos) hs Q :=
  J_Name_built G.T hk hl hg hbn (G.bi x _ ht).1 (G.bi x _ ht).2 (fun W => by simp only [Is]) h hd hnm
theorem J_ty {x : Str} {pos : Pos} {T : String} {Q : V → HS → Prop} (G : Prog X) (hk : env.scope.kind = .function) (hl : env.kindOf x = some .globalImplicit) (hg : env.globals = mainGlobals) (hbn : env.builtins = builtinsNs) (ht : biTab.lookup x = some (.type T)) (h : Q (.type T) hs)
    (hd : (x == ("__debug__" : Str)) = false) (hnm : x ≠ "__name__") : Je X A env (.Name x pos) hs Q :=
  J_Name_built G.T hk hl hg hbn (G.bi x _ ht).1 (G.bi x _ ht).2 (fun W => by simp only [Is]) h hd hnm
theorem J_lim {pos : Pos} {Q : V → HS → Prop} (G : Prog X) (hk : env.scope.kind = .function) (hl : env.kindOf "_DIV_LIMIT" = some .globalImplicit) (hg : env.globals = mainGlobals) (h : Q (.int 4000) hs) : Je X A env (.Name "_DIV_LIMIT" pos) hs Q := by
  obtain ⟨t, ht⟩ := G.lim
  exact J_Name_glob G.T hk hl hg ht (fun W => is_int) h (by decide)

noncomputable def coll (x y : Str) : Int := b2i (decide (y.cps.toList < x.cps.toList)) - b2i (decide (x.cps.toList < y.cps.toList))
end
end
section
section
variable {X : Fx} {A : Around} {env : Env} {hs : HS}

theorem clip_nat (k l : Nat) : (max 0 (min (k : Int) (l : Int))).toNat = min k l := by omega
theorem at_lst {vs : List V} {P : Prop} (p : P) : ∃ T, TyAt X hs (.lst vs) T ∧ HasGet T ∧ P := ⟨_, TyAt.lst, hasGet_list, p⟩
theorem at_tup {vs : List V} {P : Prop} (p : P) : ∃ T, TyAt X hs (.tup vs) T ∧ HasGet T ∧ P := ⟨_, TyAt.tup, hasGet_tuple, p⟩
theorem at_str {x : Str} {P : Prop} (p : P) : ∃ T, TyAt X hs (.str x) T ∧ HasGet T ∧ P := ⟨_, TyAt.str, hasGet_str, p⟩
theorem at_bytes {b : List UInt8} {P : Prop} (p : P) : ∃ T, TyAt X hs (.bytes b) T ∧ HasGet T ∧ P := ⟨_, TyAt.bytes, hasGet_bytes, p⟩
theorem at_dct {ks : List Str} {vs : List V} {P : Prop} (p : P) : ∃ T, TyAt X hs (.dct ks vs) T ∧ HasGet T ∧ P := ⟨_, TyAt.dct, hasGet_dict, p⟩
noncomputable def subNs (m : List (Str × V)) : List (Str × V) → Prop
  | [] => True
  | (x, b) :: r => m.lookup x = some b ∧ subNs m r
theorem subNs.get {m : List (Str × V)} : ∀ {m' : List (Str × V)}, subNs m m' → ∀ x b, m'.lookup x = some b → m.lookup x = some b
  | [], _, _, _, e => by simp at e
  | (y, c) :: r, h, x, b, e => by
    rw [lookup_cons_str] at e
    by_cases q : x = y
    · subst q; rw [if_pos rfl] at e; cases e; exact h.1
    · rw [if_neg q] at e; exact subNs.get h.2 x b e
theorem Shift.ns {L : Addr} {m m' : List (Str × V)} {hs' : HS} (u : Upd hs L (.ns m) (.ns m') hs') (h : subNs m m') : Shift X hs hs' := fun B W s r => by
  refine ⟨W, .refl W, ?_⟩
  have := r.upd (h' := s.heap) (tk := s.toks) u ⟨rfl, fun _ _ => rfl⟩ (Nat.le_refl _) (by
    refine Classical.byContradiction fun hno => ?_
    obtain ⟨mc, h1, h2⟩ := r.objs _ _ u.mem
    refine hno ?_
    clear hno
    exact ⟨mc, h1, fun x b e => h2 x b (h.get x b e)⟩)
  exact this
theorem J.ns {α β : Type} {R : Wd → α → β → Prop} {t : Sem α} {Q : β → HS → Prop} {L : Addr} {m m' : List (Str × V)} {rest : HS} (sub : subNs m m') (h : J X A R t ((L, .ns m') :: rest) Q) : J X A R t ((L, .ns m) :: rest) Q := J.shift (Shift.ns .here sub) h

theorem J.ns' {α β : Type} {R : Wd → α → β → Prop} {t : Sem α} {Q : β → HS → Prop} {L : Addr} {m m' : List (Str × V)} {hs' : HS} (u : Upd hs L (.ns m) (.ns m') hs') (sub : subNs m m') (h : J X A R t hs' Q) : J X A R t hs Q := J.shift (Shift.ns u sub) h
theorem Loop.inv {target : Expr} {body : List Stmt} {Q : Fl → HS → Prop} (I : List V → HS → Prop)
    (step : ∀ b r h, I (b :: r) h → Jas X A env target b h fun h1 => Jx X A env body h1 fun f h2 => match f with
      | .next => I r h2
      | .cont => I r h2
      | .brk => Q .next h2
      | .ret v => Q (.ret v) h2)
    (stop : ∀ h, I [] h → Q .next h) : ∀ {vs : List V} {hs : HS}, I vs hs → Loop X A env target body vs hs Q
  | [], hs, h => stop hs h
  | b :: r, hs, h => fun B W s v rel hv => wpAny_mono (step b r hs h B W s v rel hv) (fun _ s1 p0 => p0.elim fun W1 u h1 l1 i1 r1 k1 => ⟨W1, u, h1, l1, i1, r1, k1.mono fun f h2 q => by
      cases f with
      | next => exact Loop.inv I step stop q
      | cont => exact Loop.inv I step stop q
      | brk => exact q
      | ret v => exact q⟩) fun _ _ x => x

theorem Loop.invM {α : Type} {target : Expr} {body : List Stmt} {Q : Fl → HS → Prop} (g : α → V) (I : List α → HS → Prop) {xs : List α} {hs : HS}
    (step : ∀ x ∈ xs, ∀ r h, I (x :: r) h → Jas X A env target (g x) h fun h1 => Jx X A env body h1 fun f h2 => match f with
      | .next => I r h2
      | .cont => I r h2
      | .brk => Q .next h2
      | .ret v => Q (.ret v) h2)
    (stop : ∀ h, I [] h → Q .next h) (h : I xs hs) : Loop X A env target body (xs.map g) hs Q := by
  refine Loop.inv (fun r h => ∃ ys, r = ys.map g ∧ (∀ y ∈ ys, y ∈ xs) ∧ I ys h) ?_ ?_ ⟨xs, rfl, fun _ h => h, h⟩
  · rintro b r h ⟨ys, e, hm, hI⟩
    cases ys with
    | nil => cases e
    | cons y ys =>
      simp only [List.map_cons, List.cons.injEq] at e
      obtain ⟨rfl, rfl⟩ := e
      have hs := step y (hm y List.mem_cons_self) ys h hI
      intro B W s v rel hv
      exact wpAny_mono (hs B W s v rel hv) (fun _ s1 p0 => p0.elim fun W1 u h1 l1 i1 r1 k1 => ⟨W1, u, h1, l1, i1, r1, k1.mono fun f h2 q => by
        cases f with
        | next => exact ⟨ys, rfl, fun z hz => hm z (List.mem_cons_of_mem _ hz), q⟩
        | cont => exact ⟨ys, rfl, fun z hz => hm z (List.mem_cons_of_mem _ hz), q⟩
        | brk => exact q
        | ret v => exact q⟩) fun _ _ x => x
  · rintro h ⟨ys, e, hm, hI⟩
    cases ys with
    | nil => exact stop h hI
    | cons y ys => cases e
theorem Loop.invK {target : Expr} {body : List Stmt} {Q : Fl → HS → Prop} (I : List V → HS → Prop)
    (step : ∀ b r h, I (b :: r) h → ∀ K : Fl → HS → Prop, (∀ h2, I r h2 → K .next h2) → Jas X A env target b h fun h1 => Jx X A env body h1 K)
    (stop : ∀ h, I [] h → Q .next h) {vs : List V} {hs : HS} (h : I vs hs) : Loop X A env target body vs hs Q := Loop.inv I (fun b r h hI => step b r h hI _ fun _ q => q) stop h
theorem Loop.invMK {α : Type} {target : Expr} {body : List Stmt} {Q : Fl → HS → Prop} (g : α → V) (I : List α → HS → Prop) {xs : List α} {hs : HS}
    (step : ∀ x ∈ xs, ∀ r h, I (x :: r) h → ∀ K : Fl → HS → Prop, (∀ h2, I r h2 → K .next h2) → Jas X A env target (g x) h fun h1 => Jx X A env body h1 K)
    (stop : ∀ h, I [] h → Q .next h) (h : I xs hs) : Loop X A env target body (xs.map g) hs Q := Loop.invM g I (fun x hx r h hI => step x hx r h hI _ fun _ q => q) stop h
theorem Loop.invMR {α : Type} {target : Expr} {body : List Stmt} {Q : Fl → HS → Prop} (g : α → V) (I : List α → HS → Prop) {xs : List α} {hs : HS}
    (step : ∀ x ∈ xs, ∀ r h, I (x :: r) h → ∀ K : Fl → HS → Prop, (∀ h2, I r h2 → K .next h2) → (∀ v h2, Q (.ret v) h2 → K (.ret v) h2) → Jas X A env target (g x) h fun h1 => Jx X A env body h1 K)
    (stop : ∀ h, I [] h → Q .next h) (h : I xs hs) : Loop X A env target body (xs.map g) hs Q := Loop.invM g I (fun x hx r h hI => step x hx r h hI _ (fun _ q => q) fun _ _ q => q) stop h
theorem CT_flat {target : Expr} {ifs : List Expr} {inner : AO → HS → (AO → HS → Prop) → Prop} {C : Addr} {rest : HS} (base : List (Str × V)) (g : V → List V) :
    ∀ {vs : List V} {ys : List V} {m : List (Str × V)} {K : AO → HS → Prop}, (ys ++ vs.flatMap g).length ≤ sizeLine → subNs m base →
    (∀ b ∈ vs, ∀ (m : List (Str × V)) (ys : List V) (K' : AO → HS → Prop), (ys ++ g b).length ≤ sizeLine → subNs m base → (∀ m', subNs m' base → K' (.list (ys ++ g b)) ((C, .ns m') :: rest)) →
      Jas X A env target b ((C, .ns m) :: rest) fun h1 => Jifs X A env ifs h1 fun ok h2 => if ok then inner (.list ys) h2 K' else K' (.list ys) h2) →
    (∀ m', subNs m' base → K (.list (ys ++ vs.flatMap g)) ((C, .ns m') :: rest)) → CT X A env target ifs inner vs (.list ys) ((C, .ns m) :: rest) K
  | [], ys, m, K, _, hm, _, h => by
    have := h m hm
    simp only [List.flatMap_nil, List.append_nil] at this
    exact this
  | b :: r, ys, m, K, hz, hm, step, h => by
    simp only [List.flatMap_cons] at hz h
    rw [← List.append_assoc] at hz
    refine step b List.mem_cons_self m ys _ ?_ hm fun m' hm' => ?_
    · rw [List.length_append] at hz
      (first | lia | omega)
    · exact CT_flat base g hz hm' (fun b' hb' => step b' (List.mem_cons_of_mem _ hb')) (by simpa only [List.append_assoc] using h)
theorem Jifs_nil {Q : Bool → HS → Prop} (h : Q true hs) : Jifs X A env [] hs Q := h
theorem Jifs_cons {c : Expr} {cs : List Expr} {Q : Bool → HS → Prop} (h : Jt X A env c hs fun b h => if b then Jifs X A env cs h Q else Q false h) : Jifs X A env (c :: cs) hs Q := h
theorem eltOf_in {elt : Expr} {ys : List V} {K : AO → HS → Prop} (h : Je X A env elt hs fun b h' => ys.length ≤ sizeLine ∧ K (.list (ys ++ [b])) h') : eltOf X A env elt (.list ys) hs K := h.mono fun b h' q => ⟨ys, rfl, q⟩

noncomputable def dputAll (k : V → Str) (g : V → V) : List V → List (Str × V) → List (Str × V)
  | [], r => r
  | b :: bs, r => dputAll k g bs (dput r (k b) (g b))
theorem dputAll_length (k : V → Str) (g : V → V) : ∀ (vs : List V) (r : List (Str × V)), (dputAll k g vs r).length ≤ r.length + vs.length
  | [], r => Nat.le_refl _
  | b :: bs, r => by
    have h1 := dputAll_length k g bs (dput r (k b) (g b))
    have h2 := dput_length_le (k b) (g b) r
    simp only [dputAll, List.length_cons]
    (first | lia | omega)
theorem CT_dict {target : Expr} {kx vx : Expr} {C : Addr} {rest : HS} (base : List (Str × V)) (k : V → Str) (g : V → V) :
    ∀ {vs : List V} {r : List (Str × V)} {m : List (Str × V)} {K : AO → HS → Prop}, r.length + vs.length ≤ sizeLine → subNs m base →
    (∀ b ∈ vs, ∀ (m : List (Str × V)) (K' : V → V → HS → Prop), subNs m base → (∀ m', subNs m' base → K' (.str (k b)) (g b) ((C, .ns m') :: rest)) →
      Jas X A env target b ((C, .ns m) :: rest) fun h1 => Je X A env kx h1 fun kb h2 => Je X A env vx h2 fun vb h3 => K' kb vb h3) →
    (∀ m', subNs m' base → K (.dict (dputAll k g vs r)) ((C, .ns m') :: rest)) → CT X A env target [] (entOf X A env kx vx) vs (.dict r) ((C, .ns m) :: rest) K
  | [], r, m, K, _, hm, _, h => h m hm
  | b :: bs, r, m, K, hz, hm, step, h => by
    refine step b List.mem_cons_self m _ hm fun m' hm' => ?_
    refine ⟨k b, r, rfl, rfl, by (first | lia | omega), ?_⟩
    refine CT_dict base k g (r := dput r (k b) (g b)) ?_ hm' (fun b' hb' => step b' (List.mem_cons_of_mem _ hb')) h
    have := dput_length_le (k b) (g b) r
    simp only [List.length_cons] at hz
    (first | lia | omega)

noncomputable def isNameE : Expr → Bool
  | .Name _ _ => true
  | _ => false
theorem assignEach_names {env : Env} {elts : List Expr} (h : elts.all isNameE = true) : ∀ t ∈ elts, ∀ r, assignEach (t :: r) env = (false, assign t env) :: assignEach r env := fun t ht r => by
  have := List.all_eq_true.mp h t ht
  cases t <;> first
    | rfl
    | exact absurd this (by simp [isNameE])
theorem JstL_nil {Q : HS → Prop} (h : Q hs) : JstL X A env [] [] hs Q := h
theorem JstL_cons {x : Str} {xs : List Str} {b : V} {bs : List V} {Q : HS → Prop} (h : Jst X A env x b hs fun h1 => JstL X A env xs bs h1 Q) : JstL X A env (x :: xs) (b :: bs) hs Q := h
theorem JasL_nil {Q : HS → Prop} (h : Q hs) : JasL X A env [] [] hs Q := h
theorem JasL_cons {t : Expr} {ts : List Expr} {b : V} {bs : List V} {Q : HS → Prop} (h : Jas X A env t b hs fun h1 => JasL X A env ts bs h1 Q) : JasL X A env (t :: ts) (b :: bs) hs Q := h
end
end
local macro_rules | `(tactic| k_units) => `(tactic| repeat' first | exact List.Mem.head _ | apply List.Mem.tail)
local macro_rules | `(tactic| k_upd) => `(tactic| repeat' first | exact Upd.here | apply Upd.there)
local macro_rules | `(tactic| back_ro) => `(tactic| first
  | refine J_Name_local rfl rfl (by k_units) rfl ?_ (by decide)
  | ((with_reducible show Je _ _ _ (Expr.Name (Str.ofString "_DIV_LIMIT") _) _ _); refine J_lim ‹Prog _› rfl rfl rfl ?_)
  | refine J_fn ‹Prog _› rfl rfl rfl rfl ?_ (by decide)
  | refine J_bi ‹Prog _› rfl rfl rfl rfl rfl ?_ (by decide) (by decide)
  | refine J_ty ‹Prog _› rfl rfl rfl rfl rfl ?_ (by decide) (by decide)
  | refine J_Name_cell rfl rfl rfl (by k_units) ?_ (by decide)
  | refine J_Name_free rfl rfl rfl (by k_units) ?_ (by decide) (by decide))
local macro_rules | `(tactic| back_in) => `(tactic| first
  | ((with_reducible show Je _ _ _ (Expr.Name _ _) _ _); back_ro)
  | ((with_reducible show Jx _ _ _ _ _ _); refine J_cons ?_)
  | with_reducible refine J_Return ?_
  | with_reducible refine J_Return0 ?_
  | with_reducible refine J_Expr ?_
  | with_reducible refine J_Assign_Sub ?_
  | with_reducible refine J_int ?_
  | with_reducible refine J_str ?_
  | with_reducible refine J_bool ?_
  | with_reducible refine J_BinOp ?_
  | with_reducible refine J_Cmp ?_
  | with_reducible refine J_tCmp ?_
  | with_reducible refine J_tBool ?_
  | with_reducible refine J_tNot ?_
  | ((with_reducible show Jt _ _ _ (Expr.Name _ _) _ _); refine J_tVal ?_)
  | with_reducible refine J_and_cons ?_
  | with_reducible refine J_or_cons ?_
  | with_reducible refine J_or_nil ?_
  | with_reducible refine J_If ?_
  | with_reducible refine J_Assign ?_
  | ((with_reducible show Js _ _ _ (Stmt.AugAssign (Expr.Name _ _) _ _ _) _ _); refine J_AugName rfl rfl (by k_units) rfl ?_)
  | with_reducible refine Jas_Name ?_
  | ((with_reducible show Jst _ _ _ _ _ _ _); (first | refine J_st_local rfl rfl (by k_upd) ?_ | refine J_st_cell rfl rfl rfl (by k_upd) ?_))
  | with_reducible refine J_Unary ?_
  | with_reducible refine J_l_nil ?_
  | with_reducible refine J_l_cons ?_
  | with_reducible refine J_Call ?_
  | with_reducible refine J_Slice ?_
  | with_reducible refine J_Sub ?_
  | with_reducible refine J_Tuple ?_
  | with_reducible refine J_List ?_
  | with_reducible refine J_IfExp ?_
  | with_reducible refine Jp_none ?_
  | with_reducible refine Jp_some ?_
  | ((with_reducible show Callable _ _); first | exact trivial | exact fnCall ‹Prog _› rfl)
  | ((with_reducible show Callable _ _ ∧ _); refine ⟨?_, ?_⟩)
  | ((with_reducible show Jas _ _ _ (Expr.Tuple _ _ _) _ _ _); refine Jas_Tuple (by assumption) ?_ (assignEach_names rfl) rfl rfl)
  | with_reducible refine JasL_cons ?_
  | with_reducible refine JasL_nil ?_
  | with_reducible refine B_add ?_
  | with_reducible refine B_sub ?_
  | with_reducible refine U_neg ?_
  | with_reducible refine I_add ?_
  | with_reducible refine I_sub ?_
  | with_reducible refine C_eq ?_
  | with_reducible refine C_ne ?_
  | with_reducible refine C_lt ?_
  | with_reducible refine C_le ?_
  | with_reducible refine C_eqs ?_
  | with_reducible refine Tr_bool ?_
  | with_reducible refine Tr_int ?_
  | with_reducible refine at_lst ?_
  | with_reducible refine at_tup ?_
  | with_reducible refine at_str ?_
  | with_reducible refine at_bytes ?_
  | with_reducible refine at_dct ?_
  | ((with_reducible show ∃ T, TyAt _ _ (V.ref _) T ∧ HasGet T ∧ _); (first | refine ⟨_, TyAt.list (by k_units), hasGet_list, ?_⟩ | refine ⟨_, TyAt.dict (by k_units), hasGet_dict, ?_⟩)))
section
variable {X : Fx} {A : Around} {hs : HS}
theorem peel {α : Type} {P : List α → Prop} {n : Nat} (h : ∀ a l, l.length = n → P (a :: l)) (l : List α) (hl : l.length = n + 1) : P l := by
  cases l with
  | nil => cases hl
  | cons a l => exact h a l (Nat.succ.inj hl)
theorem peel0 {α : Type} {P : List α → Prop} (h : P []) (l : List α) (hl : l.length = 0) : P l := by
  cases l with
  | nil => exact h
  | cons a l => cases hl
theorem bind2 {d : Def} {x y : Str} (h : ∀ pm cd doc a b, bindArgs (docDef d.name d.params d.body d.scope pm cd doc) ⟨[a, b], []⟩ = pure [(x, a), (y, b)]) : ∀ pm cd doc (vs : List Value), vs.length = [x, y].length → bindArgs (docDef d.name d.params d.body d.scope pm cd doc) ⟨vs, []⟩ = pure ([x, y].zip vs) :=
  fun pm cd doc => peel fun a => peel fun b => peel0 (h pm cd doc a b)
theorem bind1 {d : Def} {x : Str} (h : ∀ pm cd doc a, bindArgs (docDef d.name d.params d.body d.scope pm cd doc) ⟨[a], []⟩ = pure [(x, a)]) : ∀ pm cd doc (vs : List Value), vs.length = [x].length → bindArgs (docDef d.name d.params d.body d.scope pm cd doc) ⟨vs, []⟩ = pure ([x].zip vs) :=
  fun pm cd doc => peel fun a => peel0 (h pm cd doc a)
theorem bind3 {d : Def} {x y z : Str} (h : ∀ pm cd doc a b c, bindArgs (docDef d.name d.params d.body d.scope pm cd doc) ⟨[a, b, c], []⟩ = pure [(x, a), (y, b), (z, c)]) : ∀ pm cd doc (vs : List Value), vs.length = [x, y, z].length → bindArgs (docDef d.name d.params d.body d.scope pm cd doc) ⟨vs, []⟩ = pure ([x, y, z].zip vs) :=
  fun pm cd doc => peel fun a => peel fun b => peel fun c => peel0 (h pm cd doc a b c)

theorem spec_strcoll {n : Nat} {x y : Str} {Q : V → HS → Prop} (G : Prog X) (ok : Ok A (n + 1) 1) (h : Q (.int (coll x y)) hs) : JC X A (.fn "_strcoll") [.str x, .str y] hs Q := by
  refine JC_def (d := defAt 1) (names := ["a", "b"]) (n := n) (u := 0) G.T (G.fn "_strcoll" 1 rfl).1 ok rfl (bind2 fun _ _ _ _ _ => rfl) (by rfl) (by decide) ?_
  intro L f cd A' ok'
  iterate 3 back_in
  iterate 3 back_in
  refine C_gts ?_
  iterate 3 back_in
  refine C_lts ?_
  refine B_subb ?_
  exact ⟨hs, .cons _ (.refl _), h⟩
theorem spec_strxfrm {n : Nat} {x : Str} {Q : V → HS → Prop} (G : Prog X) (ok : Ok A (n + 1) 1) (h : Q (.str x) hs) : JC X A (.fn "_strxfrm") [.str x] hs Q := by
  refine JC_def (d := defAt 2) (names := ["s"]) (n := n) (u := 0) G.T (G.fn "_strxfrm" 2 rfl).1 ok rfl (bind1 fun _ _ _ _ => rfl) (by rfl) (by decide) ?_
  intro L f cd A' ok'
  iterate 3 back_in
  exact ⟨hs, .cons _ (.refl _), h⟩
theorem spec_add_int {n : Nat} {i j : Int} {Q : V → HS → Prop} (G : Prog X) (ok : Ok A (n + 1) 1) (h : Q (.int (i + j)) hs) : JC X A (.fn "add") [.int i, .int j] hs Q := by
  refine JC_def (d := defAt 12) (names := ["a", "b"]) (n := n) (u := 0) G.T (G.fn "add" 12 rfl).1 ok rfl (bind2 fun _ _ _ _ _ => rfl) (by rfl) (by decide) ?_
  intro L f cd A' ok'
  iterate 5 back_in
  refine B_add ?_
  exact ⟨hs, .cons _ (.refl _), h⟩
theorem spec_add_str {n : Nat} {x y : Str} {Q : V → HS → Prop} (G : Prog X) (ok : Ok A (n + 1) 1) (hz : x.length + y.length ≤ sizeLine) (h : Q (.str (x ++ y)) hs) : JC X A (.fn "add") [.str x, .str y] hs Q := by
  refine JC_def (d := defAt 12) (names := ["a", "b"]) (n := n) (u := 0) G.T (G.fn "add" 12 rfl).1 ok rfl (bind2 fun _ _ _ _ _ => rfl) (by rfl) (by decide) ?_
  intro L f cd A' ok'
  iterate 5 back_in
  refine B_adds hz ?_
  exact ⟨hs, .cons _ (.refl _), h⟩
theorem spec_mul {n : Nat} {i j : Int} {Q : V → HS → Prop} (G : Prog X) (ok : Ok A (n + 1) 1) (hm : IntMulOk i j) (h : Q (.int (i * j)) hs) : JC X A (.fn "mul") [.int i, .int j] hs Q := by
  refine JC_def (d := defAt 13) (names := ["a", "b"]) (n := n) (u := 0) G.T (G.fn "mul" 13 rfl).1 ok rfl (bind2 fun _ _ _ _ _ => rfl) (by rfl) (by decide) ?_
  intro L f cd A' ok'
  iterate 5 back_in
  refine B_mul hm ?_
  exact ⟨hs, .cons _ (.refl _), h⟩
theorem spec_neg {n : Nat} {i : Int} {Q : V → HS → Prop} (G : Prog X) (ok : Ok A (n + 1) 1) (h : Q (.int (-i)) hs) : JC X A (.fn "neg") [.int i] hs Q := by
  refine JC_def (d := defAt 14) (names := ["a"]) (n := n) (u := 0) G.T (G.fn "neg" 14 rfl).1 ok rfl (bind1 fun _ _ _ _ => rfl) (by rfl) (by decide) ?_
  intro L f cd A' ok'
  iterate 4 back_in
  refine U_neg ?_
  exact ⟨hs, .cons _ (.refl _), h⟩
theorem spec_setitem {n : Nat} {d : Addr} {r : List (Str × V)} {k : Str} {b : V} {Q : V → HS → Prop} (G : Prog X) (ok : Ok A (n + 1) 1) (hz : r.length ≤ sizeLine) (h : Q .none ((d, .dict (dput r k b)) :: hs)) : JC X A (.fn "setitem") [.ref d, .str k, b] ((d, .dict r) :: hs) Q := by
  refine JC_def (d := defAt 16) (names := ["a", "b", "c"]) (n := n) (u := 0) G.T (G.fn "setitem" 16 rfl).1 ok rfl (bind3 fun _ _ _ _ _ _ => rfl) (by rfl) (by decide) ?_
  intro L f cd A' ok'
  back_in
  refine J_Assign_Sub ?_
  iterate 3 back_in
  refine S_dict hz (.there .here) ?_
  refine J_nil ?_
  exact ⟨_, .cons _ (.refl _), h⟩
end
section
section
variable {X : Fx} {A : Around} {hs : HS}
theorem spec_countOf {n : Nat} {xs : List Str} {y : Str} {Q : V → HS → Prop} (G : Prog X) (ok : Ok A (n + 1) 1) (h : Q (.int (xs.count y)) hs) : JC X A (.fn "countOf") [.lst (xs.map .str), .str y] hs Q := by
  refine JC_def (d := defAt 15) (names := ["a", "b"]) (n := n) (u := 0) G.T (G.fn "countOf" 15 rfl).1 ok rfl (bind2 fun _ _ _ _ _ => rfl) (by rfl) (by decide) ?_
  intro L f cd A' ok'
  iterate 4 back_in
  refine J.ns (m' := [("count", .int (0 : Nat)), ("a", .lst (xs.map .str)), ("b", .str y)]) ⟨rfl, rfl, rfl, trivial⟩ ?_
  back_in
  refine J_For (tg := false) ok'.1 (fun x => nomatch x) ?_
  refine Src_val ?_
  back_in
  refine ⟨_, Itb_lst, ?_⟩
  refine Loop.invK (fun r h => ∃ (zs : List Str) (k : Nat), r = zs.map .str ∧ k + zs.count y = xs.count y ∧ h = (L, .ns [("count", .int k), ("a", .lst (xs.map .str)), ("b", .str y)]) :: hs) ?_ ?_ ⟨xs, 0, rfl, by (first | lia | omega), rfl⟩
  · rintro b r h ⟨zs, k, e, hk, rfl⟩ K hK
    cases zs with
    | nil => cases e
    | cons z zs =>
      simp only [List.map_cons, List.cons.injEq] at e
      obtain ⟨rfl, rfl⟩ := e
      iterate 9 back_in
      refine C_is G.T fun bi hbi => Tr_bool ?_
      cases bi with
      | true =>
        simp only [if_true]
        iterate 3 back_in
        refine I_add ?_
        back_in
        refine J.ns (m' := [("count", .int ((k + 1 : Nat) : Int)), ("a", .lst (xs.map .str)), ("b", .str y)]) ⟨rfl, rfl, rfl, trivial⟩ ?_
        refine J_nil (J_nil (hK _ ⟨zs, k + 1, rfl, ?_, rfl⟩))
        rw [hbi rfl, List.count_cons_self] at hk
        (first | lia | omega)
      | false =>
        simp only [Bool.false_eq_true, if_false]
        iterate 4 back_in
        refine C_eqs (Tr_bool ?_)
        split
        · rw [if_pos rfl]
          iterate 3 back_in
          refine I_add ?_
          back_in
          refine J.ns (m' := [("count", .int ((k + 1 : Nat) : Int)), ("a", .lst (xs.map .str)), ("b", .str y)]) ⟨rfl, rfl, rfl, trivial⟩ ?_
          refine J_nil (J_nil (hK _ ⟨zs, k + 1, rfl, ?_, rfl⟩))
          rename_i he
          rw [eq_of_beq he, List.count_cons_self] at hk
          (first | lia | omega)
        · refine J_or_nil ?_
          simp only [Bool.false_eq_true, if_false]
          refine J.ns (m' := [("count", .int (k : Int)), ("a", .lst (xs.map .str)), ("b", .str y)]) ⟨rfl, rfl, rfl, trivial⟩ ?_
          refine J_nil (J_nil (hK _ ⟨zs, k, rfl, ?_, rfl⟩))
          rename_i he
          rw [List.count_cons_of_ne (by simpa using he)] at hk
          (first | lia | omega)
  · rintro h ⟨zs, k, e, hk, rfl⟩
    cases zs with
    | cons z zs => cases e
    | nil =>
      iterate 3 back_in
      exact ⟨hs, .cons _ (.refl _), by have : (k : Nat) = xs.count y := by simpa using hk
                                       rw [this]; exact h⟩
end
end
section
section
variable {X : Fx} {A : Around} {hs : HS}
noncomputable def cellsGo : Nat → List Int → List Int → List Int
  | _, [], cs => cs
  | p, n :: r, cs => cellsGo (p + 1) r (cs.set (p % 8) (cs.getD (p % 8) 0 + n))
noncomputable def cells0 : List Int := [2, -3, 1, 0, -5, 8, 3, -2]
noncomputable def cellsOf (ns : List Int) : List Int := cellsGo 0 (ns.take 60) cells0
theorem cutL_take60 (ns : List Int) : cutL (intsOf ns) none (some 60) = intsOf (ns.take 60) := by
  unfold cutL intsOf clipAt
  simp only [Option.elim, List.drop_zero, List.map_take]
  rw [if_neg (by decide)]
  have e : (max 0 (min (60 : Int) ((List.map V.int ns).length : Int))).toNat = min 60 (List.map V.int ns).length := clip_nat 60 _
  rw [e, ← List.take_eq_take_min]
theorem spec_cells {n : Nat} {ns : List Int} {Q : V → HS → Prop} (G : Prog X) (ok : Ok A (n + 1) 1) (hz : ns.length ≤ sizeLine) (h : Q (.lst (intsOf (cellsOf ns))) hs) : JC X A (.fn "_law_cells") [.lst (intsOf ns)] hs Q := by
  refine JC_def (d := defAt 20) (names := ["script"]) (n := n) (u := 0) G.T (G.fn "_law_cells" 20 rfl).1 ok rfl (bind1 fun _ _ _ _ => rfl) (by rfl) (by decide) ?_
  intro L f cd A' ok'
  have hh := ok'.1
  iterate 2 back_in
  refine J_ListM ?_
  repeat back_in
  refine ⟨by decide, fun a => ?_⟩
  back_in
  refine J.ns' (hs' := (a, .list (intsOf cells0)) :: (L, .ns [("cells", .ref a), ("script", .lst (intsOf ns))]) :: hs) (.there .here) ⟨rfl, rfl, trivial⟩ ?_
  back_in
  refine J_For (tg := true) ok'.1 (fun _ => ⟨_, _, _, rfl⟩) ?_
  refine Src_call ?_
  repeat back_in
  refine Sl_lst (lo := none) (hi := some 60) (by simpa [intsOf] using hz) ?_
  back_in
  refine ⟨_, Src_enum, ?_⟩
  rw [cutL_take60]
  refine Loop.invK (fun r h => ∃ (p : Nat) (zs cs : List Int), r = enumV p (intsOf zs) ∧ cs.length = 8 ∧ cellsGo p zs cs = cellsOf ns ∧ h = (a, .list (intsOf cs)) :: (L, .ns [("cells", .ref a), ("script", .lst (intsOf ns))]) :: hs) ?_ ?_ ⟨0, _, _, rfl, rfl, rfl, rfl⟩
  · rintro b r h ⟨p, zs, cs, e, hl, hc, rfl⟩ K hK
    cases zs with
    | nil => cases e
    | cons z zs =>
      have e : b :: r = .tup [.int p, .int z] :: enumV (p + 1) (intsOf zs) := e
      simp only [List.cons.injEq] at e
      obtain ⟨rfl, rfl⟩ := e
      repeat back_in
      refine J_AugSub ?_
      repeat back_in
      refine B_fmod (by decide) ?_
      have hp : ((p : Int).fmod 8) = ((p % 8 : Nat) : Int) := by rw [Int.fmod_eq_emod_of_nonneg _ (by decide)]; rfl
      rw [hp]
      have hp8 : p % 8 < cs.length := by (first | lia | omega)
      refine G_list (b := .int (cs.getD (p % 8) 0)) (.head _) (by (first | lia | omega)) (by (first | lia | omega)) ?_ ?_
      · rw [Int.toNat_natCast]
        simp [intsOf, List.getD, hp8]
      back_in
      back_in
      refine S_list (by (first | lia | omega)) (by simp only [intsOf, List.length_map]; (first | lia | omega)) (by simp only [intsOf, List.length_map]; (first | lia | omega)) .here ?_
      have e : (intsOf cs).set ((p % 8 : Nat) : Int).toNat (.int (cs.getD (p % 8) 0 + z)) = intsOf (cs.set (p % 8) (cs.getD (p % 8) 0 + z)) := by rw [Int.toNat_natCast, intsOf, intsOf, List.map_set]
      rw [e]
      refine J.ns' (m' := [("cells", .ref a), ("script", .lst (intsOf ns))]) (.there .here) ⟨rfl, rfl, trivial⟩ ?_
      exact J_nil (hK _ ⟨p + 1, zs, _, rfl, by simpa using hl, hc, rfl⟩)
  · rintro h ⟨p, zs, cs, e, hl, hc, rfl⟩
    cases zs with
    | cons z zs => cases e
    | nil =>
      iterate 2 back_in
      refine Je_freezeL ?_
      back_in
      refine ⟨a, _, _, rfl, .refl _, ?_⟩
      exact ⟨hs, .cons _ (.refl _), by rw [← hc] at h; exact h⟩
end
end
section
section
variable {X : Fx} {A : Around} {hs : HS}
noncomputable def strV : V → Str
  | .str x => x
  | _ => ⟨#[]⟩
noncomputable def wstep (letters : Str) (ws : List Str) : List Str := ws.flatMap fun w => letters.cps.toList.map fun c => (⟨#[c]⟩ : Str) ++ w
noncomputable def wstepN (letters : Str) : Nat → List Str
  | 0 => [""]
  | k + 1 => wstep letters (wstepN letters k)
theorem wstep_V (letters : Str) (ws : List Str) : ((ws.map V.str).flatMap fun b => (signs letters).flatMap fun c => [V.str (strV c ++ strV b)]) = (wstep letters ws).map .str := by
  unfold wstep signs
  rw [List.flatMap_map, List.map_flatMap]
  congr 1
  funext w
  rw [List.flatMap_map, List.map_map, ← List.map_eq_flatMap]
  rfl
theorem spec_words {n : Nat} {letters : Str} {k : Nat} {Q : V → HS → Prop} (G : Prog X) (ok : Ok A (n + 2) 1) (ha : letters.cps.all (· < 128) = true) (hk : k < 2 ^ 20) (hz : ∀ j ≤ k, (wstepN letters j).length < 64 ∧ ∀ w ∈ wstepN letters j, w.length ≤ 64)
    (h : ∀ ys : List Str, ys.Perm (wstepN letters k) → SortedS ys → Q (.lst (ys.map .str)) hs) : JC X A (.fn "_law_words") [.str letters, .int k] hs Q := by
  refine JC_def (d := defAt 21) (names := ["letters", "size"]) (n := n + 1) (u := 0) G.T (G.fn "_law_words" 21 rfl).1 ok rfl (bind2 fun _ _ _ _ _ => rfl) (by rfl) (by decide) ?_
  intro L f cd c A' ok'
  have hh := ok'.1
  repeat back_in
  refine ⟨by decide, ?_⟩
  repeat back_in
  refine J.ns' (hs' := (L, .ns [("words", .lst ((wstepN letters 0).map .str)), ("size", .int k)]) :: (c, .cell (some (.str letters))) :: hs) .here ⟨rfl, rfl, trivial⟩ ?_
  refine J_For (tg := false) hh (fun x => nomatch x) ?_
  refine Src_call ?_
  repeat back_in
  refine ⟨_, Src_range1 (by (first | lia | omega)) (by (first | lia | omega)), ?_⟩
  rw [Int.toNat_natCast]
  refine Loop.invK (fun r h => ∃ (i : Int) (j p : Nat), r = rangeV i 1 j ∧ p + j = k ∧ h = (L, .ns [("words", .lst ((wstepN letters p).map .str)), ("size", .int k)]) :: (c, .cell (some (.str letters))) :: hs) ?_ ?_ ⟨0, k, 0, rfl, by (first | lia | omega), rfl⟩
  · rintro b r h ⟨i, j, p, e, hp, rfl⟩ K hK
    cases j with
    | zero => cases e
    | succ j =>
      have e : b :: r = .int i :: rangeV (i + 1) 1 j := e
      simp only [List.cons.injEq] at e
      obtain ⟨rfl, rfl⟩ := e
      have h1 := hz p (by (first | lia | omega))
      have h2 := hz (p + 1) (by (first | lia | omega))
      iterate 3 back_in
      refine J_Assign_LC2 (tg := false) (tg' := false) G.T hh ?_
      refine Src_val ?_
      back_in
      refine ⟨_, Itb_lst, ?_⟩
      intro C
      refine CT_flat (rest := (L, .ns [("turn", .int i), ("words", .lst ((wstepN letters p).map .str)), ("size", .int k)]) :: (c, .cell (some (.str letters))) :: hs) [] (fun b => (signs letters).flatMap fun c => [V.str (strV c ++ strV b)]) (by
        rw [List.nil_append, wstep_V, List.length_map]
        have := h2.1
        exact Nat.le_trans (Nat.le_of_lt this) (by decide)) trivial ?_ ?_
      · intro b hb m ys K' hsz hm hK
        refine Classical.byContradiction fun hno => ?_
        obtain ⟨w, hw, rfl⟩ := List.mem_map.mp hb
        refine hno ?_
        clear hno
        repeat back_in
        refine Jifs_nil ?_
        rw [if_pos rfl]
        refine Src_val ?_
        back_in
        refine ⟨_, Itb_str (.inl rfl) ha, ?_⟩
        refine CT_flat [("word", .str w)] (fun c => [V.str (strV c ++ w)]) hsz ⟨rfl, trivial⟩ ?_ (fun m' hm' => hK m' trivial)
        intro b hb m ys K' hsz hm hK
        refine Classical.byContradiction fun hno => ?_
        obtain ⟨ch, hch, rfl⟩ := List.mem_map.mp hb
        refine hno ?_
        clear hno
        repeat back_in
        refine Jifs_nil ?_
        rw [if_pos rfl]
        refine eltOf_in ?_
        refine J.ns (m' := [("letter", .str ⟨#[ch]⟩), ("word", .str w)]) ⟨rfl, hm.1, trivial⟩ ?_
        repeat back_in
        refine B_adds ?_ ⟨?_, hK _ ⟨rfl, trivial⟩⟩
        · have := h1.2 w hw
          show 1 + w.length ≤ sizeLine
          exact Nat.le_trans (Nat.add_le_add_left this 1) (by decide)
        · rw [List.length_append] at hsz; (first | lia | omega)
      · intro m' hm'
        refine ⟨_, m', _, _, rfl, rfl, .refl _, ?_⟩
        rw [List.nil_append, wstep_V]
        back_in
        refine J.ns (m' := [("words", .lst ((wstepN letters (p + 1)).map .str)), ("size", .int k)]) ⟨rfl, rfl, trivial⟩ ?_
        refine J_nil (hK _ ⟨i + 1, j, p + 1, rfl, by (first | lia | omega), rfl⟩)
  · rintro h' ⟨i, j, p, e, hp, rfl⟩
    cases j with
    | succ j => cases e
    | zero =>
      have hp : p = k := by (first | lia | omega)
      subst hp
      repeat back_in
      refine J_Sorted ?_
      back_in
      refine ⟨rfl, ?_⟩
      repeat back_in
      refine ⟨_, rfl, ⟨_, rfl⟩, (hz p (Nat.le_refl _)).1, ?_, ?_⟩
      · intro x hx
        exact spec_strxfrm (n := n) G ⟨ok'.1, ok'.2, by have := ok'.3; show A'.units + 1 + 1 + 100 * (n + 1) + 1 < 9900; (first | lia | omega)⟩ ⟨rfl, rfl⟩
      · intro ys h1 h2
        exact ⟨hs, .cons _ (.cons _ (.refl _)), h ys h1 h2⟩
end
end
section
section
variable {X : Fx} {A : Around} {hs : HS}
theorem flatMap_one {α : Type} (c : V) : ∀ l : List α, (l.flatMap fun _ => [c]) = List.replicate l.length c
  | [] => rfl
  | _ :: l => by rw [List.flatMap_cons, flatMap_one c l]; rfl
theorem zipV_map {α β : Type} (f : α → V) (g : β → V) : ∀ (as : List α) (bs : List β), zipV (as.map f) (bs.map g) = (as.zip bs).map fun p => .tup [f p.1, g p.2]
  | [], _ => rfl
  | _ :: _, [] => rfl
  | a :: as, b :: bs => by simp only [List.map_cons, zipV, List.zip_cons_cons, zipV_map f g as bs]
theorem coll_self (x : Str) : coll x x = 0 := by simp [coll]
theorem py_ints (ns : List Int) : toPy.toPyL (intsOf ns) = ns.map .int := by
  induction ns with
  | nil => rfl
  | cons n ns ih => simp only [intsOf, List.map_cons, toPy.toPyL, toPy]; rw [← intsOf, ih]
theorem plain_ints (ns : List Int) : plain.plainL (intsOf ns) = true := by
  induction ns with
  | nil => rfl
  | cons n ns ih => simp only [intsOf, List.map_cons, plain.plainL, plain]; rw [← intsOf, ih]; rfl
theorem lay_ints (ns : List Int) : PyData.canLayAll0 (ns.map .int) = true := by
  induction ns with
  | nil => rfl
  | cons n ns ih => simp only [List.map_cons, PyData.canLayAll0, PyData.canLay0, ih]; rfl
theorem deep_ints (ns : List Int) : PyData.depthAll (ns.map .int) = 0 := by
  induction ns with
  | nil => rfl
  | cons n ns ih => simp [PyData.depthAll, PyData.depth, ih]
theorem eqv_ints (as bs : List Int) : PyData.eqvAll (as.map .int) (bs.map .int) = decide (as = bs) := by
  induction as generalizing bs with
  | nil => cases bs <;> simp [PyData.eqvAll]
  | cons a as ih =>
    cases bs with
    | nil => simp [PyData.eqvAll]
    | cons b bs =>
      have e : (a == b) = decide (a = b) := by by_cases h : a = b <;> simp [h]
      simp [PyData.eqvAll, PyData.eqv, ih bs, e]
theorem lst_ok (ns : List Int) : plain (.lst (intsOf ns)) = true ∧ SeqAt.shaped (toPy (.lst (intsOf ns))) = true := by
  refine ⟨plain_ints ns, ?_⟩
  simp only [toPy, SeqAt.shaped, PyData.canLay0, PyData.depth, py_ints, lay_ints, deep_ints]
  rfl
theorem tup_ok (ns : List Int) : plain (.tup (intsOf ns)) = true ∧ SeqAt.shaped (toPy (.tup (intsOf ns))) = true := by
  refine ⟨plain_ints ns, ?_⟩
  simp only [toPy, SeqAt.shaped, PyData.canLay0, PyData.depth, py_ints, lay_ints, deep_ints]
  rfl
theorem C_eq_ints {n : Nat} {as bs : List Int} {Q : V → HS → Prop} (ok : Ok A n 66) (h : Q (.bool (decide (as = bs))) hs) : Jc X A .Eq (.lst (intsOf as)) (.lst (intsOf bs)) hs Q := by
  refine C_eqd ok (lst_ok as).1 (lst_ok bs).1 (lst_ok as).2 (lst_ok bs).2 ?_
  simp only [toPy, PyData.eqv, py_ints, eqv_ints]
  exact h
theorem C_ne_ints {n : Nat} {as bs : List Int} {Q : V → HS → Prop} (ok : Ok A n 66) (h : Q (.bool (!decide (as = bs))) hs) : Jc X A .NotEq (.lst (intsOf as)) (.lst (intsOf bs)) hs Q := by
  refine C_ned ok (lst_ok as).1 (lst_ok bs).1 (lst_ok as).2 (lst_ok bs).2 ?_
  simp only [toPy, PyData.eqv, py_ints, eqv_ints]
  exact h
theorem C_eq_tints {n : Nat} {as bs : List Int} {Q : V → HS → Prop} (ok : Ok A n 66) (h : Q (.bool (decide (as = bs))) hs) : Jc X A .Eq (.tup (intsOf as)) (.tup (intsOf bs)) hs Q := by
  refine C_eqd ok (tup_ok as).1 (tup_ok bs).1 (tup_ok as).2 (tup_ok bs).2 ?_
  simp only [toPy, PyData.eqv, py_ints, eqv_ints]
  exact h
noncomputable def row3 : V := .lst (intsOf [-1, 1, 0])
theorem rows_ok : ∀ k : Nat, plain.plainL (List.replicate k row3) = true ∧ PyData.canLayAll0 (toPy.toPyL (List.replicate k row3)) = true ∧ PyData.depthAll (toPy.toPyL (List.replicate k row3)) ≤ 1
  | 0 => ⟨rfl, rfl, Nat.zero_le _⟩
  | k + 1 => by
    refine Classical.byContradiction fun hno => ?_
    obtain ⟨h1, h2, h3⟩ := rows_ok k
    refine hno ?_
    clear hno
    simp only [List.replicate_succ, plain.plainL, toPy.toPyL, PyData.canLayAll0, PyData.depthAll, h1, h2, Bool.and_true]
    exact ⟨rfl, rfl, Nat.max_le.mpr ⟨by decide, h3⟩⟩

theorem rowsV_ok (k : Nat) : plain (.lst (List.replicate k row3)) = true ∧ SeqAt.shaped (toPy (.lst (List.replicate k row3))) = true := by
  refine Classical.byContradiction fun hno => ?_
  obtain ⟨h1, h2, h3⟩ := rows_ok k
  refine hno ?_
  clear hno
  refine ⟨h1, ?_⟩
  simp only [toPy, SeqAt.shaped, PyData.canLay0, PyData.depth, h2, Bool.true_and, decide_eq_true_eq]
  (first | lia | omega)
theorem cutL_from1 {α : Type} (xs : List α) : cutL xs (some 1) none = xs.drop 1 := by
  unfold cutL clipAt
  simp only [Option.elim]
  rw [if_neg (by decide), List.take_length]
  cases xs with
  | nil => simp
  | cons x xs =>
    have e : (max 0 (min (1 : Int) ((x :: xs).length : Int))).toNat = 1 := (clip_nat 1 _).trans (Nat.min_eq_left (Nat.succ_le_succ (Nat.zero_le _)))
    rw [e]
theorem drop_map1 {α β : Type} (f : α → β) (xs : List α) : (xs.map f).drop 1 = (xs.drop 1).map f := List.map_drop.symm
theorem spec_in_order {n : Nat} {ws : List Str} {Q : V → HS → Prop} (G : Prog X) (ok : Ok A (n + 2) 1) (hne : ws ≠ []) (hz : ws.length < 64) (hin : ∀ p ∈ ws.zip (ws.drop 1), coll p.1 p.2 = -1 ∧ coll p.2 p.1 = 1)
    (h : Q (.bool true) hs) : JC X A (.fn "_law_in_order") [.lst (ws.map .str)] hs Q := by
  refine JC_def (d := defAt 22) (names := ["words"]) (n := n + 1) (u := 0) G.T (G.fn "_law_in_order" 22 rfl).1 ok rfl (bind1 fun _ _ _ _ => rfl) (by rfl) (by decide) ?_
  intro L f cd A' ok'
  have hh := ok'.1
  have hsz : (ws.map V.str).length ≤ sizeLine := by rw [List.length_map]; exact Nat.le_trans (Nat.le_of_lt hz) (by decide)
  have hzl : (ws.zip (ws.drop 1)).length = ws.length - 1 := by rw [List.length_zip, List.length_drop]; (first | lia | omega)
  have hflat : ((zipV (ws.map .str) ((ws.drop 1).map .str)).flatMap fun _ => [row3]) = List.replicate (ws.length - 1) row3 := by
    rw [zipV_map, ← hzl, flatMap_one, List.length_map]
  refine J_cons ?_
  refine J_Assign_LC (tg := true) (htg := fun _ => ⟨_, _, _, rfl⟩) G.T hh ?_
  refine Src_call ?_
  repeat back_in
  refine Sl_lst (lo := some 1) (hi := none) hsz ?_
  rw [cutL_from1, drop_map1]
  repeat back_in
  refine ⟨_, Src_zip, ?_⟩
  intro C
  refine CT_flat (rest := (L, .ns [("words", .lst (ws.map .str))]) :: hs) [] (fun _ => [row3]) (by
    rw [List.nil_append, hflat, List.length_replicate]
    exact Nat.le_trans (Nat.le_of_lt (Nat.lt_of_le_of_lt (Nat.sub_le _ _) hz)) (by decide)) trivial ?_ ?_
  · intro b hb m ys K' hsz' hm hK
    rw [zipV_map] at hb
    refine Classical.byContradiction fun hno => ?_
    obtain ⟨p, hp, rfl⟩ := List.mem_map.mp hb
    refine hno ?_
    clear hno
    obtain ⟨e1, e2⟩ := hin p hp
    repeat back_in
    refine Jifs_nil ?_
    rw [if_pos rfl]
    refine eltOf_in ?_
    refine J.ns (m' := [("one", .str p.1), ("two", .str p.2)]) ⟨rfl, rfl, trivial⟩ ?_
    repeat back_in
    refine spec_strcoll (n := n) G ok'.down ?_
    repeat back_in
    refine spec_strcoll (n := n) G ok'.down ?_
    repeat back_in
    refine spec_strcoll (n := n) G ok'.down ?_
    repeat back_in
    rw [e1, e2, coll_self]
    refine ⟨by decide, by rw [List.length_append] at hsz'; (first | lia | omega), ?_⟩
    exact hK _ trivial
  · intro m' hm'
    refine ⟨_, m', _, _, rfl, rfl, .refl _, ?_⟩
    rw [List.nil_append, hflat]
    repeat back_in
    refine J_And ?_
    iterate 2 back_in
    refine J_MulDisp ?_
    repeat back_in
    refine ⟨by decide, ?_⟩
    repeat back_in
    refine ⟨by decide, ?_⟩
    repeat back_in
    refine N_len_lst (by rw [List.length_map]; (first | lia | omega)) ?_
    rw [List.length_map]
    repeat back_in
    have hpos : 0 < ws.length := List.length_pos_iff.mpr hne
    refine ⟨_, rfl, by simp, by (first | lia | omega), by (first | lia | omega), ?_, .inl ?_⟩
    · simp only [List.length_cons, List.length_nil]; (first | lia | omega)
    have hrep : repL ((ws.length : Int) - 1) [V.lst [V.int (-1), V.int 1, V.int 0]] = List.replicate (ws.length - 1) row3 := by
      unfold repL
      rw [show ((ws.length : Int) - 1).toNat = ws.length - 1 from Int.toNat_sub _ 1]
      simp [List.flatten_replicate_singleton]; exact .inr rfl
    rw [hrep]
    refine C_eqd (n := n) ok'.base (rowsV_ok _).1 (rowsV_ok _).1 (rowsV_ok _).2 (rowsV_ok _).2 ?_
    rw [SeqAt.eqv_refl _ (SeqAt.canLay_of_shaped (rowsV_ok _).2)]
    back_in
    rw [if_pos rfl]
    back_in
    refine J_LC2 (tg := false) (tg' := false) G.T hh ?_
    refine Src_val ?_
    back_in
    refine ⟨_, Itb_lst, ?_⟩
    intro C2
    refine CT_flat (rest := (L, .ns [("told", .lst (List.replicate (ws.length - 1) row3)), ("words", .lst (ws.map .str))]) :: hs) [] (fun _ => []) (by simp) trivial ?_ ?_
    · intro b hb m ys K' hsz' hm hK
      have e := List.eq_of_mem_replicate hb
      subst e
      repeat back_in
      refine Jifs_nil ?_
      rw [if_pos rfl]
      refine Src_val ?_
      back_in
      refine ⟨_, Itb_lst, ?_⟩
      refine CT_flat [] (fun _ => []) hsz' trivial ?_ (fun m' hm' => hK m' hm')
      intro b hb m ys K' hsz' hm hK
      refine Classical.byContradiction fun hno => ?_
      obtain ⟨i, hi, rfl⟩ := List.mem_map.mp hb
      refine hno ?_
      clear hno
      back_in
      back_in
      refine Jifs_cons ?_
      refine J.ns (m' := [("sign", .int i)]) ⟨rfl, trivial⟩ ?_
      refine J_tVal ?_
      repeat back_in
      refine N_isi_int_bool ?_
      back_in
      rw [if_neg (by decide)]
      rw [if_neg (by decide)]
      have := hK [("sign", .int i)] trivial
      simpa using this
    · intro m2 hm2
      refine ⟨_, m2, _, _, rfl, rfl, .refl _, ?_⟩
      repeat back_in
      refine ⟨by decide, ?_⟩
      have e : ([] ++ List.flatMap (fun x => []) (List.replicate (ws.length - 1) row3) : List V) = intsOf [] := by simp [intsOf]
      rw [e]
      refine C_eq_ints (as := []) (bs := []) (n := n) ok'.base ?_
      exact ⟨hs, .cons _ (.refl _), h⟩
end
end
section
section
variable {X : Fx} {A : Around} {hs : HS}
noncomputable def intV : V → Int
  | .int i => i
  | _ => 0
theorem rangeV_map (a : Int) : ∀ n : Nat, rangeV a 1 n = (List.range n).map fun i => .int (a + (i : Int))
  | 0 => rfl
  | n + 1 => by
    rw [rangeV, rangeV_map (a + 1) n, List.range_succ_eq_map, List.map_cons, List.map_map]
    simp only [List.cons.injEq, V.int.injEq]
    refine ⟨by simp, List.map_congr_left fun i _ => ?_⟩
    simp only [Function.comp, V.int.injEq, Nat.succ_eq_add_one]
    (first | lia | omega)
noncomputable def sufs (w : Str) : List Str := (List.range (w.length - 1)).map fun i : Nat => cutS w (some (1 + (i : Int))) none
noncomputable def leastOf : List Str → Str
  | [] => ⟨#[]⟩
  | [x] => x
  | x :: y :: r => let z := leastOf (y :: r); if x.cps.toList < z.cps.toList then x else z
noncomputable def pre (w e : Str) : Str := cutS w none (some ((w.length : Int) - (e.length : Int)))
noncomputable def comb (F E : List (Str × Int)) : List (Str × Int) := F.flatMap fun p => E.flatMap fun q => [(p.1 ++ q.1, p.2 * q.2), (q.1 ++ p.1, -(p.2 * q.2))]
noncomputable def brk : Nat → Str → List (Str × Int)
  | 0, w => [(w, 1)]
  | f + 1, w => if w.length = 1 then [(w, 1)] else let e := leastOf (sufs w); comb (brk f (pre w e)) (brk f e)
noncomputable def smallPs (ps : List (Str × Int)) : Bool := decide (ps.length ≤ 8) && ps.all fun p => decide (p.1.length ≤ 64) && (p.2 == 1 || p.2 == -1)
noncomputable def brkOk : Nat → Str → Bool
  | 0, w => w.length == 1
  | f + 1, w => w.length == 1 || (let e := leastOf (sufs w); decide (2 ≤ w.length) && decide (w.length ≤ 64) && (sufs w).contains e && decide (e.length ≤ 64) && (sufs w).all (fun x => x == e || decide (e.cps.toList < x.cps.toList))
      && smallPs (brk f (pre w e)) && smallPs (brk f e) && brkOk f (pre w e) && brkOk f e)
noncomputable def pairsV (ps : List (Str × Int)) : List V := ps.map fun p => .tup [.str p.1, .int p.2]
theorem sorted_head {xs ys : List Str} {e : Str} (hp : ys.Perm xs) (hs : SortedS ys) (he : e ∈ xs) (hl : ∀ x ∈ xs, x = e ∨ e.cps.toList < x.cps.toList) : ys[0]? = some e := by
  cases ys with
  | nil => exact absurd (hp.mem_iff.mpr he) (by simp)
  | cons y r =>
    rcases hl y (hp.mem_iff.mp List.mem_cons_self) with h | h
    · rw [h]; rfl
    · rcases List.mem_cons.mp (hp.mem_iff.mpr he) with q | q
      · rw [q]; rfl
      · exact absurd h ((List.pairwise_cons.mp hs).1 e q)
theorem smallPs_at {ps : List (Str × Int)} (h : smallPs ps = true) : ps.length ≤ 8 ∧ ∀ p ∈ ps, p.1.length ≤ 64 ∧ (p.2 = 1 ∨ p.2 = -1) := by
  simp only [smallPs, Bool.and_eq_true, decide_eq_true_eq, List.all_eq_true, Bool.or_eq_true, beq_iff_eq] at h
  exact ⟨h.1, fun p hp => h.2 p hp⟩
theorem comb_len (F E : List (Str × Int)) : (comb F E).length = 2 * (F.length * E.length) := by
  unfold comb
  induction F with
  | nil => simp
  | cons p F ih =>
    have e : ∀ E : List (Str × Int), (E.flatMap fun q => [(p.1 ++ q.1, p.2 * q.2), (q.1 ++ p.1, -(p.2 * q.2))]).length = 2 * E.length := fun E => by
      induction E with
      | nil => rfl
      | cons q E ih => rw [List.flatMap_cons, List.length_append, ih]; simp only [List.length_cons, List.length_nil]; (first | lia | omega)
    rw [List.flatMap_cons, List.length_append, ih, e, List.length_cons, Nat.add_mul]
    (first | lia | omega)
theorem mulOk_sign {a b : Int} (h : a = 1 ∨ a = -1) : IntMulOk a b := .of_left (by rcases h with rfl | rfl <;> decide)
theorem sufs_V (w : Str) : ((rangeV 1 1 (w.length - 1)).flatMap fun b => [V.str (cutS w (some (intV b)) none)]) = (sufs w).map .str := by
  rw [rangeV_map, List.flatMap_map, ← List.map_eq_flatMap, sufs, List.map_map]
  rfl
theorem spec_bracket : ∀ (f : Nat) {A : Around} {hs : HS} {n : Nat} {w : Str} {Q : V → HS → Prop} (G : Prog X) (ok : Ok A (n + f + 2) 1) (hw : brkOk f w = true) (h : Q (.lst (pairsV (brk f w))) hs), JC X A (.fn "_law_bracket") [.str w] hs Q := by
  intro f
  induction f with
  | zero =>
    intro A hs n w Q G ok hw h
    refine JC_def (d := defAt 23) (names := ["word"]) (n := n + 1) (u := 0) G.T (G.fn "_law_bracket" 23 rfl).1 ok rfl (bind1 fun _ _ _ _ => rfl) (by rfl) (by decide) ?_
    intro L fa cd c A' ok'
    have hh := ok'.1
    have hw1 : w.length = 1 := by simpa [brkOk] using hw
    repeat back_in
    refine N_len_str (by (first | lia | omega)) ?_
    repeat back_in
    rw [if_pos (by rw [hw1]; rfl)]
    repeat back_in
    refine ⟨Nat.le_of_ble_eq_true rfl, ?_⟩
    repeat back_in
    refine ⟨Nat.le_of_ble_eq_true rfl, ?_⟩
    exact ⟨hs, .cons _ (.cons _ (.refl _)), h⟩
  | succ f ih =>
    intro A hs n w Q G ok hw h
    refine JC_def (d := defAt 23) (names := ["word"]) (n := n + f + 2) (u := 0) G.T (G.fn "_law_bracket" 23 rfl).1 (ok.le (by (first | lia | omega))) rfl (bind1 fun _ _ _ _ => rfl) (by rfl) (by decide) ?_
    intro L fa cd c A' ok'
    have hh := ok'.1
    by_cases hw1 : w.length = 1
    · repeat back_in
      refine N_len_str (by (first | lia | omega)) ?_
      repeat back_in
      rw [if_pos (by rw [hw1]; rfl)]
      repeat back_in
      refine ⟨Nat.le_of_ble_eq_true rfl, ?_⟩
      repeat back_in
      refine ⟨Nat.le_of_ble_eq_true rfl, ?_⟩
      refine ⟨hs, .cons _ (.cons _ (.refl _)), ?_⟩
      simp only [brk, if_pos hw1] at h
      exact h
    · simp only [brkOk, beq_eq_false_iff_ne.mpr hw1, Bool.false_or, Bool.and_eq_true, decide_eq_true_eq, List.all_eq_true, Bool.or_eq_true, beq_iff_eq, List.contains_iff_mem] at hw
      refine Classical.byContradiction fun hno => ?_
      obtain ⟨⟨⟨⟨⟨⟨⟨⟨h2, h64⟩, hmem⟩, hel⟩, hleast⟩, hsF⟩, hsE⟩, hokF⟩, hokE⟩ := hw
      refine hno ?_
      clear hno
      simp only [brk, if_neg hw1] at h
      generalize he : leastOf (sufs w) = e at *
      have hwz : w.length ≤ sizeLine := Nat.le_trans h64 (by decide)
      have hlen : (sufs w).length = w.length - 1 := by simp [sufs]
      repeat back_in
      refine N_len_str (by (first | lia | omega)) ?_
      repeat back_in
      rw [if_neg (by simp; (first | lia | omega))]
      refine J_nil ?_
      repeat back_in
      refine J_Sorted ?_
      back_in
      refine ⟨rfl, ?_⟩
      refine J_LC (tg := false) G.T hh ?_
      refine Src_call ?_
      repeat back_in
      refine N_len_str (by (first | lia | omega)) ?_
      repeat back_in
      refine ⟨_, Src_range2 (by (first | lia | omega)) (by (first | lia | omega)) (by (first | lia | omega)) (by (first | lia | omega)), ?_⟩
      rw [show ((w.length : Int) - 1).toNat = w.length - 1 from Int.toNat_sub _ 1]
      intro C
      refine CT_flat (rest := (L, .ns []) :: (c, .cell (some (.str w))) :: hs) [] (fun b => [V.str (cutS w (some (intV b)) none)]) (by
        rw [List.nil_append, sufs_V, List.length_map, hlen]
        exact Nat.le_trans (Nat.sub_le _ _) hwz) trivial ?_ ?_
      · intro b hb m ys K' hsz' hm hK
        rw [rangeV_map] at hb
        refine Classical.byContradiction fun hno => ?_
        obtain ⟨i, hi, rfl⟩ := List.mem_map.mp hb
        refine hno ?_
        clear hno
        repeat back_in
        refine Jifs_nil ?_
        rw [if_pos rfl]
        refine eltOf_in ?_
        refine J.ns (m' := [("k", .int (1 + (i : Int)))]) ⟨rfl, trivial⟩ ?_
        repeat back_in
        refine Sl_str (lo := some (1 + (i : Int))) (hi := none) hwz ?_
        exact ⟨by rw [List.length_append] at hsz'; (first | lia | omega), hK _ trivial⟩
      · intro m' hm'
        refine ⟨_, m', _, _, rfl, rfl, .refl _, ?_⟩
        rw [List.nil_append, sufs_V]
        repeat back_in
        refine ⟨_, rfl, ⟨_, rfl⟩, by (first | lia | omega), ?_, ?_⟩
        · intro x hx
          exact spec_strxfrm (n := n) G ⟨ok'.1, by have := ok'.2; show A'.depth + _ < _; (first | lia | omega), by have := ok'.3; show A'.units + 1 + 1 + 100 * (n + 1) + 1 < 9900; (first | lia | omega)⟩ ⟨rfl, rfl⟩
        · intro ys hp hsd
          have hy0 : ys[0]? = some e := sorted_head hp hsd hmem hleast
          repeat back_in
          refine G_lst (b := .str e) (by decide) (by decide) (by simp [hy0]) ?_
          repeat back_in
          refine ih (n := n) G (ok'.le (by (first | lia | omega))) hokE ?_
          repeat back_in
          refine ⟨Nat.le_of_ble_eq_true rfl, ?_⟩
          repeat back_in
          refine J_For (tg := false) hh (fun x => nomatch x) ?_
          refine Src_val ?_
          repeat back_in
          refine N_len_str (by (first | lia | omega)) ?_
          repeat back_in
          refine N_len_str (by (first | lia | omega)) ?_
          repeat back_in
          refine Sl_str (lo := none) (hi := some ((w.length : Int) - (e.length : Int))) hwz ?_
          repeat back_in
          refine ih (n := n) G (ok'.le (by (first | lia | omega))) hokF ?_
          refine ⟨_, Itb_lst, ?_⟩
          obtain ⟨hF8, hF⟩ := smallPs_at hsF
          obtain ⟨hE8, hE⟩ := smallPs_at hsE
          have hcomb : (comb (brk f (pre w e)) (brk f e)).length ≤ 128 := by
            rw [comb_len]
            have := Nat.mul_le_mul hF8 hE8
            (first | lia | omega)
          refine Loop.invMK (fun p : Str × Int => V.tup [.str p.1, .int p.2]) (fun F' h => ∃ ps, ps ++ comb F' (brk f e) = comb (brk f (pre w e)) (brk f e) ∧ h = (L, .ns [("pairs", .lst (pairsV ps)), ("ends", .lst (pairsV (brk f e))), ("end", .str e)]) :: (c, .cell (some (.str w))) :: hs) (xs := brk f (pre w e)) ?_ ?_ ?_
          · rintro ⟨one, share⟩ hp F' h' ⟨ps, hps, rfl⟩ K hK
            repeat back_in
            refine J.ns (m' := [("pairs", .lst (pairsV ps)), ("one", .str one), ("share", .int share), ("ends", .lst (pairsV (brk f e))), ("end", .str e)]) ⟨rfl, rfl, rfl, rfl, rfl, trivial⟩ ?_
            refine J_For (tg := false) hh (fun x => nomatch x) ?_
            refine Src_val ?_
            repeat back_in
            refine ⟨_, Itb_lst, ?_⟩
            have hps' : ps ++ ((brk f e).flatMap fun q => [(one ++ q.1, share * q.2), (q.1 ++ one, -(share * q.2))]) ++ comb F' (brk f e) = comb (brk f (pre w e)) (brk f e) := by
              rw [List.append_assoc]; exact hps
            refine Loop.invMK (fun p : Str × Int => V.tup [.str p.1, .int p.2]) (fun E' h => ∃ qs, qs ++ (E'.flatMap fun q => [(one ++ q.1, share * q.2), (q.1 ++ one, -(share * q.2))]) = ps ++ ((brk f e).flatMap fun q => [(one ++ q.1, share * q.2), (q.1 ++ one, -(share * q.2))]) ∧ h = (L, .ns [("pairs", .lst (pairsV qs)), ("one", .str one), ("share", .int share), ("ends", .lst (pairsV (brk f e))), ("end", .str e)]) :: (c, .cell (some (.str w))) :: hs) (xs := brk f e) ?_ ?_ ?_
            · rintro ⟨two, other⟩ hq E' h' ⟨qs, hqs, rfl⟩ K' hK'
              have h1 := hF _ hp
              have h2' := hE _ hq
              have ha : one.length + two.length ≤ sizeLine := Nat.le_trans (Nat.add_le_add h1.1 h2'.1) (by decide)
              have hb : two.length + one.length ≤ sizeLine := Nat.le_trans (Nat.add_le_add h2'.1 h1.1) (by decide)
              have hqz : qs.length ≤ 128 := by
                have e1 := congrArg List.length hqs
                have e2 := congrArg List.length hps'
                rw [List.length_append] at e1 e2
                (first | lia | omega)
              repeat back_in
              refine spec_add_str (n := n) G (ok'.le (by (first | lia | omega))) ha ?_
              repeat back_in
              refine spec_mul (n := n) G (ok'.le (by (first | lia | omega))) (mulOk_sign h1.2) ?_
              repeat back_in
              refine ⟨Nat.le_of_ble_eq_true rfl, ?_⟩
              repeat back_in
              refine spec_add_str (n := n) G (ok'.le (by (first | lia | omega))) hb ?_
              repeat back_in
              refine spec_mul (n := n) G (ok'.le (by (first | lia | omega))) (mulOk_sign h1.2) ?_
              repeat back_in
              refine spec_neg (n := n) G (ok'.le (by (first | lia | omega))) ?_
              repeat back_in
              refine ⟨Nat.le_of_ble_eq_true rfl, ?_⟩
              repeat back_in
              refine ⟨Nat.le_of_ble_eq_true rfl, ?_⟩
              refine B_addl (by rw [pairsV, List.length_map]; exact Nat.le_trans (Nat.add_le_add_right hqz 2) (by decide)) ?_
              have ep : pairsV qs ++ [V.tup [.str (one ++ two), .int (share * other)], V.tup [.str (two ++ one), .int (-(share * other))]] = pairsV (qs ++ [(one ++ two, share * other), (two ++ one, -(share * other))]) := by
                rw [pairsV, pairsV, List.map_append]; rfl
              rw [ep]
              back_in
              refine J.ns (m' := [("pairs", .lst (pairsV (qs ++ [(one ++ two, share * other), (two ++ one, -(share * other))]))), ("one", .str one), ("share", .int share), ("ends", .lst (pairsV (brk f e))), ("end", .str e)]) ⟨rfl, rfl, rfl, rfl, rfl, trivial⟩ ?_
              exact J_nil (hK' _ ⟨_, by rw [List.append_assoc]; exact hqs, rfl⟩)
            · rintro h' ⟨qs, hqs, rfl⟩
              refine J.ns (m' := [("pairs", .lst (pairsV qs)), ("ends", .lst (pairsV (brk f e))), ("end", .str e)]) ⟨rfl, rfl, rfl, trivial⟩ ?_
              refine J_nil (hK _ ⟨qs, ?_, rfl⟩)
              rw [List.flatMap_nil, List.append_nil] at hqs
              rw [hqs]; exact hps'
            · refine ⟨ps, rfl, ?_⟩
              rfl
          · rintro h' ⟨ps, hps, rfl⟩
            repeat back_in
            have e : ps = comb (brk f (pre w e)) (brk f e) := by rw [← hps]; simp [comb]
            rw [e]
            exact ⟨hs, .cons _ (.cons _ (.refl _)), h⟩
          · exact ⟨[], rfl, rfl⟩
end
end
section
section
variable {X : Fx} {A : Around} {hs : HS}
theorem mulOk_sign_r {a b : Int} (h : b = 1 ∨ b = -1) : IntMulOk a b := .of_right (by rcases h with rfl | rfl <;> decide)
theorem JC.perm {f : V} {as : List V} {hs' : HS} {Q : V → HS → Prop} (p : hs.Perm hs') (h : JC X A f as hs' Q) : JC X A f as hs Q := fun B W s vf vs r h1 h2 => h B W s vf vs (r.perm p) h1 h2
noncomputable def tabV (ws : List Str) (f : Str → Int) : List (Str × V) := ws.map fun w => (w, V.int (f w))
theorem tabV_get {f : Str → Int} {w : Str} : ∀ {ws : List Str}, w ∈ ws → (tabV ws f).lookup w = some (.int (f w))
  | [], h => nomatch h
  | x :: ws, h => by
    simp only [tabV, List.map_cons]
    rw [lookup_cons_str]
    by_cases e : w = x
    · subst e; rw [if_pos rfl]
    · rw [if_neg e]
      exact tabV_get (ws := ws) (by rcases List.mem_cons.mp h with q | q; exact absurd q e; exact q)
theorem tabV_put {f : Str → Int} {w : Str} {x : Int} : ∀ {ws : List Str}, ws.Nodup → w ∈ ws → dput (tabV ws f) w (.int x) = tabV ws fun v => if v = w then x else f v
  | [], _, h => nomatch h
  | y :: ws, hn, h => by
    have hn' := List.nodup_cons.mp hn
    simp only [tabV, List.map_cons, dput]
    by_cases e : y = w
    · subst e
      rw [if_pos rfl, if_pos rfl]
      refine congrArg _ ?_
      refine List.map_congr_left fun v hv => ?_
      rw [if_neg (fun q => hn'.1 (by rw [← q]; exact hv))]
    · rw [if_neg e, if_neg e]
      refine congrArg _ ?_
      exact tabV_put (ws := ws) hn'.2 (by rcases List.mem_cons.mp h with q | q; exact absurd q.symm e; exact q)
noncomputable def cf (named : List (Str × Int)) (w : Str) : Int := (named.map fun p => if p.1 = w then p.2 else 0).sum
theorem spec_lay {n : Nat} {D : Addr} {ws : List Str} {f : Str → Int} {named : List (Str × Int)} {share : Int} {Q : V → HS → Prop} (G : Prog X) (ok : Ok A (n + 2) 1) (hn : ws.Nodup) (hz : ws.length ≤ sizeLine)
    (hd : ∀ p ∈ named, p.1 ∈ ws ∧ (p.2 = 1 ∨ p.2 = -1)) (h : Q .none ((D, .dict (tabV ws fun w => f w + share * cf named w)) :: hs)) : JC X A (.fn "_law_lay") [.ref D, .lst (pairsV named), .int share] ((D, .dict (tabV ws f)) :: hs) Q := by
  refine JC_def (d := defAt 24) (names := ["table", "named", "share"]) (n := n + 1) (u := 0) G.T (G.fn "_law_lay" 24 rfl).1 ok rfl (bind3 fun _ _ _ _ _ _ => rfl) (by rfl) (by decide) ?_
  intro L fa cd A' ok'
  have hh := ok'.1
  back_in
  refine J_For (tg := false) hh (fun x => nomatch x) ?_
  refine Src_val ?_
  back_in
  refine ⟨_, Itb_lst, ?_⟩
  refine Loop.invMK (fun p : Str × Int => V.tup [.str p.1, .int p.2]) (fun F' h => ∃ g : Str → Int, (∀ w, g w + share * cf F' w = f w + share * cf named w) ∧ h = (L, .ns [("share", .int share), ("named", .lst (pairsV named)), ("table", .ref D)]) :: (D, .dict (tabV ws g)) :: hs) (xs := named) ?_ ?_ ?_
  · rintro ⟨w, t⟩ hp F' h' ⟨g, hg, rfl⟩ K hK
    have h1 := hd _ hp
    repeat back_in
    refine G_dictK (.inl rfl) (.tail _ (.head _)) (tabV_get h1.1) ?_
    repeat back_in
    refine spec_mul (n := n) G ok'.down (mulOk_sign_r h1.2) ?_
    repeat back_in
    refine spec_add_int (n := n) G ok'.down ?_
    repeat back_in
    refine JC.perm (.swap _ _ _) ?_
    refine spec_setitem (n := n) G ok'.down (by rw [tabV, List.length_map]; exact hz) ?_
    rw [tabV_put hn h1.1]
    refine J.perm (.swap _ _ _) ?_
    refine J.ns (m' := [("share", .int share), ("named", .lst (pairsV named)), ("table", .ref D)]) ⟨rfl, rfl, rfl, trivial⟩ ?_
    refine J_nil (hK _ ⟨_, fun v => ?_, rfl⟩)
    have := hg v
    simp only [cf, List.map_cons, List.sum_cons] at this ⊢
    by_cases e : v = w
    · subst e
      rw [if_pos rfl] at this ⊢
      rw [Int.mul_add] at this
      (first | lia | omega)
    · rw [if_neg e]
      rw [if_neg (Ne.symm e), Int.zero_add] at this
      (first | lia | omega)
  · rintro h' ⟨g, hg, rfl⟩
    refine J_nil ⟨_, .cons _ (.refl _), ?_⟩
    have e : g = fun w => f w + share * cf named w := funext fun w => by
      have := hg w
      simp only [cf, List.map_nil, List.sum_nil] at this
      rw [← hg w]; simp [cf]
    rw [e]
    exact h
  · exact ⟨f, fun w => rfl, rfl⟩

theorem nodup_append_dput {ws : List Str} {f : Str → Int} {w : Str} {x : V} (h : w ∉ ws) : dput (tabV ws f) w x = tabV ws f ++ [(w, x)] := by
  induction ws with
  | nil => rfl
  | cons y ws ih =>
    simp only [tabV, List.map_cons, dput, List.cons_append]
    rw [if_neg (fun e => h (by rw [← e]; exact List.mem_cons_self))]
    exact congrArg _ (ih (fun q => h (List.mem_cons_of_mem _ q)))
theorem dputAll_tab (f : Str → Int) : ∀ (ws us : List Str), (us ++ ws).Nodup → dputAll strV (fun b => .int (f (strV b))) (ws.map .str) (tabV us f) = tabV (us ++ ws) f
  | [], us, _ => by rw [List.append_nil]; rfl
  | w :: ws, us, h => by
    have hw : w ∉ us := by
      have := List.nodup_append.mp h
      exact fun q => this.2.2 w q w List.mem_cons_self rfl
    show dputAll _ _ (ws.map .str) (dput (tabV us f) w (.int (f w))) = _
    rw [nodup_append_dput hw]
    have e : tabV us f ++ [(w, V.int (f w))] = tabV (us ++ [w]) f := by simp [tabV]
    rw [e, dputAll_tab f ws (us ++ [w]) (by rw [List.append_assoc]; exact h), List.append_assoc]
    rfl
theorem tabV_keys (ws : List Str) (f : Str → Int) : (tabV ws f).map (·.1) = ws := by
  rw [tabV, List.map_map]; exact List.map_id _
theorem tabV_vals (ws : List Str) (f : Str → Int) : (tabV ws f).map (·.2) = intsOf (ws.map f) := by simp [tabV, intsOf]
theorem tabV_zip (ws : List Str) (f : Str → Int) : ws.zip (intsOf (ws.map f)) = tabV ws f := by
  induction ws with
  | nil => rfl
  | cons w ws ih => simp only [List.map_cons, intsOf, List.zip_cons_cons, tabV] at ih ⊢; rw [ih]
noncomputable abbrev tabD (ws : List Str) (f : Str → Int) : V := .dct ws (intsOf (ws.map f))
theorem G_tabD {ws : List Str} {f : Str → Int} {w : Str} {kb : V} {Q : V → HS → Prop} (hk : kb = .str w ∨ kb = .txt w) (hw : w ∈ ws) (h : Q (.int (f w)) hs) : Jgi X A (tabD ws f) kb hs Q := G_dctK hk (by rw [tabV_zip]; exact tabV_get hw) h
noncomputable def readOff : List (Str × List (Str × Int)) → (Str → Int) → List Int × (Str → Int)
  | [], f => ([], f)
  | p :: r, f => let q := readOff r fun w => f w + (- f p.1) * cf p.2 w; (f p.1 :: q.1, q.2)
end
end
section
section
variable {X : Fx} {A : Around} {hs : HS}
theorem readOff_left : ∀ (r : List (Str × List (Str × Int))) (f : Str → Int), (readOff r f).1.length = r.length
  | [], f => rfl
  | p :: r, f => by simp [readOff, readOff_left r]
theorem ints_snoc (ns : List Int) (x : Int) : intsOf ns ++ [.int x] = intsOf (ns ++ [x]) := by simp [intsOf]
theorem strV_str (w : Str) : strV (.str w) = w := rfl
theorem pick_strs (g : Str → Int) (ws : List Str) : ((ws.map V.str).flatMap fun b => if g (strV b) = 0 then [] else [b]) = (ws.filter fun w => !decide (g w = 0)).map .str := by
  induction ws with
  | nil => rfl
  | cons w ws ih =>
    simp only [List.map_cons, List.flatMap_cons, List.filter_cons, ih, strV_str]
    by_cases h : g w = 0 <;> simp [h]
theorem strs_ok {xs : List Str} (h : ∀ x ∈ xs, PyData.strOk x = true) : plain.plainL (xs.map .str) = true ∧ PyData.canLayAll0 (toPy.toPyL (xs.map .str)) = true ∧ PyData.depthAll (toPy.toPyL (xs.map .str)) = 0 := by
  induction xs with
  | nil => exact ⟨rfl, rfl, rfl⟩
  | cons x xs ih =>
    refine Classical.byContradiction fun hno => ?_
    obtain ⟨h1, h2, h3⟩ := ih fun y hy => h y (List.mem_cons_of_mem _ hy)
    refine hno ?_
    clear hno
    simp only [List.map_cons, plain.plainL, toPy.toPyL, PyData.canLayAll0, PyData.depthAll, h1, h2, h3, plain, toPy, PyData.canLay0, h x List.mem_cons_self, PyData.depth]
    exact ⟨rfl, rfl, rfl⟩
theorem strsL_ok {xs : List Str} (h : ∀ x ∈ xs, PyData.strOk x = true) : plain (.lst (xs.map .str)) = true ∧ SeqAt.shaped (toPy (.lst (xs.map .str))) = true := by
  refine Classical.byContradiction fun hno => ?_
  obtain ⟨h1, h2, h3⟩ := strs_ok h
  refine hno ?_
  clear hno
  refine ⟨h1, ?_⟩
  simp only [toPy, SeqAt.shaped, PyData.canLay0, PyData.depth, h2, h3]
  rfl
theorem C_eq_strs0 {n : Nat} {xs : List Str} {Q : V → HS → Prop} (ok : Ok A n 66) (hx : ∀ x ∈ xs, PyData.strOk x = true) (h : Q (.bool xs.isEmpty) hs) : Jc X A .Eq (.lst (xs.map .str)) (.lst []) hs Q := by
  refine C_eqd ok (strsL_ok hx).1 rfl (strsL_ok hx).2 rfl ?_
  have e : PyData.eqv (toPy (.lst (xs.map .str))) (toPy (.lst [])) = xs.isEmpty := by cases xs <;> rfl
  rw [e]; exact h
theorem C_eq_ints0 {n : Nat} {xs : List Int} {Q : V → HS → Prop} (ok : Ok A n 66) (h : Q (.bool xs.isEmpty) hs) : Jc X A .Eq (.lst (intsOf xs)) (.lst []) hs Q := by
  refine C_eqd ok (lst_ok xs).1 rfl (lst_ok xs).2 rfl ?_
  have e : PyData.eqv (toPy (.lst (intsOf xs))) (toPy (.lst [])) = xs.isEmpty := by cases xs <;> rfl
  rw [e]; exact h
theorem spec_read {n : Nat} {ws ps : List Str} {f : Str → Int} {bs : List (List (Str × Int))} {Q : V → HS → Prop} (G : Prog X) (ok : Ok A (n + 3) 1) (hn : ws.Nodup) (hz : ws.length < 64) (hso : ∀ w ∈ ws, PyData.strOk w = true) (hpz : ps.length < 64) (hpw : ∀ p ∈ ps, p ∈ ws)
    (hd : ∀ named ∈ bs, ∀ p ∈ named, p.1 ∈ ws ∧ (p.2 = 1 ∨ p.2 = -1))
    (h : Q (.tup [.lst (intsOf (readOff (ps.zip bs) f).1), .bool (decide (∀ w ∈ ws, (readOff (ps.zip bs) f).2 w = 0))]) hs) : JC X A (.fn "_law_read") [tabD ws f, .lst (ps.map .str), .lst (bs.map fun b => .lst (pairsV b))] hs Q := by
  refine JC_def (d := defAt 25) (names := ["table", "primes", "brackets"]) (n := n + 2) (u := 0) G.T (G.fn "_law_read" 25 rfl).1 ok rfl (bind3 fun _ _ _ _ _ _ => rfl) (by rfl) (by decide) ?_
  intro L fa cd c2 c1 A' ok'
  have hh := ok'.1
  have hwz : ws.length ≤ sizeLine := Nat.le_trans (Nat.le_of_lt hz) (by decide)
  refine J_cons ?_
  refine J_Assign ?_
  refine J_DC (tg := false) G.T hh ?_
  refine Src_val ?_
  back_in
  refine ⟨_, Itb_dct, ?_⟩
  intro C
  refine CT_dict (rest := (L, .ns [("brackets", .lst (bs.map fun b => .lst (pairsV b))), ("primes", .lst (ps.map .str))]) :: (c2, .cell none) :: (c1, .cell (some (tabD ws f))) :: hs) [] strV (fun b => .int (f (strV b))) (by simpa using hwz) trivial ?_ ?_
  · intro b hb m K' hm hK
    refine Classical.byContradiction fun hno => ?_
    obtain ⟨w, hw, rfl⟩ := List.mem_map.mp hb
    refine hno ?_
    clear hno
    repeat back_in
    refine G_tabD (.inl rfl) hw ?_
    exact hK _ trivial
  · intro m' hm'
    refine ⟨_, m', _, _, rfl, rfl, .refl _, fun D => ?_⟩
    rw [show dputAll strV (fun b => .int (f (strV b))) (ws.map .str) [] = tabV ws f from dputAll_tab f ws [] hn]
    iterate 3 back_in
    refine J_ListM ?_
    back_in
    refine ⟨Nat.le_of_ble_eq_true rfl, fun S => ?_⟩
    back_in
    refine J.ns' (m' := [("shares", .ref S), ("brackets", .lst (bs.map fun b => .lst (pairsV b))), ("primes", .lst (ps.map .str))]) (.there (.there .here)) ⟨rfl, rfl, rfl, trivial⟩ ?_
    back_in
    refine J_For (tg := true) hh (fun _ => ⟨_, _, _, rfl⟩) ?_
    refine Src_call ?_
    repeat back_in
    refine ⟨_, Src_zip, ?_⟩
    rw [zipV_map]
    refine Loop.invMK (fun p : Str × List (Str × Int) => V.tup [.str p.1, .lst (pairsV p.2)]) (fun r h => ∃ sh g, sh ++ (readOff r g).1 = (readOff (ps.zip bs) f).1 ∧ (readOff r g).2 = (readOff (ps.zip bs) f).2 ∧
      h = (S, .list (intsOf sh)) :: (D, .dict (tabV ws g)) :: (L, .ns [("shares", .ref S), ("brackets", .lst (bs.map fun b => .lst (pairsV b))), ("primes", .lst (ps.map .str))]) :: (c2, .cell (some (.ref D))) :: (c1, .cell (some (tabD ws f))) :: hs) (xs := ps.zip bs) ?_ ?_ ?_
    · rintro ⟨w, named⟩ hp r h' ⟨sh, g, e1, e2, rfl⟩ K hK
      have hw := hpw w (List.of_mem_zip hp).1
      have hnm := hd named (List.of_mem_zip hp).2
      have hsl : sh.length ≤ 64 := by
        have := congrArg List.length e1
        rw [List.length_append, readOff_left, readOff_left, List.length_zip] at this
        (first | lia | omega)
      repeat back_in
      refine J_Meth1 meth_append ?_
      back_in
      refine ⟨TyAt.list (.head _), NoDct.list (.head _), ?_⟩
      repeat back_in
      refine G_dictK (.inl rfl) (.tail _ (.head _)) (tabV_get hw) ?_
      refine N_append (by rw [intsOf, List.length_map]; exact Nat.le_trans hsl (by decide)) .here ?_
      rw [ints_snoc]
      back_in
      refine J_Expr ?_
      repeat back_in
      refine G_dictK (.inl rfl) (.tail _ (.head _)) (tabV_get hw) ?_
      repeat back_in
      refine spec_neg (n := n) G ok'.down ?_
      repeat back_in
      refine JC.perm (.swap _ _ _) ?_
      refine spec_lay (n := n) G ok'.down hn hwz hnm ?_
      refine J.perm (.swap _ _ _) ?_
      refine J.ns' (m' := [("shares", .ref S), ("brackets", .lst (bs.map fun b => .lst (pairsV b))), ("primes", .lst (ps.map .str))]) (.there (.there .here)) ⟨rfl, rfl, rfl, trivial⟩ ?_
      refine J_nil (hK _ ⟨sh ++ [g w], _, ?_, ?_, rfl⟩)
      · rw [List.append_assoc]; exact e1
      · exact e2
    · rintro h' ⟨sh, g, e1, e2, rfl⟩
      simp only [readOff, List.append_nil] at e1 e2
      rw [← e1, ← e2] at h
      back_in
      refine J.perm (hs' := (D, .dict (tabV ws g)) :: (c2, .cell (some (.ref D))) :: (S, .list (intsOf sh)) :: (L, .ns [("shares", .ref S), ("brackets", .lst (bs.map fun b => .lst (pairsV b))), ("primes", .lst (ps.map .str))]) :: (c1, .cell (some (tabD ws f))) :: hs) ?_ ?_
      · refine (List.Perm.swap _ _ _).trans (.cons _ ?_)
        refine (List.Perm.cons _ (.swap _ _ _)).trans ?_
        exact .swap _ _ _
      refine J.shift Shift.dict_cell ?_
      rw [tabV_keys, tabV_vals]
      back_in
      back_in
      back_in
      refine Je_freezeL ?_
      back_in
      refine ⟨S, _, _, rfl, .swap _ _ _, ?_⟩
      back_in
      back_in
      refine J_LC (tg := false) G.T hh ?_
      refine Src_val ?_
      back_in
      refine ⟨_, Itb_dct, ?_⟩
      intro C2
      refine CT_flat [] (fun b => if g (strV b) = 0 then [] else [b]) (by
        rw [List.nil_append, pick_strs, List.length_map]
        exact Nat.le_trans (List.length_filter_le _ _) hwz) trivial ?_ ?_
      · intro b hb m ys K' hsz hm hK
        refine Classical.byContradiction fun hno => ?_
        obtain ⟨w, hw, rfl⟩ := List.mem_map.mp hb
        refine hno ?_
        clear hno
        repeat back_in
        refine Jifs_cons ?_
        refine J.ns (m' := [("word", .str w)]) ⟨rfl, trivial⟩ ?_
        repeat back_in
        refine G_tabD (.inl rfl) hw ?_
        repeat back_in
        by_cases e : g w = 0
        · rw [e]
          rw [if_neg (by decide), if_neg (by decide)]
          have e2 : ((if g (strV (V.str w)) = 0 then [] else [V.str w]) : List V) = [] := if_pos e
          rw [e2, List.append_nil] at hK
          exact hK _ trivial
        · have e2 : ((if g (strV (V.str w)) = 0 then [] else [V.str w]) : List V) = [V.str w] := if_neg e
          rw [e2] at hK hsz
          rw [if_pos (by simpa using e)]
          refine Jifs_nil ?_
          rw [if_pos rfl]
          refine eltOf_in ?_
          back_in
          exact ⟨by rw [List.length_append] at hsz; (first | lia | omega), hK _ trivial⟩
      · intro m2 hm2
        refine ⟨_, m2, _, _, rfl, rfl, .refl _, ?_⟩
        rw [List.nil_append, pick_strs]
        repeat back_in
        refine ⟨Nat.le_of_ble_eq_true rfl, ?_⟩
        refine C_eq_strs0 (n := n) ok'.base (fun x hx => hso x (List.mem_filter.mp hx).1) ?_
        repeat back_in
        refine ⟨Nat.le_of_ble_eq_true rfl, ?_⟩
        refine ⟨hs, ?_, ?_⟩
        · exact .cons _ (.cons _ (.cons _ (.refl _)))
        · have e : (ws.filter fun w => !decide (g w = 0)).isEmpty = decide (∀ w ∈ ws, g w = 0) := by
            rw [Bool.eq_iff_iff]
            simp [List.filter_eq_nil_iff]
          rw [e]; exact h
    · exact ⟨[], f, rfl, rfl, rfl⟩
end
end
section
section
variable {X : Fx} {A : Around} {hs : HS}
noncomputable def headS (x : Str) : Str := ⟨#[x.cps.getD 0 0]⟩
noncomputable def tailS (x : Str) : Str := cutS x (some 1) none
noncomputable def rif : Nat → Str → Str → List Str
  | 0, a, b => [a ++ b]
  | f + 1, a, b => if a == "" || b == "" then [a ++ b] else (rif f (tailS a) b).map (headS a ++ ·) ++ (rif f a (tailS b)).map (headS b ++ ·)
noncomputable def smallW (l : List Str) : Bool := decide (l.length ≤ 64) && l.all fun x => decide (x.length ≤ 64)
noncomputable def rifOk : Nat → Str → Str → Bool
  | 0, a, b => (a == "" || b == "") && decide (a.length ≤ 64) && decide (b.length ≤ 64)
  | f + 1, a, b => decide (a.length ≤ 64) && decide (b.length ≤ 64) && ((a == "" || b == "") || (decide (1 ≤ a.length) && decide (1 ≤ b.length) && smallW (rif f (tailS a) b) && smallW (rif f a (tailS b)) && rifOk f (tailS a) b && rifOk f a (tailS b)))
theorem smallW_at {l : List Str} (h : smallW l = true) : l.length ≤ 64 ∧ ∀ x ∈ l, x.length ≤ 64 := by
  simp only [smallW, Bool.and_eq_true, decide_eq_true_eq, List.all_eq_true] at h
  exact h
theorem pre_V (p : Str) (l : List Str) : ((l.map V.str).flatMap fun b => [V.str (p ++ strV b)]) = (l.map (p ++ ·)).map .str := by
  rw [List.flatMap_map, ← List.map_eq_flatMap, List.map_map]
  rfl
theorem head_at {x : Str} (h : 1 ≤ x.length) : x.cps[(0 : Int).toNat]? = some (x.cps.getD 0 0) := by
  show x.cps[0]? = _
  have h0 : 0 < x.cps.size := h
  simp [Array.getD, h0]
theorem spec_riffles : ∀ (f : Nat) {A : Around} {hs : HS} {n : Nat} {a b : Str} {Q : V → HS → Prop} (G : Prog X) (ok : Ok A (n + f + 1) 1) (hw : rifOk f a b = true) (h : Q (.lst ((rif f a b).map .str)) hs), JC X A (.fn "_law_riffles") [.str a, .str b] hs Q := by
  have short : ∀ {A : Around} {hs : HS} {n : Nat} {a b : Str} {Q : V → HS → Prop} (G : Prog X) (ok : Ok A (n + 1) 1) (h0 : (a == "" || b == "") = true) (hal : a.length ≤ 64) (hbl : b.length ≤ 64) (h : Q (.lst [.str (a ++ b)]) hs), JC X A (.fn "_law_riffles") [.str a, .str b] hs Q := by
    intro A hs n a b Q G ok h0 hal hbl h
    refine JC_def (d := defAt 26) (names := ["one", "two"]) (n := n) (u := 0) G.T (G.fn "_law_riffles" 26 rfl).1 ok rfl (bind2 fun _ _ _ _ _ => rfl) (by rfl) (by decide) ?_
    intro L fa cd c2 c1 A' ok'
    have hh := ok'.1
    have hz : a.length + b.length ≤ sizeLine := Nat.le_trans (Nat.add_le_add hal hbl) (by decide)
    repeat back_in
    cases ha : (a == ("" : Str)) with
    | true =>
      rw [if_pos rfl, if_pos rfl]
      repeat back_in
      refine B_adds hz ?_
      repeat back_in
      exact ⟨Nat.le_of_ble_eq_true rfl, hs, .cons _ (.cons _ (.cons _ (.refl _))), h⟩
    | false =>
      rw [ha, Bool.false_or] at h0
      rw [if_neg (by decide)]
      repeat back_in
      rw [h0, if_pos rfl, if_pos rfl]
      repeat back_in
      refine B_adds hz ?_
      repeat back_in
      exact ⟨Nat.le_of_ble_eq_true rfl, hs, .cons _ (.cons _ (.cons _ (.refl _))), h⟩
  intro f
  induction f with
  | zero =>
    intro A hs n a b Q G ok hw h
    simp only [rifOk, Bool.and_eq_true, decide_eq_true_eq] at hw
    exact short (n := n) G ok hw.1.1 hw.1.2 hw.2 h
  | succ f ih =>
    intro A hs n a b Q G ok hw h
    simp only [rifOk, Bool.and_eq_true, decide_eq_true_eq, Bool.or_eq_true (a == "" || b == "")] at hw
    refine Classical.byContradiction fun hno => ?_
    obtain ⟨⟨hal, hbl⟩, hw⟩ := hw
    refine hno ?_
    clear hno
    cases h0 : (a == ("" : Str) || b == ("" : Str)) with
    | true =>
      simp only [rif, h0, if_true] at h
      exact short (n := n + f + 1) G (ok.le (by (first | lia | omega))) h0 hal hbl h
    | false =>
      rw [h0] at hw
      simp only [Bool.false_eq_true, false_or] at hw
      refine Classical.byContradiction fun hno => ?_
      obtain ⟨⟨⟨⟨⟨ha1, hb1⟩, hs1⟩, hs2⟩, hok1⟩, hok2⟩ := hw
      refine hno ?_
      clear hno
      have e0 := Bool.or_eq_false_iff.mp h0
      obtain ⟨hl1, hx1⟩ := smallW_at hs1
      obtain ⟨hl2, hx2⟩ := smallW_at hs2
      simp only [rif, h0, Bool.false_eq_true, if_false] at h
      refine JC_def (d := defAt 26) (names := ["one", "two"]) (n := n + f + 1) (u := 0) G.T (G.fn "_law_riffles" 26 rfl).1 (ok.le (by (first | lia | omega))) rfl (bind2 fun _ _ _ _ _ => rfl) (by rfl) (by decide) ?_
      intro L fa cd c2 c1 A' ok'
      have hh := ok'.1
      have haz : a.length ≤ sizeLine := Nat.le_trans hal (by decide)
      have hbz : b.length ≤ sizeLine := Nat.le_trans hbl (by decide)
      repeat back_in
      rw [e0.1, if_neg (by decide)]
      repeat back_in
      rw [e0.2, if_neg (by decide)]
      repeat back_in
      rw [if_neg (by decide)]
      refine J_nil ?_
      repeat back_in
      refine J_LC (tg := false) G.T hh ?_
      refine Src_val ?_
      repeat back_in
      refine Sl_str (lo := some 1) (hi := none) haz ?_
      repeat back_in
      refine ih (n := n) G (ok'.le (by (first | lia | omega))) hok1 ?_
      refine ⟨_, Itb_lst, ?_⟩
      intro C
      refine CT_flat (rest := (L, .ns []) :: (c2, .cell (some (.str b))) :: (c1, .cell (some (.str a))) :: hs) [] (fun x => [V.str (headS a ++ strV x)]) (by
        rw [List.nil_append, pre_V, List.length_map, List.length_map]
        exact Nat.le_trans hl1 (by decide)) trivial ?_ ?_
      · intro x hx m ys K' hsz hm hK
        refine Classical.byContradiction fun hno => ?_
        obtain ⟨w, hw, rfl⟩ := List.mem_map.mp hx
        refine hno ?_
        clear hno
        repeat back_in
        refine Jifs_nil ?_
        rw [if_pos rfl]
        refine eltOf_in ?_
        refine J.ns (m' := [("word", .str w)]) ⟨rfl, trivial⟩ ?_
        repeat back_in
        refine G_str (by decide) (by decide) (head_at ha1) ?_
        repeat back_in
        refine B_adds (by
          show 1 + w.length ≤ sizeLine
          exact Nat.le_trans (Nat.add_le_add_left (hx1 w hw) 1) (by decide)) ?_
        exact ⟨by rw [List.length_append] at hsz; (first | lia | omega), hK _ trivial⟩
      intro m' hm'
      refine ⟨_, m', _, _, rfl, rfl, .refl _, ?_⟩
      rw [List.nil_append, pre_V]
      refine J_LC (tg := false) G.T hh ?_
      refine Src_val ?_
      repeat back_in
      refine Sl_str (lo := some 1) (hi := none) hbz ?_
      repeat back_in
      refine ih (n := n) G (ok'.le (by (first | lia | omega))) hok2 ?_
      refine ⟨_, Itb_lst, ?_⟩
      intro C2
      refine CT_flat (rest := (L, .ns []) :: (c2, .cell (some (.str b))) :: (c1, .cell (some (.str a))) :: hs) [] (fun x => [V.str (headS b ++ strV x)]) (by
        rw [List.nil_append, pre_V, List.length_map, List.length_map]
        exact Nat.le_trans hl2 (by decide)) trivial ?_ ?_
      · intro x hx m ys K' hsz hm hK
        refine Classical.byContradiction fun hno => ?_
        obtain ⟨w, hw, rfl⟩ := List.mem_map.mp hx
        refine hno ?_
        clear hno
        repeat back_in
        refine Jifs_nil ?_
        rw [if_pos rfl]
        refine eltOf_in ?_
        refine J.ns (m' := [("word", .str w)]) ⟨rfl, trivial⟩ ?_
        repeat back_in
        refine G_str (by decide) (by decide) (head_at hb1) ?_
        repeat back_in
        refine B_adds (by
          show 1 + w.length ≤ sizeLine
          exact Nat.le_trans (Nat.add_le_add_left (hx2 w hw) 1) (by decide)) ?_
        exact ⟨by rw [List.length_append] at hsz; (first | lia | omega), hK _ trivial⟩
      intro m2 hm2
      refine ⟨_, m2, _, _, rfl, rfl, .refl _, ?_⟩
      rw [List.nil_append, pre_V]
      refine B_addl (by simp only [List.length_map]; exact Nat.le_trans (Nat.add_le_add hl1 hl2) (by decide)) ?_
      rw [← List.map_append]
      exact ⟨hs, .cons _ (.cons _ (.cons _ (.refl _))), h⟩
end
end
section
section
variable {X : Fx} {A : Around} {hs : HS}
theorem noPylong {x y : Int} (h : Builtin.Int.intBits y ≤ 9000) : Builtin.divisionGoesByPylong x y = false := by
  unfold Builtin.divisionGoesByPylong
  unfold Builtin.Int.intBits at h
  dsimp only
  rw [Bool.and_eq_false_iff]
  left
  rw [decide_eq_false_iff_not]
  split at h
  · rename_i e; rw [if_pos e]; (first | lia | omega)
  · rename_i e; rw [if_neg e]; (first | lia | omega)
theorem noPylong_near {x y : Int} (h : Builtin.Int.intBits x ≤ Builtin.Int.intBits y + 4000) : Builtin.divisionGoesByPylong x y = false := by
  unfold Builtin.divisionGoesByPylong
  unfold Builtin.Int.intBits at h
  dsimp only
  rw [Bool.and_eq_false_iff]
  right
  rw [decide_eq_false_iff_not]
  split at h <;> split at h <;> rename_i e1 e2
  · rw [if_pos e1, if_pos e2]; (first | lia | omega)
  · rw [if_pos e1, if_neg e2]; (first | lia | omega)
  · rw [if_neg e1, if_pos e2]; (first | lia | omega)
  · rw [if_neg e1, if_neg e2]; (first | lia | omega)
noncomputable def keysOf (rs : List Str) : List Str := (dputAll strV (fun _ => V.int 1) (rs.map .str) []).map (·.1)
theorem dput_mem (r : List (Str × V)) (k : Str) (b : V) : k ∈ (dput r k b).map (·.1) ∧ ∀ x ∈ r.map (·.1), x ∈ (dput r k b).map (·.1) := by
  induction r with
  | nil => exact ⟨by simp [dput], fun x hx => by simp at hx⟩
  | cons p r ih =>
    obtain ⟨k', b'⟩ := p
    simp only [dput]
    by_cases e : k' = k
    · rw [if_pos e]
      exact ⟨by simp [e], fun x hx => by simpa using hx⟩
    · rw [if_neg e]
      refine ⟨by simp only [List.map_cons, List.mem_cons]; exact .inr ih.1, fun x hx => ?_⟩
      simp only [List.map_cons, List.mem_cons] at hx ⊢
      rcases hx with h | h
      · exact .inl h
      · exact .inr (ih.2 x h)
theorem dputAll_keys (g : V → V) : ∀ (rs : List Str) (r : List (Str × V)), (r.map (·.1)).Nodup → ((dputAll strV g (rs.map .str) r).map (·.1)).Nodup ∧ (∀ x ∈ r.map (·.1), x ∈ (dputAll strV g (rs.map .str) r).map (·.1)) ∧
    (∀ x ∈ rs, x ∈ (dputAll strV g (rs.map .str) r).map (·.1)) ∧ ∀ x ∈ (dputAll strV g (rs.map .str) r).map (·.1), x ∈ rs ∨ x ∈ r.map (·.1)
  | [], r, h => ⟨h, fun x hx => hx, fun x hx => (List.not_mem_nil hx).elim, fun x hx => .inr hx⟩
  | w :: rs, r, h => by
    refine Classical.byContradiction fun hno => ?_
    obtain ⟨h1, h2, h3, h4⟩ := dputAll_keys g rs (dput r w (g (.str w))) (dput_nodup h)
    refine hno ?_
    clear hno
    have hm := dput_mem r w (g (.str w))
    refine ⟨h1, fun x hx => h2 x (hm.2 x hx), fun x hx => ?_, fun x hx => ?_⟩
    · rcases List.mem_cons.mp hx with rfl | hx
      · exact h2 x hm.1
      · exact h3 x hx
    · rcases h4 x hx with q | q
      · exact .inl (List.mem_cons_of_mem _ q)
      · rcases dput_keys_mem q with rfl | q
        · exact .inl List.mem_cons_self
        · exact .inr q
theorem keysOf_nodup (rs : List Str) : (keysOf rs).Nodup := (dputAll_keys _ rs [] List.nodup_nil).1
theorem keysOf_has (rs : List Str) : ∀ x ∈ rs, x ∈ keysOf rs := (dputAll_keys _ rs [] List.nodup_nil).2.2.1
theorem keysOf_in (rs : List Str) : ∀ x ∈ keysOf rs, x ∈ rs := fun x hx => ((dputAll_keys _ rs [] List.nodup_nil).2.2.2 x hx).elim id fun q => by simp at q
theorem sum_one (f : Str → Int) (x : Str) : ∀ ks : List Str, ks.Nodup → x ∈ ks → (ks.map fun k => if x = k then f k else 0).sum = f x
  | [], _, h => nomatch h
  | k :: ks, hn, h => by
    have hn' := List.nodup_cons.mp hn
    rw [List.map_cons, List.sum_cons]
    by_cases e : x = k
    · subst e
      rw [if_pos rfl]
      have z : (ks.map fun k => if x = k then f k else 0) = ks.map fun _ => 0 := List.map_congr_left fun k hk => if_neg (fun q => hn'.1 (by rw [q]; exact hk))
      rw [z]
      have : ∀ l : List Str, (l.map fun _ => (0 : Int)).sum = 0 := fun l => by induction l with
        | nil => rfl
        | cons a l ih => rw [List.map_cons, List.sum_cons, ih]; rfl
      rw [this]; (first | lia | omega)
    · rw [if_neg e, sum_one f x ks hn'.2 (by rcases List.mem_cons.mp h with q | q; exact absurd q e; exact q)]
      (first | lia | omega)
theorem sum_add {α : Type} (f g : α → Int) : ∀ ks : List α, (ks.map fun k => f k + g k).sum = (ks.map f).sum + (ks.map g).sum
  | [] => rfl
  | k :: ks => by
    simp only [List.map_cons, List.sum_cons, sum_add f g ks]
    (first | lia | omega)
theorem sum_count (f : Str → Int) (ks : List Str) (hn : ks.Nodup) : ∀ rs : List Str, (∀ x ∈ rs, x ∈ ks) → (ks.map fun k => ((rs.count k : Nat) : Int) * f k).sum = (rs.map f).sum
  | [], _ => by
    have : ∀ l : List Str, (l.map fun k => ((([] : List Str).count k : Nat) : Int) * f k).sum = 0 := fun l => by induction l with
      | nil => rfl
      | cons a l ih => rw [List.map_cons, List.sum_cons, ih]; simp
    rw [this]; rfl
  | x :: rs, h => by
    have e : (fun k => (((x :: rs).count k : Nat) : Int) * f k) = fun k => ((rs.count k : Nat) : Int) * f k + if x = k then f k else 0 := funext fun k => by
      rw [List.count_cons]
      by_cases q : x = k
      · subst q
        rw [if_pos (by simp), if_pos rfl, Int.natCast_add, Int.add_mul]
        simp
      · rw [if_neg (by simpa using q), if_neg q, Nat.add_zero, Int.add_zero]
    rw [e, sum_add, sum_count f ks hn rs fun y hy => h y (List.mem_cons_of_mem _ hy), sum_one f x ks hn (h x List.mem_cons_self), List.map_cons, List.sum_cons]
    (first | lia | omega)
noncomputable def rifs (cut : Nat) (w : Str) : List Str := rif 8 (cutS w none (some (cut : Int))) (cutS w (some (cut : Int)) none)
noncomputable def pairing (f : Str → Int) (cut : Nat) (w : Str) : Int := ((rifs cut w).map f).sum
noncomputable def cutsOf (k : Nat) : List Nat := (List.range (k / 2)).map (· + 1)
noncomputable def cancOk (ws : List Str) (k : Nat) : Bool := (cutsOf k).all fun cut => ws.all fun w => decide (w.length ≤ 64) && rifOk 8 (cutS w none (some (cut : Int))) (cutS w (some (cut : Int)) none) && decide ((rifs cut w).length ≤ 63) && (rifs cut w).all fun r => ws.contains r
theorem cut_range (k : Nat) : rangeV 1 1 (k / 2) = (cutsOf k).map fun i : Nat => V.int i := by
  rw [rangeV_map, cutsOf, List.map_map]
  refine List.map_congr_left fun i _ => ?_
  simp only [Function.comp, V.int.injEq]
  (first | lia | omega)
theorem spec_cancelled {n : Nat} {ws : List Str} {f : Str → Int} {k : Nat} {Q : V → HS → Prop} (G : Prog X) (ok : Ok A (n + 10) 1) (hk : k ≤ 64) (hz : ws.length < 64) (hn : ws.Nodup) (hc : cancOk ws k = true)
    (h : Q (.bool (decide (∀ c ∈ cutsOf k, ∀ w ∈ ws, pairing f c w = 0))) hs) : JC X A (.fn "_law_cancelled") [tabD ws f, .int k] hs Q := by
  refine JC_def (d := defAt 27) (names := ["table", "size"]) (n := n + 9) (u := 0) G.T (G.fn "_law_cancelled" 27 rfl).1 ok rfl (bind2 fun _ _ _ _ _ => rfl) (by rfl) (by decide) ?_
  intro L fa cd c2 c1 A' ok'
  have hh := ok'.1
  have hc' : ∀ c ∈ cutsOf k, ∀ w ∈ ws, w.length ≤ 64 ∧ rifOk 8 (cutS w none (some (c : Int))) (cutS w (some (c : Int)) none) = true ∧ (rifs c w).length ≤ 63 ∧ ∀ r ∈ rifs c w, r ∈ ws := fun c hcm w hw => by
    have := List.all_eq_true.mp (List.all_eq_true.mp hc c hcm) w hw
    simp only [Bool.and_eq_true, decide_eq_true_eq, List.all_eq_true, List.contains_iff_mem] at this
    exact ⟨this.1.1.1, this.1.1.2, this.1.2, this.2⟩
  back_in
  refine J_For (tg := false) hh (fun x => nomatch x) ?_
  refine Src_call ?_
  repeat back_in
  refine B_fdiv (by decide) (noPylong (by decide)) ?_
  rw [show ((k : Int).fdiv 2) = ((k / 2 : Nat) : Int) by rw [Int.fdiv_eq_ediv_of_nonneg _ (by decide)]; rfl]
  repeat back_in
  refine ⟨_, Src_range2 (by (first | lia | omega)) (by (first | lia | omega)) (by (first | lia | omega)) (by (first | lia | omega)), ?_⟩
  rw [show (((k / 2 : Nat) : Int) + 1 - 1).toNat = k / 2 by (first | lia | omega), cut_range]
  refine Loop.invMR (fun i : Nat => V.int i) (fun r h => (∀ c ∈ cutsOf k, c ∈ r ∨ ∀ w ∈ ws, pairing f c w = 0) ∧ ∃ o m, subNs m [("size", .int k)] ∧ h = (L, .ns m) :: (c2, .cell o) :: (c1, .cell (some (tabD ws f))) :: hs) (xs := cutsOf k) ?_ ?_ ?_
  · rintro c hcm r h' ⟨hdone, o, m, hm, rfl⟩ K1 hN1 hR1
    repeat back_in
    refine J_For (tg := false) hh (fun x => nomatch x) ?_
    refine Src_val ?_
    repeat back_in
    refine ⟨_, Itb_dct, ?_⟩
    refine Loop.invMR V.str (fun r' h => (∀ w ∈ ws, w ∈ r' ∨ pairing f c w = 0) ∧ ∃ o m, subNs m [("size", .int k), ("cut", .int c)] ∧ h = (L, .ns m) :: (c2, .cell o) :: (c1, .cell (some (tabD ws f))) :: hs) (xs := ws) ?_ ?_ ?_
    · rintro w hw r' h' ⟨hdone', o, m, hm, rfl⟩ K2 hN2 hR2
      refine Classical.byContradiction fun hno => ?_
      obtain ⟨hwl, hrok, hrl, hrw⟩ := hc' c hcm w hw
      refine hno ?_
      clear hno
      have hwz : w.length ≤ sizeLine := Nat.le_trans hwl (by decide)
      repeat back_in
      refine J.ns (m' := [("word", .str w), ("size", .int k), ("cut", .int c)]) ⟨rfl, hm.1, hm.2.1, trivial⟩ ?_
      repeat back_in
      refine Sl_str (lo := none) (hi := some (c : Int)) hwz ?_
      repeat back_in
      refine Sl_str (lo := some (c : Int)) (hi := none) hwz ?_
      repeat back_in
      refine spec_riffles 8 (n := n) G (ok'.le (by (first | lia | omega))) hrok ?_
      repeat back_in
      refine J_LC (tg := false) G.T hh ?_
      refine Src_val ?_
      refine Je_freezeD ?_
      refine J_DC (tg := false) G.T hh ?_
      refine Src_val ?_
      repeat back_in
      refine ⟨_, Itb_lst, ?_⟩
      intro C
      refine CT_dict [] strV (fun _ => V.int 1) (by
        rw [List.length_map]
        exact Nat.le_trans (Nat.le_trans (by simpa [rifs] using hrl) (by decide : 63 ≤ 63)) (by decide)) trivial ?_ ?_
      · intro b hb m2 K' hm2 hK
        refine Classical.byContradiction fun hno => ?_
        obtain ⟨x, hx, rfl⟩ := List.mem_map.mp hb
        refine hno ?_
        clear hno
        repeat back_in
        exact hK _ trivial
      intro m2 hm2
      refine ⟨_, m2, _, _, rfl, rfl, .refl _, fun D => ?_⟩
      refine ⟨D, _, _, rfl, .refl _, ?_⟩
      refine ⟨_, Itb_dct, ?_⟩
      intro C2
      refine CT_flat [] (fun b => [V.int (((rifs c w).count (strV b) : Nat) * f (strV b))]) ?_ trivial ?_ ?_
      · rw [List.nil_append, ← List.map_eq_flatMap, List.length_map, List.length_map, List.length_map]
        have := dputAll_length strV (fun _ => V.int 1) ((rifs c w).map .str) []
        rw [List.length_map] at this
        exact Nat.le_trans (Nat.le_trans this (by simpa using hrl)) (by decide)
      · intro b hb m3 ys K' hsz hm3 hK
        refine Classical.byContradiction fun hno => ?_
        obtain ⟨x, hx, rfl⟩ := List.mem_map.mp hb
        refine hno ?_
        clear hno
        have hxr : x ∈ rifs c w := keysOf_in _ x hx
        repeat back_in
        refine Jifs_nil ?_
        rw [if_pos rfl]
        refine eltOf_in ?_
        refine J.ns (m' := [("other", .str x)]) ⟨rfl, trivial⟩ ?_
        repeat back_in
        refine spec_countOf (n := n) G (ok'.le (by (first | lia | omega))) ?_
        repeat back_in
        refine G_tabD (.inl rfl) (hrw x hxr) ?_
        refine B_mul (.of_left (intBits_cast_le (Nat.le_trans List.count_le_length (Nat.le_trans hrl (by decide))))) ?_
        exact ⟨by rw [List.length_append] at hsz; (first | lia | omega), hK _ trivial⟩
      · intro m3 hm3
        refine ⟨_, m3, _, _, rfl, rfl, .refl _, ?_⟩
        have es : ([] ++ ((keysOf (rifs c w)).map V.str).flatMap fun b => [V.int (((rifs c w).count (strV b) : Nat) * f (strV b))]) = intsOf ((keysOf (rifs c w)).map fun x => ((rifs c w).count x : Nat) * f x) := by
          rw [List.nil_append, ← List.map_eq_flatMap, List.map_map, intsOf, List.map_map]
          rfl
        rw [show (dputAll strV (fun _ => V.int 1) ((rif 8 (cutS w none (some (c : Int))) (cutS w (some (c : Int)) none)).map .str) []).map (·.1) = keysOf (rifs c w) from rfl, es]
        repeat back_in
        refine N_sum (n := n) (ok'.le (by (first | lia | omega))) ?_
        rw [sum_count f _ (keysOf_nodup _) _ (keysOf_has _)]
        repeat back_in
        rw [show ((rifs c w).map f).sum = pairing f c w from rfl]
        by_cases e : pairing f c w = 0
        · rw [e, if_neg (by decide)]
          refine J_nil (J_nil (hN2 _ ⟨?_, _, _, ?_, rfl⟩))
          · intro w' hw'
            rcases hdone' w' hw' with q | q
            · rcases List.mem_cons.mp q with rfl | q
              · exact .inr e
              · exact .inl q
            · exact .inr q
          · exact ⟨rfl, rfl, trivial⟩
        · rw [if_pos (by simpa using e)]
          repeat back_in
          refine hR2 _ _ (hR1 _ _ ?_)
          refine ⟨hs, .cons _ (.cons _ (.cons _ (.refl _))), ?_⟩
          rw [decide_eq_false (fun q => e (q c hcm w hw))] at h
          exact h
    · rintro h' ⟨hdone', o, m, hm, rfl⟩
      refine J_nil (hN1 _ ⟨?_, o, m, ⟨hm.1, trivial⟩, rfl⟩)
      intro c' hc''
      rcases hdone c' hc'' with q | q
      · rcases List.mem_cons.mp q with rfl | q
        · exact .inr fun w hw => (hdone' w hw).elim (fun q => (List.not_mem_nil q).elim) id
        · exact .inl q
      · exact .inr q
    · exact ⟨fun w hw => .inl hw, _, ("cut", V.int c) :: m, ⟨hm.1, rfl, trivial⟩, rfl⟩
  · rintro h' ⟨hdone, o, m, hm, rfl⟩
    repeat back_in
    refine ⟨hs, .cons _ (.cons _ (.cons _ (.refl _))), ?_⟩
    rw [decide_eq_true (fun c hc w hw => (hdone c hc).elim (fun q => (List.not_mem_nil q).elim) fun q => q w hw)] at h
    exact h
  · exact ⟨fun c hc => .inl hc, _, _, ⟨rfl, trivial⟩, rfl⟩
end
end
section
section
variable {X : Fx} {A : Around} {hs : HS}
theorem str_len_app (x y : Str) : (x ++ y).length = x.length + y.length := Array.size_append
noncomputable def lrow (c : Nat) (rows : List (Str × Int)) : List (Str × Int) := rows.map (fun p => (p.1 ++ ⟨#[c]⟩, p.2)) ++ rows.map (fun p => ((⟨#[c]⟩ : Str) ++ p.1, -p.2))
noncomputable def lrows (cs : List Nat) (rows : List (Str × Int)) : List (Str × Int) := cs.foldl (fun rows c => lrow c rows) rows
noncomputable def leftRows (w : Str) (t : Int) : List (Str × Int) := lrows (tailS w).cps.toList [(headS w, t)]
noncomputable def leftOf (ws : List Str) (f : Str → Int) (v : Str) : Int := (ws.map fun w => cf (leftRows w (f w)) v).sum
noncomputable def leftOk (ws : List Str) : Bool := ws.all fun w => decide (1 ≤ w.length) && decide (w.length ≤ 64) && w.cps.all (· < 128) && (tailS w).cps.all (· < 128) && decide ((tailS w).cps.toList.length + 1 ≤ 64) && decide ((leftRows w 1).length ≤ 64) && (leftRows w 1).all fun p => ws.contains p.1
theorem lrow_scale (t : Int) (c : Nat) (rows : List (Str × Int)) : lrow c (rows.map fun p => (p.1, p.2 * t)) = (lrow c rows).map fun p => (p.1, p.2 * t) := by
  simp only [lrow, List.map_append, List.map_map]
  congr 1
  refine List.map_congr_left fun p _ => ?_
  simp [Int.neg_mul]
theorem lrows_scale (t : Int) : ∀ (cs : List Nat) (rows : List (Str × Int)), lrows cs (rows.map fun p => (p.1, p.2 * t)) = (lrows cs rows).map fun p => (p.1, p.2 * t)
  | [], _ => rfl
  | c :: cs, rows => by
    show lrows cs (lrow c _) = (lrows cs (lrow c rows)).map _
    rw [lrow_scale, lrows_scale t cs]
theorem leftRows_scale (w : Str) (t : Int) : leftRows w t = (leftRows w 1).map fun p => (p.1, p.2 * t) := by
  rw [leftRows, leftRows, ← lrows_scale]
  simp
theorem lrows_len : ∀ (cs : List Nat) (rows : List (Str × Int)), rows.length ≤ (lrows cs rows).length
  | [], _ => Nat.le_refl _
  | c :: cs, rows => by
    have := lrows_len cs (lrow c rows)
    have e : (lrow c rows).length = rows.length + rows.length := by simp [lrow]
    show rows.length ≤ (lrows cs (lrow c rows)).length
    (first | lia | omega)
theorem pairs_right (c : Str) (rows : List (Str × Int)) : ((pairsV rows).flatMap fun b => match b with | .tup [.str x, .int t] => [V.tup [.str (x ++ c), .int t]] | _ => []) = pairsV (rows.map fun p => (p.1 ++ c, p.2)) := by
  unfold pairsV
  rw [List.flatMap_map, List.map_map, ← List.map_eq_flatMap]
  rfl
theorem pairs_left (c : Str) (rows : List (Str × Int)) : ((pairsV rows).flatMap fun b => match b with | .tup [.str x, .int t] => [V.tup [.str (c ++ x), .int (-t)]] | _ => []) = pairsV (rows.map fun p => (c ++ p.1, -p.2)) := by
  unfold pairsV
  rw [List.flatMap_map, List.map_map, ← List.map_eq_flatMap]
  rfl
theorem spec_left {n : Nat} {ws : List Str} {f : Str → Int} {Q : V → HS → Prop} (G : Prog X) (ok : Ok A (n + 1) 1) (hz : ws.length < 64) (hn : ws.Nodup) (hc : leftOk ws = true)
    (h : Q (tabD ws (leftOf ws f)) hs) : JC X A (.fn "_law_left") [tabD ws f] hs Q := by
  refine JC_def (d := defAt 28) (names := ["table"]) (n := n) (u := 0) G.T (G.fn "_law_left" 28 rfl).1 ok rfl (bind1 fun _ _ _ _ => rfl) (by rfl) (by decide) ?_
  intro L fa cd cl A' ok'
  have hh := ok'.1
  have hwz : ws.length ≤ sizeLine := Nat.le_trans (Nat.le_of_lt hz) (by decide)
  refine J_cons ?_
  refine J_Assign_DC (tg := false) G.T hh ?_
  refine Src_val ?_
  back_in
  refine ⟨_, Itb_dct, ?_⟩
  intro C
  refine CT_dict (rest := (L, .ns [("table", tabD ws f)]) :: (cl, .cell none) :: hs) [] strV (fun b => .int ((fun _ => 0) (strV b))) (by simpa using hwz) trivial ?_ ?_
  · intro b hb m K' hm hK
    refine Classical.byContradiction fun hno => ?_
    obtain ⟨w, hw, rfl⟩ := List.mem_map.mp hb
    refine hno ?_
    clear hno
    repeat back_in
    exact hK _ trivial
  intro m' hm'
  refine ⟨_, m', _, _, rfl, rfl, .refl _, fun D => ?_⟩
  rw [show dputAll strV (fun b => .int ((fun _ => 0) (strV b))) (ws.map .str) [] = tabV ws (fun _ => 0) from dputAll_tab (fun _ => 0) ws [] hn]
  repeat back_in
  refine J.perm (hs' := (L, .ns [("whole", .ref D), ("table", tabD ws f)]) :: (cl, .cell none) :: (D, .dict (tabV ws fun _ => 0)) :: hs) ((List.Perm.swap _ _ _).trans (.cons _ (.swap _ _ _))) ?_
  refine J_For (tg := false) hh (fun x => nomatch x) ?_
  refine Src_val ?_
  repeat back_in
  refine ⟨_, Itb_dct, ?_⟩
  refine Loop.invMK V.str (fun r h => ∃ g o m, (∀ v, g v + (r.map fun w => cf (leftRows w (f w)) v).sum = leftOf ws f v) ∧ subNs m [("whole", .ref D), ("table", tabD ws f)] ∧ h = (L, .ns m) :: (cl, .cell o) :: (D, .dict (tabV ws g)) :: hs) (xs := ws) ?_ ?_ ?_
  · rintro w hw r h' ⟨g, o, m, hg, hm, rfl⟩ K hK
    have hc' := List.all_eq_true.mp hc w hw
    simp only [Bool.and_eq_true, decide_eq_true_eq] at hc'
    refine Classical.byContradiction fun hno => ?_
    obtain ⟨⟨⟨⟨⟨⟨hw1, hw64⟩, hwa⟩, hta⟩, htl⟩, hrl⟩, hrw⟩ := hc'
    refine hno ?_
    clear hno
    have hwsz : w.length ≤ sizeLine := Nat.le_trans hw64 (by decide)
    have hrl' : (leftRows w (f w)).length ≤ 64 := by rw [leftRows_scale, List.length_map]; exact hrl
    have hrw' : ∀ p ∈ leftRows w (f w), p.1 ∈ ws := fun p hp => by
      rw [leftRows_scale] at hp
      refine Classical.byContradiction fun hno => ?_
      obtain ⟨q, hq, rfl⟩ := List.mem_map.mp hp
      refine hno ?_
      clear hno
      exact List.contains_iff_mem.mp (List.all_eq_true.mp hrw q hq)
    iterate 2 back_in
    refine J.ns (m' := [("word", .str w), ("whole", .ref D), ("table", tabD ws f)]) ⟨rfl, hm.1, hm.2.1, trivial⟩ ?_
    repeat back_in
    refine G_str (by decide) (by decide) (head_at hw1) ?_
    repeat back_in
    refine G_tabD (.inl rfl) hw ?_
    repeat back_in
    refine ⟨Nat.le_of_ble_eq_true rfl, ?_⟩
    repeat back_in
    refine ⟨Nat.le_of_ble_eq_true rfl, ?_⟩
    repeat back_in
    refine J_For (tg := false) hh (fun x => nomatch x) ?_
    refine Src_val ?_
    repeat back_in
    refine Sl_str (lo := some 1) (hi := none) hwsz ?_
    refine ⟨_, Itb_str (.inl rfl) hta, ?_⟩
    refine Loop.invMK (fun c => V.str ⟨#[c]⟩) (fun cs h => ∃ rows o m, lrows cs rows = leftRows w (f w) ∧ (∀ p ∈ rows, p.1.length + cs.length ≤ 64) ∧ subNs m [("rows", .lst (pairsV rows)), ("whole", .ref D), ("table", tabD ws f)] ∧ h = (L, .ns m) :: (cl, .cell o) :: (D, .dict (tabV ws g)) :: hs) (xs := (tailS w).cps.toList) ?_ ?_ ?_
    · rintro c hcm cs h' ⟨rows, o, m, hr, hl, hm, rfl⟩ K' hK'
      have hrz : (lrow c rows).length ≤ 64 := by
        have := lrows_len cs (lrow c rows)
        rw [show lrows cs (lrow c rows) = leftRows w (f w) from hr] at this
        (first | lia | omega)
      have hrz2 : (lrow c rows).length = rows.length + rows.length := by simp [lrow]
      have hpl : (pairsV rows).length ≤ 64 := by rw [pairsV, List.length_map]; (first | lia | omega)
      iterate 2 back_in
      refine J.ns (m' := [("rows", .lst (pairsV rows)), ("whole", .ref D), ("table", tabD ws f)]) ⟨hm.1, hm.2.1, hm.2.2.1, trivial⟩ ?_
      repeat back_in
      refine J_LC (tg := false) G.T hh ?_
      refine Src_val ?_
      repeat back_in
      refine ⟨_, Itb_lst, ?_⟩
      intro C
      refine CT_flat [] (fun b => match b with | .tup [.str x, .int t] => [V.tup [.str (x ++ ⟨#[c]⟩), .int t]] | _ => []) (by
        rw [List.nil_append, pairs_right, pairsV, List.length_map, List.length_map]
        exact Nat.le_trans (by (first | lia | omega) : rows.length ≤ 64) (by decide)) trivial ?_ ?_
      · intro b hb m2 ys K' hsz hm2 hK
        refine Classical.byContradiction fun hno => ?_
        obtain ⟨p, hp, rfl⟩ := List.mem_map.mp hb
        refine hno ?_
        clear hno
        have hpz := hl p hp
        repeat back_in
        refine Jifs_nil ?_
        rw [if_pos rfl]
        refine eltOf_in ?_
        refine J.ns (m' := [("one", .str p.1), ("share", .int p.2)]) ⟨rfl, rfl, trivial⟩ ?_
        repeat back_in
        refine B_adds (by
          show p.1.length + 1 ≤ sizeLine
          rw [List.length_cons] at hpz
          exact Nat.le_trans (by (first | lia | omega) : p.1.length + 1 ≤ 64) (by decide)) ?_
        repeat back_in
        refine ⟨Nat.le_of_ble_eq_true rfl, by rw [List.length_append] at hsz; (first | lia | omega), ?_⟩
        exact hK _ trivial
      intro m2 hm2
      refine ⟨_, m2, _, _, rfl, rfl, .refl _, ?_⟩
      rw [List.nil_append, pairs_right]
      refine J_LC (tg := false) G.T hh ?_
      refine Src_val ?_
      repeat back_in
      refine ⟨_, Itb_lst, ?_⟩
      intro C2
      refine CT_flat [] (fun b => match b with | .tup [.str x, .int t] => [V.tup [.str ((⟨#[c]⟩ : Str) ++ x), .int (-t)]] | _ => []) (by
        rw [List.nil_append, pairs_left, pairsV, List.length_map, List.length_map]
        exact Nat.le_trans (by (first | lia | omega) : rows.length ≤ 64) (by decide)) trivial ?_ ?_
      · intro b hb m3 ys K' hsz hm3 hK
        refine Classical.byContradiction fun hno => ?_
        obtain ⟨p, hp, rfl⟩ := List.mem_map.mp hb
        refine hno ?_
        clear hno
        have hpz := hl p hp
        repeat back_in
        refine Jifs_nil ?_
        rw [if_pos rfl]
        refine eltOf_in ?_
        refine J.ns (m' := [("one", .str p.1), ("share", .int p.2)]) ⟨rfl, rfl, trivial⟩ ?_
        repeat back_in
        refine B_adds (by
          show 1 + p.1.length ≤ sizeLine
          rw [List.length_cons] at hpz
          exact Nat.le_trans (by (first | lia | omega) : 1 + p.1.length ≤ 64) (by decide)) ?_
        repeat back_in
        refine ⟨Nat.le_of_ble_eq_true rfl, by rw [List.length_append] at hsz; (first | lia | omega), ?_⟩
        exact hK _ trivial
      intro m3 hm3
      refine ⟨_, m3, _, _, rfl, rfl, .refl _, ?_⟩
      rw [List.nil_append, pairs_left]
      refine B_addl (by simp only [pairsV, List.length_map]; exact Nat.le_trans (by (first | lia | omega) : rows.length + rows.length ≤ 64) (by decide)) ?_
      rw [show pairsV (rows.map fun p => (p.1 ++ ⟨#[c]⟩, p.2)) ++ pairsV (rows.map fun p => ((⟨#[c]⟩ : Str) ++ p.1, -p.2)) = pairsV (lrow c rows) from by rw [pairsV, pairsV, ← List.map_append]; rfl]
      repeat back_in
      refine J_nil (hK' _ ⟨lrow c rows, _, _, hr, ?_, ?_, rfl⟩)
      · intro p hp
        have hp := List.mem_append.mp hp
        rcases hp with hp | hp
        · refine Classical.byContradiction fun hno => ?_
          obtain ⟨q, hq, rfl⟩ := List.mem_map.mp hp
          refine hno ?_
          clear hno
          have := hl q hq
          rw [List.length_cons] at this
          show (q.1 ++ ⟨#[c]⟩ : Str).length + cs.length ≤ 64
          rw [str_len_app]
          show q.1.length + 1 + cs.length ≤ 64
          (first | lia | omega)
        · refine Classical.byContradiction fun hno => ?_
          obtain ⟨q, hq, rfl⟩ := List.mem_map.mp hp
          refine hno ?_
          clear hno
          have := hl q hq
          rw [List.length_cons] at this
          show ((⟨#[c]⟩ : Str) ++ q.1).length + cs.length ≤ 64
          rw [str_len_app]
          show 1 + q.1.length + cs.length ≤ 64
          (first | lia | omega)
      · exact ⟨rfl, rfl, rfl, trivial⟩
    · rintro h' ⟨rows, o, m, hr, hl, hm, rfl⟩
      have hr : rows = leftRows w (f w) := hr
      subst hr
      back_in
      refine J_For (tg := false) hh (fun x => nomatch x) ?_
      refine Src_val ?_
      refine J.ns (m' := [("rows", .lst (pairsV (leftRows w (f w)))), ("whole", .ref D), ("table", tabD ws f)]) ⟨hm.1, hm.2.1, hm.2.2.1, trivial⟩ ?_
      repeat back_in
      refine ⟨_, Itb_lst, ?_⟩
      refine Loop.invMK (fun p : Str × Int => V.tup [.str p.1, .int p.2]) (fun r' h => ∃ g' m, (∀ v, g' v + cf r' v = g v + cf (leftRows w (f w)) v) ∧ subNs m [("whole", .ref D), ("table", tabD ws f)] ∧ h = (L, .ns m) :: (cl, .cell o) :: (D, .dict (tabV ws g')) :: hs) (xs := leftRows w (f w)) ?_ ?_ ?_
      · rintro ⟨one, share⟩ hp r' h' ⟨g', m, hg', hm, rfl⟩ K' hK'
        have hone : one ∈ ws := hrw' _ hp
        iterate 8 back_in
        refine J.ns (m' := [("one", .str one), ("share", .int share), ("whole", .ref D), ("table", tabD ws f)]) ⟨rfl, rfl, hm.1, hm.2.1, trivial⟩ ?_
        repeat back_in
        repeat back_in
        refine G_dictK (.inl rfl) (.tail _ (.tail _ (.head _))) (tabV_get hone) ?_
        repeat back_in
        refine S_dict (by rw [tabV, List.length_map]; exact hwz) (.there (.there .here)) ?_
        rw [tabV_put hn hone]
        refine J_nil (hK' _ ⟨_, _, fun v => ?_, ?_, rfl⟩)
        · have := hg' v
          simp only [cf, List.map_cons, List.sum_cons] at this ⊢
          by_cases e : v = one
          · subst e
            rw [if_pos rfl] at this ⊢
            (first | lia | omega)
          · rw [if_neg e]
            rw [if_neg (Ne.symm e), Int.zero_add] at this
            (first | lia | omega)
        · exact ⟨rfl, rfl, trivial⟩
      · rintro h' ⟨g', m, hg', hm, rfl⟩
        refine J_nil (hK _ ⟨g', o, m, fun v => ?_, hm, rfl⟩)
        have h1 := hg v
        have h2 := hg' v
        simp only [List.map_cons, List.sum_cons] at h1
        rw [show cf ([] : List (Str × Int)) v = 0 from rfl] at h2
        (first | lia | omega)
      · exact ⟨g, _, fun v => rfl, ⟨rfl, rfl, trivial⟩, rfl⟩
    · refine ⟨[(headS w, f w)], _, _, rfl, ?_, ?_, rfl⟩
      · intro p hp
        rw [List.mem_singleton.mp hp]
        show 1 + (tailS w).cps.toList.length ≤ 64
        (first | lia | omega)
      · exact ⟨rfl, rfl, rfl, trivial⟩
  · rintro h' ⟨g, o, m, hg, hm, rfl⟩
    back_in
    back_in
    refine Je_freezeD ?_
    refine J.ns (m' := [("whole", .ref D), ("table", tabD ws f)]) ⟨hm.1, hm.2.1, trivial⟩ ?_
    back_in
    refine ⟨D, _, _, rfl, ((List.Perm.cons _ (.swap _ _ _)).trans (.swap _ _ _)), ?_⟩
    rw [tabV_keys, tabV_vals]
    refine ⟨hs, .cons _ (.cons _ (.refl _)), ?_⟩
    have e : g = leftOf ws f := funext fun v => by
      have := hg v
      simp only [List.map_nil, List.sum_nil] at this
      (first | lia | omega)
    rw [e]; exact h
  · refine ⟨fun _ => 0, _, _, fun v => ?_, ?_, rfl⟩
    · rw [Int.zero_add]; rfl
    · exact ⟨rfl, rfl, trivial⟩
end
end
section
open PySem
theorem or_low {x y : Int} {n : Nat} (hx : 0 ≤ x) (hy : 0 ≤ y) (hyn : y < 2 ^ n) : Builtin.bitOr (x * 2 ^ n) y = x * 2 ^ n + y := by
  obtain ⟨a, rfl⟩ := Int.eq_ofNat_of_zero_le hx
  obtain ⟨b, rfl⟩ := Int.eq_ofNat_of_zero_le hy
  have hb : b < 2 ^ n := by exact_mod_cast hyn
  have e : ((a : Int) * 2 ^ n) = ((2 ^ n * a : Nat) : Int) := by rw [Int.natCast_mul, Int.natCast_pow, Int.mul_comm]; rfl
  rw [e]
  have key : ∀ p q : Nat, Builtin.bitOr (p : Int) (q : Int) = ((p ||| q : Nat) : Int) := fun p q => by
    unfold Builtin.bitOr Builtin.bitAnd Builtin.bitNot
    have h1 : decide ((0 : Int) ≤ -(p : Int) - 1) = false := decide_eq_false (by (first | lia | omega))
    have h2 : decide ((0 : Int) ≤ -(q : Int) - 1) = false := decide_eq_false (by (first | lia | omega))
    rw [h1, h2]
    dsimp only
    rw [show (-(-(p : Int) - 1) - 1).toNat = p by (first | lia | omega), show (-(-(q : Int) - 1) - 1).toNat = q by (first | lia | omega)]
    (first | lia | omega)
  rw [key, ← Nat.two_pow_add_eq_or_of_lt hb]
  rw [Int.natCast_add]
theorem xor_high {x : Int} {s : Nat} (hx : 0 ≤ x) : Builtin.bitXor x (x / 2 ^ s * 2 ^ s) = x % 2 ^ s := by
  obtain ⟨a, rfl⟩ := Int.eq_ofNat_of_zero_le hx
  rw [PyProof.Rows.bitXor_and]
  have e : ((a : Int) / 2 ^ s * 2 ^ s) = ((a / 2 ^ s * 2 ^ s : Nat) : Int) := by rw [Int.natCast_mul, Int.natCast_ediv, Int.natCast_pow]; rfl
  rw [e]
  have ea : Builtin.bitAnd (a : Int) ((a / 2 ^ s * 2 ^ s : Nat) : Int) = ((a &&& (a / 2 ^ s * 2 ^ s) : Nat) : Int) := by
    unfold Builtin.bitAnd
    rw [decide_eq_true (by (first | lia | omega) : (0 : Int) ≤ (a : Int)), decide_eq_true (by (first | lia | omega) : (0 : Int) ≤ ((a / 2 ^ s * 2 ^ s : Nat) : Int))]
    simp only [Int.toNat_natCast]
  have en : a &&& (a / 2 ^ s * 2 ^ s) = a / 2 ^ s * 2 ^ s := by
    apply Nat.eq_of_testBit_eq
    intro i
    rw [Nat.testBit_and, Nat.mul_comm, Nat.testBit_two_pow_mul]
    by_cases h : s ≤ i
    · rw [Nat.testBit_div_two_pow, show i - s + s = i by (first | lia | omega)]
      simp [h]
    · simp [h]
  rw [ea, en]
  have := Int.emod_add_mul_ediv (a : Int) (2 ^ s)
  have e2 : ((a / 2 ^ s * 2 ^ s : Nat) : Int) = 2 ^ s * ((a : Int) / 2 ^ s) := by rw [Int.mul_comm]; exact e.symm
  rw [e2]
  (first | lia | omega)
theorem and_mask (x : Int) (k : Nat) : Builtin.bitAnd x (1 * 2 ^ k - 1) = x % 2 ^ k := by rw [Int.one_mul]; exact PySem.W.kbt_mask x k
theorem fdiv_pow (x : Int) (k : Nat) : x.fdiv (2 ^ k) = x / 2 ^ k := Int.fdiv_eq_ediv_of_nonneg _ (Int.le_of_lt (Int.pow_pos (by decide)))
theorem pow_pos2 (k : Nat) : (0 : Int) < 2 ^ k := Int.pow_pos (by decide)

noncomputable def dsum (n : Nat) : List Int → Int
  | [] => 0
  | d :: ds => d + 2 ^ n * dsum n ds
theorem dsum_append (n : Nat) : ∀ as bs : List Int, dsum n (as ++ bs) = dsum n as + 2 ^ (n * as.length) * dsum n bs
  | [], bs => by simp [dsum]
  | a :: as, bs => by
    simp only [List.cons_append, dsum, dsum_append n as bs, List.length_cons]
    rw [Nat.mul_add, Nat.mul_one, Int.pow_add, Int.mul_add, Int.add_assoc, Int.mul_comm (2 ^ (n * as.length)) (2 ^ n), Int.mul_assoc]
theorem dsum_range {n : Nat} : ∀ {ds : List Int}, (∀ d ∈ ds, 0 ≤ d ∧ d < 2 ^ n) → 0 ≤ dsum n ds ∧ dsum n ds < 2 ^ (n * ds.length)
  | [], _ => by simp [dsum]
  | d :: ds, h => by
    have h1 := h d List.mem_cons_self
    have h2 := dsum_range (ds := ds) fun x hx => h x (List.mem_cons_of_mem _ hx)
    simp only [dsum, List.length_cons]
    rw [Nat.mul_add, Nat.mul_one, Int.pow_add]
    have hp := pow_pos2 n
    have h3 : 0 ≤ 2 ^ n * dsum n ds := Int.mul_nonneg (Int.le_of_lt hp) h2.1
    have h4 : (2 : Int) ^ n * (dsum n ds + 1) ≤ 2 ^ n * 2 ^ (n * ds.length) := Int.mul_le_mul_of_nonneg_left h2.2 (Int.le_of_lt hp)
    rw [Int.mul_add, Int.mul_one] at h4
    rw [Int.mul_comm (2 ^ (n * ds.length))]
    (first | lia | omega)

noncomputable def dcap (n : Nat) : Nat → Int
  | 0 => 0
  | k + 1 => 1 + 2 ^ n * dcap n k
theorem dcap_lt {n : Nat} (hn : 1 ≤ n) : ∀ k : Nat, 0 ≤ dcap n k ∧ dcap n k + 1 ≤ 2 ^ (n * k)
  | 0 => by simp [dcap]
  | k + 1 => by
    obtain ⟨h1, h2⟩ := dcap_lt hn k
    have hp := pow_pos2 n
    have h3 : 0 ≤ 2 ^ n * dcap n k := Int.mul_nonneg (Int.le_of_lt hp) h1
    have h4 : (2 : Int) ^ n * (dcap n k + 1) ≤ 2 ^ n * 2 ^ (n * k) := Int.mul_le_mul_of_nonneg_left h2 (Int.le_of_lt hp)
    rw [Int.mul_add, Int.mul_one] at h4
    have h5 : (2 : Int) ≤ 2 ^ n := by
      obtain ⟨m, rfl⟩ := Nat.exists_eq_add_of_le hn
      rw [Int.pow_add]
      have := pow_pos2 m
      (first | lia | omega)
    rw [Nat.mul_add, Nat.mul_one, Int.pow_add, Int.mul_comm (2 ^ (n * k))]
    simp only [dcap]
    (first | lia | omega)
theorem dsum_abs {n : Nat} {c : Int} : ∀ {ds : List Int}, (∀ d ∈ ds, (d.natAbs : Int) ≤ c) → ((dsum n ds).natAbs : Int) ≤ c * dcap n ds.length
  | [], _ => by simp [dsum, dcap]
  | d :: ds, h => by
    have h1 := h d List.mem_cons_self
    have h2 := dsum_abs (ds := ds) (n := n) fun x hx => h x (List.mem_cons_of_mem _ hx)
    simp only [dsum, List.length_cons, dcap]
    have hp := pow_pos2 n
    have e1 : ((2 ^ n * dsum n ds).natAbs : Int) = 2 ^ n * ((dsum n ds).natAbs : Int) := by
      rw [Int.natAbs_mul, Int.natCast_mul, Int.natAbs_of_nonneg (Int.le_of_lt hp)]
    have h4 : (2 : Int) ^ n * ((dsum n ds).natAbs : Int) ≤ 2 ^ n * (c * dcap n ds.length) := Int.mul_le_mul_of_nonneg_left h2 (Int.le_of_lt hp)
    rw [Int.mul_add, Int.mul_one, ← Int.mul_assoc, Int.mul_comm c, Int.mul_assoc]
    have h5 : ((d + 2 ^ n * dsum n ds).natAbs : Int) ≤ (d.natAbs : Int) + ((2 ^ n * dsum n ds).natAbs : Int) := Int.ofNat_le.mpr (Int.natAbs_add_le _ _)
    rw [e1] at h5
    exact Int.le_trans h5 (Int.add_le_add h1 h4)
theorem dsum_bits {n B : Nat} (hn : 1 ≤ n) {ds : List Int} (h : ∀ d ∈ ds, Builtin.Int.intBits d ≤ B) : Builtin.Int.intBits (dsum n ds) ≤ B + n * ds.length := by
  rw [intBits_le_iff]
  have h1 := dsum_abs (n := n) (c := 2 ^ B) (ds := ds) fun d hd => by
    have := intBits_le_iff.mp (h d hd)
    exact_mod_cast Nat.le_of_lt this
  obtain ⟨h2, h3⟩ := dcap_lt hn ds.length
  have hp := pow_pos2 B
  have h4 : (2 : Int) ^ B * (dcap n ds.length + 1) ≤ 2 ^ B * 2 ^ (n * ds.length) := Int.mul_le_mul_of_nonneg_left h3 (Int.le_of_lt hp)
  rw [Int.mul_add, Int.mul_one, ← Int.pow_add] at h4
  have : ((dsum n ds).natAbs : Int) < 2 ^ (B + n * ds.length) := by (first | lia | omega)
  exact_mod_cast this
theorem dsum_inj {n : Nat} {h : Int} (hh : 2 * h ≤ 2 ^ n) : ∀ {as bs : List Int}, as.length = bs.length → (∀ d ∈ as, -h ≤ d ∧ d < h) → (∀ d ∈ bs, -h ≤ d ∧ d < h) → dsum n as = dsum n bs → as = bs
  | [], [], _, _, _, _ => rfl
  | a :: as, b :: bs, hl, ha, hb, e => by
    simp only [dsum] at e
    have h1 := ha a List.mem_cons_self
    have h2 := hb b List.mem_cons_self
    have hp := pow_pos2 n
    have hd : a - b = 2 ^ n * (dsum n bs - dsum n as) := by rw [Int.mul_sub]; (first | lia | omega)
    have hz : dsum n bs - dsum n as = 0 := by
      rcases Int.lt_trichotomy (dsum n bs - dsum n as) 0 with q | q | q
      · have : 2 ^ n * (dsum n bs - dsum n as) ≤ 2 ^ n * (-1) := Int.mul_le_mul_of_nonneg_left (by (first | lia | omega)) (Int.le_of_lt hp)
        (first | lia | omega)
      · exact q
      · have : 2 ^ n * 1 ≤ 2 ^ n * (dsum n bs - dsum n as) := Int.mul_le_mul_of_nonneg_left (by (first | lia | omega)) (Int.le_of_lt hp)
        (first | lia | omega)
    rw [hz, Int.mul_zero] at hd
    have e1 : a = b := by (first | lia | omega)
    have e2 : as = bs := dsum_inj hh (by simpa using hl) (fun d hd => ha d (List.mem_cons_of_mem _ hd)) (fun d hd => hb d (List.mem_cons_of_mem _ hd)) (by (first | lia | omega))
    rw [e1, e2]
theorem dsum_map {α : Type} (n : Nat) (f g : α → Int) (c : Int) : ∀ l : List α, dsum n (l.map fun x => f x + c * g x) = dsum n (l.map f) + c * dsum n (l.map g)
  | [] => by simp [dsum]
  | x :: l => by
    simp only [List.map_cons, dsum, dsum_map n f g c l]
    rw [Int.mul_add, Int.mul_add, ← Int.mul_assoc c, Int.mul_comm c (2 ^ n), Int.mul_assoc]
    (first | lia | omega)
end
section
section
variable {X : Fx} {A : Around} {hs : HS}
theorem Tr_lst {vs : List V} {Q : Bool → HS → Prop} (hf : vs.length < 2 ^ 62) (h : Q (decide (vs ≠ [])) hs) : Jtr X A (.lst vs) hs Q := fun B W s va r ha => by
  refine Classical.byContradiction fun hno => ?_
  obtain ⟨l, ws, rfl, hl, hi⟩ := IsList.of_lst r ha
  refine hno ?_
  clear hno
  have e : ws.size = vs.length := by rw [← Array.length_toList]; exact hi.length
  refine wpAny_truthy_list hl (by (first | lia | omega)) ?_
  have e2 : (!ws.isEmpty) = decide (vs ≠ []) := by
    rw [Array.isEmpty, e]
    cases vs <;> simp
  rw [e2]
  exact .here rfl (r.toks (Nat.le_succ_of_le (Nat.le_succ _))) h
noncomputable def innerAt (k i : Nat) : Def := match (defAt k).body[i]? with
  | some (.FunctionDef name args body _ _ _ scope _ _ _) => ⟨name, args, body, scope⟩
  | _ => ⟨"", ⟨[], [], none, [], [], none, []⟩, [], ⟨.function, [], false, false, []⟩⟩
noncomputable def posAt (k i : Nat) : Pos := match (defAt k).body[i]? with
  | some (.FunctionDef _ _ _ _ _ _ _ _ _ pos) => pos
  | _ => default
structure Nest (X : Fx) (k i : Nat) (qn : Str) (c P : Addr) : Prop where
  F : FnIsC X (defAt k) (.ref c)
  C : PySem.W.CodeHd X.hb c P
  nd : X.nested qn = some (innerAt k i)
noncomputable def qn7 : Str := "_int2digits.<locals>.inner"
noncomputable def qn8 : Str := "_digits2int.<locals>.inner"
noncomputable def seg (ds : List Int) (L R : Nat) : List Int := (ds.drop L).take (R - L)
theorem seg_split {ds : List Int} {L m R : Nat} (h1 : L ≤ m) (h2 : m ≤ R) : seg ds L R = seg ds L m ++ seg ds m R := by
  unfold seg
  have e : R - L = (m - L) + (R - m) := by rw [Nat.add_comm]; exact (Nat.sub_add_sub_cancel h2 h1).symm
  rw [e, List.take_add, List.drop_drop, show L + (m - L) = m by (first | lia | omega)]
theorem seg_len {ds : List Int} {L R : Nat} (h : R ≤ ds.length) : (seg ds L R).length = R - L := by
  unfold seg
  rw [List.length_take, List.length_drop]; exact Nat.min_eq_left (Nat.sub_le_sub_right h L)
theorem seg_mem {ds : List Int} {L R : Nat} : ∀ d ∈ seg ds L R, d ∈ ds := fun d hd => List.mem_of_mem_drop (List.mem_of_mem_take hd)
theorem mid_eq (L R : Nat) : ((L : Int) + (R : Int)).fdiv (2 ^ (1 : Int).toNat) = (((L + R) / 2 : Nat) : Int) := by
  rw [show (2 : Int) ^ (1 : Int).toNat = 2 from rfl, Int.fdiv_eq_ediv_of_nonneg _ (by decide)]
  (first | lia | omega)
theorem spec_inner8 {n B : Nat} {ds : List Int} {c1 c2 c3 : Addr} (T : Base X) (hnd : X.nested qn8 = some (innerAt 8 0)) (hn : 1 ≤ n) (hB : ∀ d ∈ ds, Builtin.Int.intBits d ≤ B) (hz : B + n * ds.length ≤ 2 ^ 27) (hl : ds.length ≤ 2 ^ 24) : ∀ (f : Nat) {A : Around} {rest : HS} {k L R : Nat} {Q : V → HS → Prop} (ok : Ok A (k + f + 1) 1) (hLR : L < R) (hR : R ≤ ds.length) (hf : R - L ≤ 2 ^ f)
    (h : Q (.int (dsum n (seg ds L R))) ((c1, .cell (some (.lst (intsOf ds)))) :: (c2, .cell (some (.clo qn8 [("n", c3), ("inner", c2), ("digits", c1)]))) :: (c3, .cell (some (.int n))) :: rest)),
    JC X A (.clo qn8 [("n", c3), ("inner", c2), ("digits", c1)]) [.int L, .int R] ((c1, .cell (some (.lst (intsOf ds)))) :: (c2, .cell (some (.clo qn8 [("n", c3), ("inner", c2), ("digits", c1)]))) :: (c3, .cell (some (.int n))) :: rest) Q := by
  intro f
  induction f with
  | zero =>
    intro A rest k L R Q ok hLR hR hf h
    refine JC_clo (d := innerAt 8 0) (names := ["L", "R"]) (n := k) (u := 0) T hnd ok rfl (fun doc pm cd ct => peel fun a => peel fun b => peel0 rfl) (by rfl) (by decide) ?_
    intro Lf fa cd A' ok'
    have e : R = L + 1 := by simp at hf; (first | lia | omega)
    subst e
    repeat back_in
    rw [if_pos (by simp)]
    repeat back_in
    have hget : ds[L]? = some (ds.getD L 0) := by simp [List.getD, show L < ds.length by (first | lia | omega)]
    refine G_lst (b := .int (ds.getD L 0)) (by (first | lia | omega)) (by (first | lia | omega)) (by rw [Int.toNat_natCast, intsOf, List.getElem?_map, hget]; rfl) ?_
    refine ⟨_, .cons _ (.refl _), ?_⟩
    have es : seg ds L (L + 1) = [ds.getD L 0] := by
      unfold seg
      rw [show L + 1 - L = 1 by (first | lia | omega)]
      have hlt : L < ds.length := by (first | lia | omega)
      rw [List.drop_eq_getElem_cons hlt, List.take_succ_cons, List.take_zero]
      simp [List.getD, hlt]
    rw [es] at h
    simpa [dsum] using h
  | succ f ih =>
    intro A rest k L R Q ok hLR hR hf h
    refine JC_clo (d := innerAt 8 0) (names := ["L", "R"]) (n := k + f + 1) (u := 0) T hnd (ok.le (by (first | lia | omega))) rfl (fun doc pm cd ct => peel fun a => peel fun b => peel0 rfl) (by rfl) (by decide) ?_
    intro Lf fa cd A' ok'
    by_cases hb : L + 1 = R
    · subst hb
      repeat back_in
      rw [if_pos (by simp)]
      repeat back_in
      have hget : ds[L]? = some (ds.getD L 0) := by simp [List.getD, show L < ds.length by (first | lia | omega)]
      refine G_lst (b := .int (ds.getD L 0)) (by (first | lia | omega)) (by (first | lia | omega)) (by rw [Int.toNat_natCast, intsOf, List.getElem?_map, hget]; rfl) ?_
      refine ⟨_, .cons _ (.refl _), ?_⟩
      have es : seg ds L (L + 1) = [ds.getD L 0] := by
        unfold seg
        rw [show L + 1 - L = 1 by (first | lia | omega)]
        have hlt : L < ds.length := by (first | lia | omega)
        rw [List.drop_eq_getElem_cons hlt, List.take_succ_cons, List.take_zero]
        simp [List.getD, hlt]
      rw [es] at h
      simpa [dsum] using h
    · repeat back_in
      rw [if_neg (by simp; (first | lia | omega))]
      refine J_nil ?_
      repeat back_in
      refine B_shr (by decide) ?_
      rw [mid_eq]
      generalize hm : (L + R) / 2 = m
      have hm1 : L < m := by (first | lia | omega)
      have hm2 : m < R := by (first | lia | omega)
      repeat back_in
      rw [show ((m : Int) - (L : Int)) = ((m - L : Nat) : Int) by (first | lia | omega)]
      refine B_mul (.of_left (intBits_cast_le (Nat.le_trans (by (first | lia | omega) : m - L ≤ 2 ^ 24) (by decide)))) ?_
      rw [show (((m - L : Nat) : Int) * (n : Int)) = (((m - L) * n : Nat) : Int) from (Int.natCast_mul _ _).symm]
      repeat back_in
      refine JC.perm (hs' := (c1, .cell (some (.lst (intsOf ds)))) :: (c2, .cell (some (.clo qn8 [("n", c3), ("inner", c2), ("digits", c1)]))) :: (c3, .cell (some (.int n))) :: (Lf, .ns [("shift", .int ((m - L) * n : Nat)), ("mid", .int m), ("R", .int R), ("L", .int L)]) :: rest) (List.perm_middle (l₁ := [_, _, _]) (a := (Lf, AO.ns _)) (l₂ := rest)).symm ?_
      refine ih (k := k) (ok'.le (by (first | lia | omega))) hm2 hR (by rw [Nat.pow_succ] at hf; (first | lia | omega)) ?_
      repeat back_in
      have hmulz : n * (R - m) + (m - L) * n ≤ n * ds.length := by
        rw [Nat.mul_comm (m - L), ← Nat.mul_add]
        exact Nat.mul_le_mul_left _ (by (first | lia | omega))
      refine B_shl (by (first | lia | omega)) ?_ ?_
      · have hbits := dsum_bits (B := B) hn (ds := seg ds m R) fun d hd => hB d (seg_mem d hd)
        rw [seg_len hR] at hbits
        have : Builtin.Int.intBits (dsum n (seg ds m R)) + (m - L) * n ≤ 2 ^ 27 := by (first | lia | omega)
        exact_mod_cast this
      repeat back_in
      refine ih (k := k) (ok'.le (by (first | lia | omega))) hm1 (by (first | lia | omega)) (by rw [Nat.pow_succ] at hf; (first | lia | omega)) ?_
      repeat back_in
      refine ⟨_, .cons_cons _ (.cons_cons _ (.cons_cons _ (.cons _ (.refl _)))), ?_⟩
      rw [Int.toNat_natCast]
      have e : dsum n (seg ds m R) * 2 ^ ((m - L) * n) + dsum n (seg ds L m) = dsum n (seg ds L R) := by
        rw [seg_split (Nat.le_of_lt hm1) (Nat.le_of_lt hm2), dsum_append, seg_len (by (first | lia | omega)), Nat.mul_comm n, Int.mul_comm]
        (first | lia | omega)
      rw [e]
      exact h
end
end
section
section
variable {X : Fx} {A : Around} {hs : HS}
theorem spec_digits2int {n B : Nat} {ds : List Int} {c P : Addr} {f k : Nat} {Q : V → HS → Prop} (G : Prog X) (N : Nest X 8 0 qn8 c P) (ok : Ok A (k + f + 2) 1) (hn : 1 ≤ n) (hB : ∀ d ∈ ds, Builtin.Int.intBits d ≤ B) (hz : B + n * ds.length ≤ 2 ^ 27) (hl : ds.length ≤ 2 ^ 24) (hf : ds.length ≤ 2 ^ f)
    (h : Q (.int (dsum n ds)) ((P, .tab (posAt 8 0) qn8) :: hs)) : JC X A (.fn "_digits2int") [.lst (intsOf ds), .int n] ((P, .tab (posAt 8 0) qn8) :: hs) Q := by
  refine JC_defC (d := defAt 8) (cd := .ref c) (names := ["digits", "n"]) (n := k + f + 1) (u := 0) G.T N.F ok rfl (bind2 fun _ _ _ _ _ => rfl) (by rfl) (by decide) ?_
  intro L fa ci cn cdg A' ok'
  back_in
  refine J_FunDef (c := c) (P := P) (d := innerAt 8 0) (rest := (L, .ns []) :: (ci, .cell none) :: (cn, .cell (some (.int n))) :: (cdg, .cell (some (.lst (intsOf ds)))) :: hs) G.T rfl rfl N.C rfl N.nd rfl ?_ ?_
  · exact List.perm_middle (l₁ := [_, _, _, _]) (a := (P, AO.tab _ _)) (l₂ := hs)
  repeat back_in
  refine Tr_lst (by rw [intsOf, List.length_map]; (first | lia | omega)) ?_
  cases ds with
  | nil =>
    rw [if_neg (by simp [intsOf])]
    repeat back_in
    refine ⟨_, .cons_cons _ (.cons _ (.cons _ (.cons _ (.cons _ (.refl _))))), h⟩
  | cons d ds =>
    rw [if_pos (by simp [intsOf])]
    repeat back_in
    refine N_len_lst (by rw [intsOf, List.length_map]; (first | lia | omega)) ?_
    rw [intsOf, List.length_map, ← intsOf]
    repeat back_in
    refine JC.perm (hs' := (cdg, .cell (some (.lst (intsOf (d :: ds))))) :: (ci, .cell (some (.clo qn8 [("n", cn), ("inner", ci), ("digits", cdg)]))) :: (cn, .cell (some (.int n))) :: (P, .tab (posAt 8 0) qn8) :: (L, .ns []) :: hs) ?_ ?_
    · exact (List.perm_middle (l₁ := [_, _, _, _])).trans (.cons _ ((List.perm_middle (l₁ := [_, _])).trans (.cons _ (List.perm_middle (l₁ := [_, _])))))
    refine spec_inner8 (k := k) (L := 0) (f := f) G.T N.nd hn hB hz hl (ok'.le (by (first | lia | omega))) (by simp) (Nat.le_refl _) (by (first | lia | omega)) ?_
    refine ⟨_, .cons _ (.cons _ (.cons _ (.cons_cons _ (.cons _ (.refl _))))), ?_⟩
    have e : seg (d :: ds) 0 (d :: ds).length = d :: ds := by simp [seg]
    rw [e]
    exact h
end
end
section
section
variable {X : Fx} {A : Around} {hs : HS}
noncomputable abbrev H7 (ad ca ci cn : Addr) (n : Nat) (vs : List V) (rest : HS) : HS := (ad, .list vs) :: (ca, .cell (some (.ref ad))) :: (ci, .cell (some (.clo qn7 [("n", cn), ("inner", ci), ("a_digits", ca)]))) :: (cn, .cell (some (.int n))) :: rest
theorem set_put (vs : List V) {L : Nat} (x : V) (h : L < vs.length) : vs.set L x = vs.take L ++ [x] ++ vs.drop (L + 1) := by
  rw [List.set_eq_take_append_cons_drop, if_pos h]
  simp
theorem perm_H7 {ad ca ci cn L : Addr} {n : Nat} {vs : List V} {o : AO} {rest : HS} : ((L, o) :: H7 ad ca ci cn n vs rest).Perm (H7 ad ca ci cn n vs ((L, o) :: rest)) := (List.perm_middle (l₁ := [_, _, _, _]) (a := (L, o)) (l₂ := rest)).symm
theorem spec_inner7 {n : Nat} {ad ca ci cn : Addr} (T : Base X) (hnd : X.nested qn7 = some (innerAt 7 1)) (hn : 1 ≤ n) : ∀ (f : Nat) {A : Around} {rest : HS} {k L R : Nat} {x : Int} {vs : List V} {Q : V → HS → Prop} (hz : n * vs.length ≤ 2 ^ 27) (hl : vs.length ≤ 2 ^ 24) (ok : Ok A (k + f + 1) 1) (hLR : L < R) (hR : R ≤ vs.length) (hf : R - L ≤ 2 ^ f) (hx : 0 ≤ x) (hx' : x < 2 ^ (n * (R - L)))
    (h : ∀ sg : List Int, sg.length = R - L → (∀ d ∈ sg, 0 ≤ d ∧ d < 2 ^ n) → dsum n sg = x → Q .none (H7 ad ca ci cn n (vs.take L ++ intsOf sg ++ vs.drop R) rest)),
    JC X A (.clo qn7 [("n", cn), ("inner", ci), ("a_digits", ca)]) [.int x, .int L, .int R] (H7 ad ca ci cn n vs rest) Q := by
  intro f
  have base : ∀ {A A' : Around} {rest : HS} {L R : Nat} {x : Int} {vs : List V} {Q : V → HS → Prop} {Lf fa : Addr} {cd : Value} (hl : vs.length ≤ 2 ^ 24) (e : L + 1 = R) (hR : R ≤ vs.length) (hx : 0 ≤ x) (hx' : x < 2 ^ (n * (R - L)))
      (h : ∀ sg : List Int, sg.length = R - L → (∀ d ∈ sg, 0 ≤ d ∧ d < 2 ^ n) → dsum n sg = x → Q .none (H7 ad ca ci cn n (vs.take L ++ intsOf sg ++ vs.drop R) rest)),
      Jx X A' (envN qn7 (innerAt 7 1) Lf fa [("n", cn), ("inner", ci), ("a_digits", ca)] cd) (innerAt 7 1).body ((Lf, .ns [("R", .int R), ("L", .int L), ("x", .int x)]) :: H7 ad ca ci cn n vs rest) (Back Q) := by
    intro A A' rest L R x vs Q Lf fa cd hl e hR hx hx' h
    subst e
    repeat back_in
    rw [if_pos (by simp)]
    repeat back_in
    refine S_list (by (first | lia | omega)) (by (first | lia | omega)) (by (first | lia | omega)) (.there .here) ?_
    repeat back_in
    rw [Int.toNat_natCast, set_put vs _ (by (first | lia | omega))]
    refine ⟨_, .cons _ (.refl _), ?_⟩
    have e1 : L + 1 - L = 1 := by (first | lia | omega)
    rw [e1, Nat.mul_one] at hx'
    have := h [x] (by simp) (fun d hd => by rw [List.mem_singleton.mp hd]; exact ⟨hx, hx'⟩) (by simp [dsum])
    exact this
  induction f with
  | zero =>
    intro A rest k L R x vs Q hz hl ok hLR hR hf hx hx' h
    refine JC_clo (d := innerAt 7 1) (names := ["x", "L", "R"]) (n := k) (u := 0) T hnd ok rfl (fun doc pm cd ct => peel fun a => peel fun b => peel fun c => peel0 rfl) (by rfl) (by decide) ?_
    intro Lf fa cd A' ok'
    exact base (A := A) hl (by simp at hf; (first | lia | omega)) hR hx hx' h
  | succ f ih =>
    intro A rest k L R x vs Q hz hl ok hLR hR hf hx hx' h
    refine JC_clo (d := innerAt 7 1) (names := ["x", "L", "R"]) (n := k + f + 1) (u := 0) T hnd (ok.le (by (first | lia | omega))) rfl (fun doc pm cd ct => peel fun a => peel fun b => peel fun c => peel0 rfl) (by rfl) (by decide) ?_
    intro Lf fa cd A' ok'
    by_cases hb : L + 1 = R
    · exact base (A := A) hl hb hR hx hx' h
    · repeat back_in
      rw [if_neg (by simp; (first | lia | omega))]
      refine J_nil ?_
      repeat back_in
      refine B_shr (by decide) ?_
      rw [mid_eq]
      generalize hm : (L + R) / 2 = m
      have hm1 : L < m := by (first | lia | omega)
      have hm2 : m < R := by (first | lia | omega)
      repeat back_in
      rw [show ((m : Int) - (L : Int)) = ((m - L : Nat) : Int) from (Int.ofNat_sub (Nat.le_of_lt hm1)).symm]
      refine B_mul (.of_left (intBits_cast_le (Nat.le_trans (by (first | lia | omega) : m - L ≤ 2 ^ 24) (by decide)))) ?_
      rw [show (((m - L : Nat) : Int) * (n : Int)) = (((m - L) * n : Nat) : Int) from (Int.natCast_mul _ _).symm]
      repeat back_in
      refine B_shr (by (first | lia | omega)) ?_
      rw [Int.toNat_natCast, fdiv_pow]
      generalize hs : (m - L) * n = s
      have hes : n * (R - L) = n * (R - m) + s := by rw [← hs, Nat.mul_comm (m - L), ← Nat.mul_add]; exact congrArg _ (Nat.sub_add_sub_cancel (Nat.le_of_lt hm2) (Nat.le_of_lt hm1)).symm
      have hps := pow_pos2 s
      have hu0 : 0 ≤ x / 2 ^ s := Int.ediv_nonneg hx (Int.le_of_lt hps)
      have hu1 : x / 2 ^ s < 2 ^ (n * (R - m)) := by
        refine Int.ediv_lt_of_lt_mul hps ?_
        rw [← Int.pow_add, ← hes]; exact hx'
      have hl0 : 0 ≤ x % 2 ^ s := Int.emod_nonneg _ (Int.ne_of_gt hps)
      have hl1 : x % 2 ^ s < 2 ^ (n * (m - L)) := by rw [Nat.mul_comm, hs]; exact Int.emod_lt_of_pos _ hps
      have hub : Builtin.Int.intBits (x / 2 ^ s) ≤ n * (R - m) := intBits_le_iff.mpr (by
        have : ((x / 2 ^ s).natAbs : Int) < 2 ^ (n * (R - m)) := by rw [Int.natAbs_of_nonneg hu0]; exact hu1
        exact_mod_cast this)
      have hfit : n * (R - m) + s ≤ 2 ^ 27 := by
        rw [← hes]
        exact Nat.le_trans (Nat.mul_le_mul_left _ (by (first | lia | omega))) hz
      repeat back_in
      refine B_shl (by (first | lia | omega)) (by rw [show (2 : Int) ^ 27 = ((2 ^ 27 : Nat) : Int) from rfl]; (first | lia | omega)) ?_
      rw [Int.toNat_natCast]
      refine B_xor ?_
      rw [xor_high hx]
      repeat back_in
      refine JC.perm perm_H7 ?_
      refine ih (k := k) hz hl (ok'.le (by (first | lia | omega))) hm1 (by (first | lia | omega)) (by rw [Nat.pow_succ] at hf; (first | lia | omega)) hl0 hl1 ?_
      intro sg1 h1 h2 h3
      have hlen1 : (vs.take L ++ intsOf sg1 ++ vs.drop m).length = vs.length := by
        simp only [List.length_append, List.length_take, List.length_drop, intsOf, List.length_map, h1]; rw [Nat.min_eq_left (Nat.le_of_lt (Nat.lt_of_lt_of_le hLR hR)), Nat.add_sub_cancel' (Nat.le_of_lt hm1), Nat.add_sub_cancel' (Nat.le_trans (Nat.le_of_lt hm2) hR)]
      repeat back_in
      refine ih (k := k) (by rw [hlen1]; exact hz) (by rw [hlen1]; exact hl) (ok'.le (by (first | lia | omega))) hm2 (by rw [hlen1]; exact hR) (by rw [Nat.pow_succ] at hf; (first | lia | omega)) hu0 hu1 ?_
      intro sg2 g1 g2 g3
      have hla : (vs.take L ++ intsOf sg1).length = m := by
        simp only [List.length_append, List.length_take, intsOf, List.length_map, h1]; rw [Nat.min_eq_left (Nat.le_of_lt (Nat.lt_of_lt_of_le hLR hR)), Nat.add_sub_cancel' (Nat.le_of_lt hm1)]
      have e1 : (vs.take L ++ intsOf sg1 ++ vs.drop m).take m = vs.take L ++ intsOf sg1 := by
        rw [List.take_append_of_le_length (by (first | lia | omega)), List.take_of_length_le (by (first | lia | omega))]
      have e2 : (vs.take L ++ intsOf sg1 ++ vs.drop m).drop R = vs.drop R := by
        rw [List.drop_append, List.drop_eq_nil_of_le (by (first | lia | omega)), List.nil_append, List.drop_drop, hla]
        congr 1; (first | lia | omega)
      rw [e1, e2]
      refine J_nil ⟨H7 ad ca ci cn n (vs.take L ++ intsOf (sg1 ++ sg2) ++ vs.drop R) rest, ?_, ?_⟩
      · rw [show vs.take L ++ intsOf sg1 ++ intsOf sg2 = vs.take L ++ intsOf (sg1 ++ sg2) by simp [intsOf, List.append_assoc]]
        exact .cons_cons _ (.cons_cons _ (.cons_cons _ (.cons_cons _ (.cons _ (.refl _)))))
      · refine h (sg1 ++ sg2) (by rw [List.length_append, h1, g1, Nat.add_comm]; exact Nat.sub_add_sub_cancel (Nat.le_of_lt hm2) (Nat.le_of_lt hm1)) (fun d hd => (List.mem_append.mp hd).elim (h2 d) (g2 d)) ?_
        rw [dsum_append, h3, g3, h1, Nat.mul_comm n, hs]
        have := Int.emod_add_mul_ediv x (2 ^ s)
        (first | lia | omega)
end
end
section
section
variable {X : Fx} {A : Around} {hs : HS}
noncomputable def dcount (a : Int) (n : Nat) : Nat := (Builtin.Int.intBits a + n - 1) / n
theorem lt_bits (a : Int) : (a.natAbs : Int) < 2 ^ Builtin.Int.intBits a := by
  have := intBits_le_iff.mp (Nat.le_refl (Builtin.Int.intBits a))
  exact_mod_cast this
theorem dcount_ge {a : Int} {n : Nat} (hn : 1 ≤ n) : Builtin.Int.intBits a ≤ n * dcount a n ∧ n * dcount a n ≤ Builtin.Int.intBits a + n - 1 := by
  unfold dcount
  have h1 := Nat.div_add_mod (Builtin.Int.intBits a + n - 1) n
  have h2 := Nat.mod_lt (Builtin.Int.intBits a + n - 1) hn
  refine ⟨?_, Nat.mul_div_le _ _⟩
  (first | lia | omega)
theorem bits_pos {a : Int} (h : a ≠ 0) : 1 ≤ Builtin.Int.intBits a := by
  unfold Builtin.Int.intBits
  rw [if_neg (by simpa using h)]
  (first | lia | omega)
theorem bits_zero : Builtin.Int.intBits 0 = 0 := rfl
theorem repL_zero (k : Nat) : repL (k : Int) [V.int 0] = intsOf (List.replicate k 0) := by
  unfold repL intsOf
  rw [Int.toNat_natCast, List.map_replicate, List.flatten_replicate_singleton]
theorem spec_int2digits {n : Nat} {a : Int} {c P : Addr} {f k : Nat} {Q : V → HS → Prop} (G : Prog X) (N : Nest X 7 1 qn7 c P) (ok : Ok A (k + f + 2) 1) (hn : 1 ≤ n) (ha : 0 ≤ a) (hz : Builtin.Int.intBits a + n ≤ 2 ^ 27) (hl : dcount a n ≤ 2 ^ 24) (hf : dcount a n ≤ 2 ^ f)
    (h : ∀ ds : List Int, ds.length = dcount a n → (∀ d ∈ ds, 0 ≤ d ∧ d < 2 ^ n) → dsum n ds = a → Q (.lst (intsOf ds)) ((P, .tab (posAt 7 1) qn7) :: hs)) : JC X A (.fn "_int2digits") [.int a, .int n] ((P, .tab (posAt 7 1) qn7) :: hs) Q := by
  refine JC_defC (d := defAt 7) (cd := .ref c) (names := ["a", "n"]) (n := k + f + 1) (u := 0) G.T N.F ok rfl (bind2 fun _ _ _ _ _ => rfl) (by rfl) (by decide) ?_
  intro L fa ci ca cn A' ok'
  have hh := ok'.1
  have hc := dcount_ge (a := a) hn
  iterate 2 back_in
  refine J_MulDisp ?_
  repeat back_in
  refine ⟨Nat.le_of_ble_eq_true rfl, ?_⟩
  repeat back_in
  refine J_Meth0 meth_bit_length ?_
  back_in
  refine ⟨TyAt.int, NoDct.int, ?_⟩
  refine N_bit_length ?_
  repeat back_in
  refine B_fdiv (by (first | lia | omega)) (noPylong ?_) ?_
  · refine Nat.le_trans ((intBits_le_iff (m := 28)).mpr ?_) (by decide)
    rw [Int.natAbs_natCast]
    exact Nat.lt_of_le_of_lt (by (first | lia | omega) : n ≤ 2 ^ 27) (by decide)
  rw [show (((Builtin.Int.intBits a : Nat) : Int) + (n : Int) - 1).fdiv (n : Int) = ((dcount a n : Nat) : Int) by
    rw [Int.fdiv_eq_ediv_of_nonneg _ (by (first | lia | omega)), dcount, Int.natCast_ediv]
    congr 1
    (first | lia | omega)]
  refine ⟨_, rfl, by simp, by (first | lia | omega), by (first | lia | omega), ?_, .inr fun ad => ?_⟩
  · rw [Int.toNat_natCast]; simp only [List.length_cons, List.length_nil]; (first | lia | omega)
  rw [repL_zero]
  repeat back_in
  refine J_FunDef (c := c) (P := P) (d := innerAt 7 1) (rest := (ad, .list (intsOf (List.replicate (dcount a n) 0))) :: (L, .ns [("a", .int a)]) :: (ci, .cell none) :: (ca, .cell (some (.ref ad))) :: (cn, .cell (some (.int n))) :: hs) G.T rfl rfl N.C rfl N.nd rfl ?_ ?_
  · exact List.perm_middle (l₁ := [_, _, _, _, _]) (a := (P, AO.tab _ _)) (l₂ := hs)
  repeat back_in
  have fin : ∀ ds : List Int, ds.length = dcount a n → (∀ d ∈ ds, 0 ≤ d ∧ d < 2 ^ n) → dsum n ds = a → Jx X A' (envF (defAt 7) L fa [("inner", ci), ("a_digits", ca), ("n", cn)] (.ref c)) [.Return (some (.Name "a_digits" ⟨49, 11, 49, 19⟩)) ⟨49, 4, 49, 19⟩]
      ((ad, .list (intsOf ds)) :: (P, .tab (posAt 7 1) qn7) :: (L, .ns [("a", .int a)]) :: (ci, .cell (some (.clo qn7 [("n", cn), ("inner", ci), ("a_digits", ca)]))) :: (ca, .cell (some (.ref ad))) :: (cn, .cell (some (.int n))) :: hs) (Back Q) := by
    intro ds h1 h2 h3
    iterate 2 back_in
    refine Je_freezeL ?_
    back_in
    refine ⟨ad, _, _, rfl, .refl _, ?_⟩
    exact ⟨_, .cons_cons _ (.cons _ (.cons _ (.cons _ (.cons _ (.refl _))))), h ds h1 h2 h3⟩
  have pm : ∀ {vs : List V}, ((ad, AO.list vs) :: (P, .tab (posAt 7 1) qn7) :: (L, .ns [("a", .int a)]) :: (ci, .cell (some (.clo qn7 [("n", cn), ("inner", ci), ("a_digits", ca)]))) :: (ca, .cell (some (.ref ad))) :: (cn, .cell (some (.int n))) :: hs).Perm (H7 ad ca ci cn n vs ((P, .tab (posAt 7 1) qn7) :: (L, .ns [("a", .int a)]) :: hs)) := fun {vs} =>
    .cons _ ((List.perm_middle (l₁ := [_, _, _])).trans (.cons _ ((List.perm_middle (l₁ := [_, _])).trans (.cons _ (List.perm_middle (l₁ := [_, _]))))))
  by_cases h0 : a = 0
  · subst h0
    rw [if_neg (by decide)]
    refine J_nil ?_
    refine J.perm (.swap _ _ _) ?_
    refine fin _ (by simp) ?_ ?_
    · intro d hd
      rw [List.eq_of_mem_replicate hd]
      exact ⟨Int.le_refl _, pow_pos2 n⟩
    · have e : dcount 0 n = 0 := by
        unfold dcount
        rw [bits_zero]
        exact Nat.div_eq_of_lt (by (first | lia | omega))
      rw [e]; rfl
  · rw [if_pos (by simpa using h0)]
    have hb1 := bits_pos h0
    repeat back_in
    refine N_len_list (.tail _ (.head _)) (by simp only [intsOf, List.length_map, List.length_replicate]; (first | lia | omega)) ?_
    rw [show (intsOf (List.replicate (dcount a n) 0)).length = dcount a n by simp [intsOf]]
    repeat back_in
    refine JC.perm (hs' := H7 ad ca ci cn n (intsOf (List.replicate (dcount a n) 0)) ((P, .tab (posAt 7 1) qn7) :: (L, .ns [("a", .int a)]) :: hs)) ?_ ?_
    · exact (List.Perm.swap _ _ _).trans pm
    refine spec_inner7 (k := k) (L := 0) (R := dcount a n) (f := f) G.T N.nd hn (by simp only [intsOf, List.length_map, List.length_replicate]; (first | lia | omega)) (by simpa [intsOf] using hl) (ok'.le (by (first | lia | omega))) ?_ (by simp [intsOf]) (by (first | lia | omega)) ha ?_ ?_
    · rcases Nat.eq_zero_or_pos (dcount a n) with q | q
      · rw [q] at hc; (first | lia | omega)
      · exact q
    · rw [Nat.sub_zero]
      have h1 := lt_bits a
      have h2 : (2 : Int) ^ Builtin.Int.intBits a ≤ 2 ^ (n * dcount a n) := by
        exact_mod_cast Nat.pow_le_pow_right (by decide : 0 < 2) hc.1
      (first | lia | omega)
    intro sg h1 h2 h3
    rw [List.take_zero, List.nil_append, List.drop_eq_nil_of_le (by simp [intsOf]), List.append_nil]
    refine J_nil ?_
    refine J.perm (hs' := (ad, .list (intsOf sg)) :: (P, .tab (posAt 7 1) qn7) :: (L, .ns [("a", .int a)]) :: (ci, .cell (some (.clo qn7 [("n", cn), ("inner", ci), ("a_digits", ca)]))) :: (ca, .cell (some (.ref ad))) :: (cn, .cell (some (.int n))) :: hs) ?_ ?_
    · exact pm.symm
    exact fin sg (by (first | lia | omega)) h2 h3
end
end
section
section
variable {X : Fx} {A : Around} {hs : HS}
noncomputable def D2 (X : Fx) (f : Nat) : Prop := ∀ {A : Around} {hs : HS} {k n : Nat} {a b : Int} {Q : V → HS → Prop}, Ok A (k + 2 * f + 1) 1 → 0 ≤ a → 2 ^ (n - 1) ≤ b → b < 2 ^ n → a < b * 2 ^ n → 1 ≤ n → n ≤ 4000 * 2 ^ f → n ≤ 2 ^ 25 →
  Q (.tup [.int (a / b), .int (a % b)]) hs → JC X A (.fn "_div2n1n") [.int a, .int b, .int n] hs Q
theorem bits_lt {x : Int} {m : Nat} (h0 : 0 ≤ x) (h : x < 2 ^ m) : Builtin.Int.intBits x ≤ m := intBits_le_iff.mpr (by
  have : (x.natAbs : Int) < 2 ^ m := by rw [Int.natAbs_of_nonneg h0]; exact h
  exact_mod_cast this)
theorem divide {a b q r : Int} (h : a = q * b + r) (h0 : 0 ≤ r) (h1 : r < b) : q = a / b ∧ r = a % b := by
  subst h
  have hb : b ≠ 0 := by (first | lia | omega)
  rw [Int.add_comm, Int.add_mul_ediv_right _ _ hb, Int.add_mul_emod_self_right, Int.ediv_eq_zero_of_lt h0 h1, Int.emod_eq_of_lt h0 h1]
  exact ⟨by (first | lia | omega), rfl⟩
theorem spec_div3 {f : Nat} (hD : D2 X f) {k n : Nat} {a12 a3 b b1 b2 : Int} {Q : V → HS → Prop} (G : Prog X) (ok : Ok A (k + 2 * f + 2) 1) (ha : 0 ≤ a12) (h3 : 0 ≤ a3) (h3' : a3 < 2 ^ n) (hb : b = b1 * 2 ^ n + b2) (h2 : 0 ≤ b2) (h2' : b2 < 2 ^ n) (h1 : 2 ^ (n - 1) ≤ b1) (h1' : b1 < 2 ^ n) (hn : 1 ≤ n) (hf : n ≤ 4000 * 2 ^ f) (hz : n ≤ 2 ^ 25)
    (hlt : a12 * 2 ^ n + a3 < b * 2 ^ n) (h : Q (.tup [.int ((a12 * 2 ^ n + a3) / b), .int ((a12 * 2 ^ n + a3) % b)]) hs) : JC X A (.fn "_div3n2n") [.int a12, .int a3, .int b, .int b1, .int b2, .int n] hs Q := by
  refine JC_def (d := defAt 6) (names := ["a12", "a3", "b", "b1", "b2", "n"]) (n := k + 2 * f + 1) (u := 0) G.T (G.fn "_div3n2n" 6 rfl).1 ok rfl (fun pm cd doc => peel fun a => peel fun b => peel fun c => peel fun d => peel fun e => peel fun f => peel0 rfl) (by rfl) (by decide) ?_
  intro L fa cd A' ok'
  have hh := ok'.1
  have hp := pow_pos2 n
  have hp1 := pow_pos2 (n - 1)
  have e27 : (2 : Int) ^ 27 = ((2 ^ 27 : Nat) : Int) := rfl
  have hb1 : 0 < b1 := by (first | lia | omega)
  have hb0 : 0 < b := by rw [hb]; have := Int.mul_pos hb1 hp; (first | lia | omega)
  have cont : ∀ (q r : Int) (m : List (Str × V)), 0 ≤ q → q < 2 ^ n → 0 ≤ r → r < 2 ^ (n + 1) → a12 = q * b1 + r → r * 2 ^ n + a3 - q * b2 < b → subNs m [("q", .int q), ("r", .int r), ("a3", .int a3), ("b", .int b), ("b2", .int b2), ("n", .int n)] →
      Jx X A' (envF (defAt 6) L fa [] cd) ((defAt 6).body.drop 1) ((L, .ns m) :: hs) (Back Q) := by
    intro q r m q0 q1 r0 r1 e hr hm
    refine J.ns (m' := [("q", .int q), ("r", .int r), ("a3", .int a3), ("b", .int b), ("b2", .int b2), ("n", .int n)]) hm ?_
    repeat back_in
    refine B_shl (by (first | lia | omega)) (by have := bits_lt r0 r1; rw [e27]; (first | lia | omega)) ?_
    rw [Int.toNat_natCast]
    repeat back_in
    refine B_or ?_
    rw [or_low r0 h3 h3']
    repeat back_in
    refine B_mul (.of_le (bits_lt q0 q1) (bits_lt h2 h2') (by (first | lia | omega))) ?_
    repeat back_in
    have eq0 : a12 * 2 ^ n + a3 = q * b + (r * 2 ^ n + a3 - q * b2) := by
      rw [e, hb, Int.add_mul, Int.mul_add, Int.mul_assoc]
      (first | lia | omega)
    generalize r * 2 ^ n + a3 - q * b2 = t at *
    refine J_While (fun j h => ∃ q t m, a12 * 2 ^ n + a3 = q * b + t ∧ t < b ∧ j = (-t).toNat ∧ subNs m [("q", .int q), ("r", .int t), ("b", .int b)] ∧ h = (L, .ns m) :: hs) ?_ (-t).toNat ⟨q, t, _, eq0, hr, rfl, ?_, rfl⟩
    · rintro j h' ⟨q, t, m, e1, ht, rfl, hm, rfl⟩
      refine J.ns hm ?_
      repeat back_in
      by_cases hneg : t < 0
      · rw [if_pos (by simpa using hneg)]
        repeat back_in
        refine J_nil ⟨(-(t + b)).toNat, by (first | lia | omega), q - 1, t + b, _, ?_, by (first | lia | omega), rfl, ?_, rfl⟩
        · rw [e1, Int.sub_mul]; (first | lia | omega)
        · exact ⟨rfl, rfl, rfl, trivial⟩
      · rw [if_neg (by simpa using hneg)]
        obtain ⟨eq, er⟩ := divide e1 (by (first | lia | omega)) ht
        repeat back_in
        refine ⟨Nat.le_of_ble_eq_true rfl, ?_⟩
        rw [eq, er]
        exact ⟨hs, .cons _ (.refl _), h⟩
    · exact ⟨rfl, rfl, rfl, trivial⟩
  repeat back_in
  refine B_shr (by (first | lia | omega)) ?_
  rw [Int.toNat_natCast, fdiv_pow]
  repeat back_in
  have ha12 : a12 < b := by
    rcases Int.lt_or_le a12 b with q | q
    · exact q
    · have := Int.mul_le_mul_of_nonneg_right q (Int.le_of_lt hp); (first | lia | omega)
  have hdm := Int.emod_add_mul_ediv a12 (2 ^ n)
  have hm0 := Int.emod_nonneg a12 (Int.ne_of_gt hp)
  have hm1 := Int.emod_lt_of_pos a12 hp
  have hpp : (2 : Int) ^ (n + 1) = 2 ^ n + 2 ^ n := by rw [Int.pow_succ]; (first | lia | omega)
  by_cases hc : a12 / 2 ^ n = b1
  · rw [hc] at hdm
    rw [hc, if_pos (by simp)]
    refine J_cons ?_
    refine J_Assign_TupSw (names := ["q", "r"]) hh ?_
    repeat back_in
    refine B_shl (by (first | lia | omega)) (by rw [e27]; have : Builtin.Int.intBits 1 = 1 := rfl; (first | lia | omega)) ?_
    rw [Int.toNat_natCast, Int.one_mul]
    repeat back_in
    refine B_shl (by (first | lia | omega)) (by have := bits_lt (Int.le_of_lt hb1) h1'; rw [e27]; (first | lia | omega)) ?_
    rw [Int.toNat_natCast]
    repeat back_in
    refine ⟨Nat.le_of_ble_eq_true rfl, _, rfl, rfl, ?_⟩
    refine JstL_cons ?_
    back_in
    refine JstL_cons ?_
    back_in
    refine JstL_nil ?_
    refine J_nil ?_
    have hcm : 2 ^ n * b1 = b1 * 2 ^ n := Int.mul_comm _ _
    refine cont (2 ^ n - 1) (a12 - b1 * 2 ^ n + b1) _ (by (first | lia | omega)) (by (first | lia | omega)) (by (first | lia | omega)) (by (first | lia | omega)) ?_ ?_ ⟨rfl, rfl, rfl, rfl, rfl, rfl, trivial⟩
    · rw [Int.sub_mul]; (first | lia | omega)
    · have e : (a12 - b1 * 2 ^ n + b1) * 2 ^ n + a3 - (2 ^ n - 1) * b2 = a12 * 2 ^ n + a3 - b * 2 ^ n + b := by
        rw [hb, Int.sub_mul, Int.add_mul, Int.sub_mul, Int.add_mul, Int.mul_comm (2 ^ n) b2]
        (first | lia | omega)
      rw [e]; (first | lia | omega)
  · rw [if_neg (by simpa using hc)]
    have hlt2 : a12 < b1 * 2 ^ n := by
      rcases Int.lt_trichotomy (a12 / 2 ^ n) b1 with q | q | q
      · have := Int.mul_le_mul_of_nonneg_left (show a12 / 2 ^ n + 1 ≤ b1 from q) (Int.le_of_lt hp)
        rw [Int.mul_add, Int.mul_comm (2 ^ n) b1] at this
        (first | lia | omega)
      · exact absurd q hc
      · have := Int.mul_le_mul_of_nonneg_left (show b1 + 1 ≤ a12 / 2 ^ n from q) (Int.le_of_lt hp)
        rw [Int.mul_add, Int.mul_comm (2 ^ n) b1] at this
        (first | lia | omega)
    refine J_cons ?_
    refine J_Assign_Tup ?_
    repeat back_in
    refine hD (k := k) (ok'.le (Nat.le_refl _)) ha h1 h1' hlt2 hn hf hz ?_
    repeat back_in
    refine J_nil ?_
    have hq0 : 0 ≤ a12 / b1 := Int.ediv_nonneg ha (Int.le_of_lt hb1)
    have hq1 : a12 / b1 < 2 ^ n := Int.ediv_lt_of_lt_mul hb1 (by rw [Int.mul_comm]; exact hlt2)
    have hr0 := Int.emod_nonneg a12 (Int.ne_of_gt hb1)
    have hr1 := Int.emod_lt_of_pos a12 hb1
    have hd := Int.emod_add_mul_ediv a12 b1
    refine cont (a12 / b1) (a12 % b1) _ hq0 hq1 hr0 (by (first | lia | omega)) (by rw [Int.mul_comm]; (first | lia | omega)) ?_ ⟨rfl, rfl, rfl, rfl, rfl, rfl, trivial⟩
    have t1 := Int.mul_nonneg hq0 h2
    have t2 := Int.mul_le_mul_of_nonneg_right (show a12 % b1 + 1 ≤ b1 from hr1) (Int.le_of_lt hp)
    rw [Int.add_mul, Int.one_mul] at t2
    (first | lia | omega)
theorem div2_cont {f : Nat} (hD : D2 X f) {A' : Around} {hs : HS} {k h : Nat} {a b : Int} {pd : Bool} {L fa : Addr} {cd : Value} {m : List (Str × V)} {Q : V → HS → Prop} (G : Prog X) (ok' : Ok A' (k + 2 * f + 2) 90) (ha : 0 ≤ a) (hb : 2 ^ (2 * h - 1) ≤ b) (hb' : b < 2 ^ (2 * h)) (hlt : a < b * 2 ^ (2 * h)) (hh1 : 1 ≤ h) (hf : h ≤ 4000 * 2 ^ f) (hz : h ≤ 2 ^ 25)
    (hm : subNs m [("a", .int a), ("b", .int b), ("n", .int (2 * h : Nat)), ("pad", .int (b2i pd))])
    (hq : Q (.tup [.int (a / b), .int (if pd then a % b / 2 else a % b)]) hs) : Jx X A' (envF (defAt 5) L fa [] cd) ((defAt 5).body.drop 3) ((L, .ns m) :: hs) (Back Q) := by
  have hh := ok'.1
  have hp := pow_pos2 h
  have e27 : (2 : Int) ^ 27 = ((2 ^ 27 : Nat) : Int) := rfl
  have e2h : (2 : Int) ^ (2 * h) = 2 ^ h * 2 ^ h := by rw [← Int.pow_add]; congr 1; (first | lia | omega)
  have e2h1 : (2 : Int) ^ (2 * h - 1) = 2 ^ (h - 1) * 2 ^ h := by rw [← Int.pow_add]; congr 1; (first | lia | omega)
  have hb0 : 0 < b := by have := pow_pos2 (2 * h - 1); (first | lia | omega)
  refine J.ns (m' := [("a", .int a), ("b", .int b), ("n", .int (2 * h : Nat)), ("pad", .int (b2i pd))]) hm ?_
  repeat back_in
  refine B_shr (by decide) ?_
  rw [show ((2 * h : Nat) : Int).fdiv (2 ^ (1 : Int).toNat) = (h : Int) by
    rw [show (2 : Int) ^ (1 : Int).toNat = 2 from rfl, Int.fdiv_eq_ediv_of_nonneg _ (by decide)]
    (first | lia | omega)]
  repeat back_in
  refine B_shl (by (first | lia | omega)) (by rw [e27]; have : Builtin.Int.intBits 1 = 1 := rfl; (first | lia | omega)) ?_
  rw [Int.toNat_natCast]
  repeat back_in
  refine J_Assign_TupSw (names := ["b1", "b2"]) hh ?_
  repeat back_in
  refine B_shr (by (first | lia | omega)) ?_
  rw [Int.toNat_natCast, fdiv_pow]
  repeat back_in
  refine B_and ?_
  rw [and_mask]
  repeat back_in
  refine ⟨Nat.le_of_ble_eq_true rfl, _, rfl, rfl, ?_⟩
  refine JstL_cons ?_
  back_in
  refine JstL_cons ?_
  back_in
  refine JstL_nil ?_
  back_in
  refine J_Assign_Tup ?_
  repeat back_in
  refine B_shr (by (first | lia | omega)) ?_
  rw [Int.toNat_natCast, fdiv_pow]
  repeat back_in
  refine B_shr (by (first | lia | omega)) ?_
  rw [Int.toNat_natCast, fdiv_pow]
  repeat back_in
  refine B_and ?_
  rw [and_mask]
  repeat back_in
  have hbd := Int.emod_add_mul_ediv b (2 ^ h)
  have hbm0 := Int.emod_nonneg b (Int.ne_of_gt hp)
  have hbm1 := Int.emod_lt_of_pos b hp
  have hbe : b = b / 2 ^ h * 2 ^ h + b % 2 ^ h := by rw [Int.mul_comm]; (first | lia | omega)
  have hb1 : 2 ^ (h - 1) ≤ b / 2 ^ h := (Int.le_ediv_iff_mul_le hp).mpr (by rw [← e2h1]; exact hb)
  have hb1' : b / 2 ^ h < 2 ^ h := Int.ediv_lt_of_lt_mul hp (by rw [← e2h]; exact hb')
  have had := Int.emod_add_mul_ediv a (2 ^ h)
  have ham0 := Int.emod_nonneg a (Int.ne_of_gt hp)
  have ham1 := Int.emod_lt_of_pos a hp
  have hah0 : 0 ≤ a / 2 ^ h := Int.ediv_nonneg ha (Int.le_of_lt hp)
  have hah1 : a / 2 ^ h < b * 2 ^ h := Int.ediv_lt_of_lt_mul hp (by rw [Int.mul_assoc, ← e2h]; exact hlt)
  have ha12 : a / 2 ^ (2 * h) = a / 2 ^ h / 2 ^ h := by rw [e2h, Int.ediv_ediv_of_nonneg (Int.le_of_lt hp)]
  have hsum : a / 2 ^ (2 * h) * 2 ^ h + a / 2 ^ h % 2 ^ h = a / 2 ^ h := by
    rw [ha12, Int.mul_comm]
    have := Int.emod_add_mul_ediv (a / 2 ^ h) (2 ^ h)
    (first | lia | omega)
  refine spec_div3 hD (k := k) G (ok'.le (Nat.le_refl _)) (by rw [ha12]; exact Int.ediv_nonneg hah0 (Int.le_of_lt hp)) (Int.emod_nonneg _ (Int.ne_of_gt hp)) (Int.emod_lt_of_pos _ hp) hbe hbm0 hbm1 hb1 hb1' hh1 hf hz (by rw [hsum]; exact hah1) ?_
  rw [hsum]
  have hq1 := Int.emod_add_mul_ediv (a / 2 ^ h) b
  have hr0 := Int.emod_nonneg (a / 2 ^ h) (Int.ne_of_gt hb0)
  have hr1 := Int.emod_lt_of_pos (a / 2 ^ h) hb0
  have hq0 : 0 ≤ a / 2 ^ h / b := Int.ediv_nonneg hah0 (Int.le_of_lt hb0)
  have hqlt : a / 2 ^ h / b < 2 ^ h := Int.ediv_lt_of_lt_mul hb0 (by rw [Int.mul_comm]; exact hah1)
  generalize a / 2 ^ h / b = q1 at *
  generalize a / 2 ^ h % b = r1 at *
  repeat back_in
  refine J_Assign_Tup ?_
  repeat back_in
  refine B_and ?_
  rw [and_mask]
  repeat back_in
  have hr2 : r1 * 2 ^ h + a % 2 ^ h < b * 2 ^ h := by
    have := Int.mul_le_mul_of_nonneg_right (show r1 + 1 ≤ b from hr1) (Int.le_of_lt hp)
    rw [Int.add_mul, Int.one_mul] at this
    (first | lia | omega)
  have hr20 : 0 ≤ r1 * 2 ^ h + a % 2 ^ h := by have := Int.mul_nonneg hr0 (Int.le_of_lt hp); (first | lia | omega)
  refine spec_div3 hD (k := k) G (ok'.le (Nat.le_refl _)) hr0 ham0 ham1 hbe hbm0 hbm1 hb1 hb1' hh1 hf hz hr2 ?_
  have hq2 := Int.emod_add_mul_ediv (r1 * 2 ^ h + a % 2 ^ h) b
  have hs0 := Int.emod_nonneg (r1 * 2 ^ h + a % 2 ^ h) (Int.ne_of_gt hb0)
  have hs1 := Int.emod_lt_of_pos (r1 * 2 ^ h + a % 2 ^ h) hb0
  have hq20 : 0 ≤ (r1 * 2 ^ h + a % 2 ^ h) / b := Int.ediv_nonneg hr20 (Int.le_of_lt hb0)
  have hq2lt : (r1 * 2 ^ h + a % 2 ^ h) / b < 2 ^ h := Int.ediv_lt_of_lt_mul hb0 (by rw [Int.mul_comm (2 ^ h)]; exact hr2)
  generalize (r1 * 2 ^ h + a % 2 ^ h) / b = q2 at *
  generalize (r1 * 2 ^ h + a % 2 ^ h) % b = r2 at *
  have hfin : a = (q1 * 2 ^ h + q2) * b + r2 := by
    rw [Int.add_mul, Int.mul_assoc, Int.mul_comm (2 ^ h) b, ← Int.mul_assoc]
    have t1 : a / 2 ^ h * 2 ^ h = q1 * b * 2 ^ h + r1 * 2 ^ h := by rw [← Int.add_mul, Int.mul_comm q1 b]; congr 1; (first | lia | omega)
    rw [Int.mul_comm (2 ^ h)] at had
    rw [Int.mul_comm b q2] at hq2
    (first | lia | omega)
  obtain ⟨eq, er⟩ := divide hfin hs0 hs1
  rw [← eq, ← er] at hq
  repeat back_in
  cases pd with
  | true =>
    rw [if_pos (by decide)]
    repeat back_in
    refine I_shr (by decide) ?_
    repeat back_in
    refine J_nil ?_
    repeat back_in
    refine B_shl (by (first | lia | omega)) (by have := bits_lt hq0 hqlt; rw [e27]; (first | lia | omega)) ?_
    rw [Int.toNat_natCast]
    repeat back_in
    refine B_or ?_
    rw [or_low hq0 hq20 hq2lt]
    repeat back_in
    refine ⟨Nat.le_of_ble_eq_true rfl, hs, .cons _ (.refl _), ?_⟩
    rw [show r2.fdiv (2 ^ (1 : Int).toNat) = r2 / 2 by rw [show (2 : Int) ^ (1 : Int).toNat = 2 from rfl, Int.fdiv_eq_ediv_of_nonneg _ (by decide)]]
    exact hq
  | false =>
    rw [if_neg (by decide)]
    refine J_nil ?_
    repeat back_in
    refine B_shl (by (first | lia | omega)) (by have := bits_lt hq0 hqlt; rw [e27]; (first | lia | omega)) ?_
    rw [Int.toNat_natCast]
    repeat back_in
    refine B_or ?_
    rw [or_low hq0 hq20 hq2lt]
    repeat back_in
    exact ⟨Nat.le_of_ble_eq_true rfl, hs, .cons _ (.refl _), hq⟩
end
end
section
section
variable {X : Fx} {A : Around} {hs : HS}
theorem bits_ge {b : Int} {n : Nat} (hn : 1 ≤ n) (hb : 2 ^ (n - 1) ≤ b) : n ≤ Builtin.Int.intBits b := by
  rcases Nat.lt_or_ge (Builtin.Int.intBits b) n with q | q
  · have h1 : Builtin.Int.intBits b ≤ n - 1 := by (first | lia | omega)
    have h2 := intBits_le_iff.mp h1
    have h3 : (b.natAbs : Int) < 2 ^ (n - 1) := by exact_mod_cast h2
    (first | lia | omega)
  · exact q
theorem spec_div2 (G : Prog X) : ∀ f, D2 X f := by
  intro f
  have small : ∀ {A' : Around} {hs : HS} {n : Nat} {a b : Int} {L fa : Addr} {cd : Value} {Q : V → HS → Prop}, 0 ≤ a → 2 ^ (n - 1) ≤ b → 1 ≤ n → Builtin.Int.intBits a ≤ n + 4000 → Q (.tup [.int (a / b), .int (a % b)]) hs →
      Jx X A' (envF (defAt 5) L fa [] cd) (defAt 5).body ((L, .ns [("n", .int n), ("b", .int b), ("a", .int a)]) :: hs) (Back Q) := by
    intro A' hs n a b L fa cd Q ha hb hn hbits hq
    have hb0 : 0 < b := by have := pow_pos2 (n - 1); (first | lia | omega)
    repeat back_in
    refine J_Meth0 meth_bit_length ?_
    back_in
    refine ⟨TyAt.int, NoDct.int, N_bit_length ?_⟩
    repeat back_in
    rw [if_pos (by simp; (first | lia | omega))]
    repeat back_in
    refine N_divmod (by (first | lia | omega)) (noPylong_near (by have := bits_ge hn hb; (first | lia | omega))) ?_
    rw [Int.fdiv_eq_ediv_of_nonneg _ (Int.le_of_lt hb0), Int.fmod_eq_emod_of_nonneg _ (Int.le_of_lt hb0)]
    exact ⟨hs, .cons _ (.refl _), hq⟩
  have abits : ∀ {n : Nat} {a b : Int}, 0 ≤ a → b < 2 ^ n → a < b * 2 ^ n → Builtin.Int.intBits a ≤ 2 * n := by
    intro n a b ha hb' hlt
    refine bits_lt ha ?_
    have := Int.mul_le_mul_of_nonneg_right (Int.le_of_lt hb') (Int.le_of_lt (pow_pos2 n))
    rw [← Int.pow_add, show n + n = 2 * n by (first | lia | omega)] at this
    (first | lia | omega)
  induction f with
  | zero =>
    intro A hs k n a b Q ok ha hb hb' hlt hn hf hz hq
    refine JC_def (d := defAt 5) (names := ["a", "b", "n"]) (n := k) (u := 0) G.T (G.fn "_div2n1n" 5 rfl).1 ok rfl (bind3 fun _ _ _ _ _ _ => rfl) (by rfl) (by decide) ?_
    intro L fa cd A' ok'
    exact small ha hb hn (by have := abits ha hb' hlt; (first | lia | omega)) hq
  | succ f ih =>
    intro A hs k n a b Q ok ha hb hb' hlt hn hf hz hq
    refine JC_def (d := defAt 5) (names := ["a", "b", "n"]) (n := k + 2 * f + 2) (u := 0) G.T (G.fn "_div2n1n" 5 rfl).1 (ok.le (by (first | lia | omega))) rfl (bind3 fun _ _ _ _ _ _ => rfl) (by rfl) (by decide) ?_
    intro L fa cd A' ok'
    by_cases hc : Builtin.Int.intBits a ≤ n + 4000
    · exact small ha hb hn hc hq
    have hab := abits ha hb' hlt
    have e27 : (2 : Int) ^ 27 = ((2 ^ 27 : Nat) : Int) := rfl
    have hf2 : 4000 * 2 ^ (f + 1) = 2 * (4000 * 2 ^ f) := by rw [Nat.pow_succ]; (first | lia | omega)
    repeat back_in
    refine J_Meth0 meth_bit_length ?_
    back_in
    refine ⟨TyAt.int, NoDct.int, N_bit_length ?_⟩
    repeat back_in
    rw [if_neg (by simp; (first | lia | omega))]
    refine J_nil ?_
    repeat back_in
    refine B_and ?_
    rw [bitAnd_m1]
    repeat back_in
    have hb0 : 0 < b := by have := pow_pos2 (n - 1); (first | lia | omega)
    rcases Nat.mod_two_eq_zero_or_one n with e | e
    · rw [show ((n : Int) % 2) = 0 by (first | lia | omega), if_neg (by decide)]
      have hn2 : n = 2 * (n / 2) := by (first | lia | omega)
      refine J_nil ?_
      generalize n / 2 = h at hn2
      subst hn2
      exact div2_cont (pd := false) (m := _) ih (k := k) G ok' ha hb hb' hlt (by (first | lia | omega)) (by (first | lia | omega)) (by (first | lia | omega)) ⟨rfl, rfl, rfl, rfl, trivial⟩ hq
    · rw [show ((n : Int) % 2) = 1 by (first | lia | omega), if_pos (by decide)]
      repeat back_in
      refine I_shl (by decide) (by rw [e27]; (first | lia | omega)) ?_
      repeat back_in
      refine I_shl (by decide) (by have := bits_lt (Int.le_of_lt hb0) hb'; rw [e27]; (first | lia | omega)) ?_
      repeat back_in
      refine J_nil ?_
      have hn2 : n + 1 = 2 * ((n + 1) / 2) := by (first | lia | omega)
      generalize (n + 1) / 2 = h at hn2
      have hs2 : (2 : Int) ^ (1 : Int).toNat = 2 := rfl
      rw [hs2]
      have p1 : (2 : Int) ^ (2 * h - 1) = 2 ^ (n - 1) * 2 := by rw [← hn2, ← Int.pow_succ]; congr 1; (first | lia | omega)
      have p2 : (2 : Int) ^ (2 * h) = 2 ^ n * 2 := by rw [← hn2, Int.pow_succ]
      refine div2_cont (pd := true) (m := _) (a := a * 2) (b := b * 2) ih (k := k) G ok' (by (first | lia | omega)) (by rw [p1]; (first | lia | omega)) (by rw [p2]; (first | lia | omega)) ?_ (by (first | lia | omega)) (by (first | lia | omega)) (by (first | lia | omega)) ⟨rfl, rfl, ?_, rfl, trivial⟩ ?_
      · rw [p2]
        have : b * 2 * (2 ^ n * 2) = b * 2 ^ n * 4 := by rw [Int.mul_assoc, Int.mul_assoc, Int.mul_comm 2 (2 ^ n * 2), Int.mul_assoc]; rfl
        rw [this]; (first | lia | omega)
      · show some (V.int ((n : Int) + 1)) = some (V.int ((2 * h : Nat) : Int))
        rw [show ((n : Int) + 1) = ((2 * h : Nat) : Int) by (first | lia | omega)]
      · have hd := Int.emod_add_mul_ediv a b
        have h0 := Int.emod_nonneg a (Int.ne_of_gt hb0)
        have h1 := Int.emod_lt_of_pos a hb0
        obtain ⟨e1, e2⟩ := divide (a := a * 2) (b := b * 2) (q := a / b) (r := a % b * 2) (by
          rw [← Int.mul_assoc, ← Int.add_mul, Int.mul_comm (a / b)]
          (first | lia | omega)) (by (first | lia | omega)) (by (first | lia | omega))
        rw [if_pos rfl, ← e1, ← e2, Int.mul_ediv_cancel _ (by decide)]
        exact hq
theorem ints_rev (ns : List Int) : (intsOf ns).reverse = intsOf ns.reverse := by simp [intsOf]
theorem spec_divmod_pos {k : Nat} {a b : Int} {c7 P7 c8 P8 : Addr} {Q : V → HS → Prop} (G : Prog X) (N7 : Nest X 7 1 qn7 c7 P7) (N8 : Nest X 8 0 qn8 c8 P8) (ok : Ok A (k + 28) 1) (ha : 0 ≤ a) (hb : 0 < b)
    (hz : Builtin.Int.intBits a + 2 * Builtin.Int.intBits b ≤ 2 ^ 27) (hn25 : Builtin.Int.intBits b ≤ 2 ^ 25) (hnf : Builtin.Int.intBits b ≤ 4000 * 2 ^ 13) (hl : dcount a (Builtin.Int.intBits b) ≤ 2 ^ 24)
    (h : Q (.tup [.int (a / b), .int (a % b)]) ((P7, .tab (posAt 7 1) qn7) :: (P8, .tab (posAt 8 0) qn8) :: hs)) : JC X A (.fn "_divmod_pos") [.int a, .int b] ((P7, .tab (posAt 7 1) qn7) :: (P8, .tab (posAt 8 0) qn8) :: hs) Q := by
  refine JC_def (d := defAt 9) (names := ["a", "b"]) (n := k + 27) (u := 0) G.T (G.fn "_divmod_pos" 9 rfl).1 ok rfl (bind2 fun _ _ _ _ _ => rfl) (by rfl) (by decide) ?_
  intro L fa cd A' ok'
  have hh := ok'.1
  have e27 : (2 : Int) ^ 27 = ((2 ^ 27 : Nat) : Int) := rfl
  have hbl := lt_bits b
  rw [Int.natAbs_of_nonneg (Int.le_of_lt hb)] at hbl
  have hb1 := bits_pos (Int.ne_of_gt hb)
  have hbg : (2 : Int) ^ (Builtin.Int.intBits b - 1) ≤ b := by
    rcases Int.lt_or_le b (2 ^ (Builtin.Int.intBits b - 1)) with q | q
    · have := bits_lt (Int.le_of_lt hb) q; (first | lia | omega)
    · exact q
  repeat back_in
  refine J_Meth0 meth_bit_length ?_
  back_in
  refine ⟨TyAt.int, NoDct.int, N_bit_length ?_⟩
  generalize hN : Builtin.Int.intBits b = n at *
  have hc := dcount_ge (a := a) hb1
  have hp := pow_pos2 n
  repeat back_in
  refine JC.perm (.swap _ _ _) ?_
  refine spec_int2digits (k := k) (f := 24) G N7 (ok'.le (by (first | lia | omega))) hb1 ha (by (first | lia | omega)) hl hl ?_
  intro ds hlen hrng hsum
  iterate 7 back_in
  refine J_ListM ?_
  back_in
  refine ⟨Nat.le_of_ble_eq_true rfl, fun D => ?_⟩
  refine J_st_local rfl rfl (.there (.there .here)) ?_
  refine J.perm (hs' := (D, .list (intsOf [])) :: (L, .ns [("q_digits", .ref D), ("r", .int 0), ("a_digits", .lst (intsOf ds)), ("n", .int n), ("b", .int b), ("a", .int a)]) :: (P7, .tab (posAt 7 1) qn7) :: (P8, .tab (posAt 8 0) qn8) :: hs) (.cons _ (.swap _ _ _)) ?_
  refine J.ns' (m' := [("q_digits", .ref D), ("r", .int 0), ("n", .int n), ("b", .int b), ("a_digits", .lst (intsOf ds))]) (.there .here) ⟨rfl, rfl, rfl, rfl, rfl, trivial⟩ ?_
  back_in
  refine J_For (tg := false) hh (fun x => nomatch x) ?_
  refine Src_call ?_
  repeat back_in
  refine ⟨_, Src_rev, ?_⟩
  rw [ints_rev]
  refine Loop.invMK V.int (fun rem h => ∃ (tp qs : List Int) (r : Int) (m : List (Str × V)), ds = rem.reverse ++ tp ∧ qs.length = tp.length ∧ (∀ q ∈ qs, 0 ≤ q ∧ q < 2 ^ n) ∧ dsum n tp = dsum n qs.reverse * b + r ∧ 0 ≤ r ∧ r < b ∧ subNs m [("q_digits", .ref D), ("r", .int r), ("n", .int n), ("b", .int b)] ∧
    h = (D, .list (intsOf qs)) :: (L, .ns m) :: (P7, .tab (posAt 7 1) qn7) :: (P8, .tab (posAt 8 0) qn8) :: hs) (xs := ds.reverse) ?_ ?_ ?_
  · rintro d hd rem h' ⟨tp, qs, r, m, e1, e2, e3, e4, h0, h1, hm, rfl⟩ K hK
    obtain ⟨d0, d1⟩ := hrng d (List.mem_reverse.mp hd)
    iterate 2 back_in
    refine J.ns' (m' := [("a_digit", .int d), ("q_digits", .ref D), ("r", .int r), ("n", .int n), ("b", .int b)]) (.there .here) ⟨rfl, hm.1, hm.2.1, hm.2.2.1, hm.2.2.2.1, trivial⟩ ?_
    back_in
    refine J_Assign_Tup ?_
    repeat back_in
    have hrb : r < 2 ^ n := by (first | lia | omega)
    refine B_shl (by (first | lia | omega)) (by have := bits_lt h0 hrb; rw [e27]; (first | lia | omega)) ?_
    rw [Int.toNat_natCast]
    repeat back_in
    have ha0 : 0 ≤ r * 2 ^ n + d := by have := Int.mul_nonneg h0 (Int.le_of_lt hp); (first | lia | omega)
    have hlt : r * 2 ^ n + d < b * 2 ^ n := by
      have := Int.mul_le_mul_of_nonneg_right (show r + 1 ≤ b from h1) (Int.le_of_lt hp)
      rw [Int.add_mul, Int.one_mul] at this
      (first | lia | omega)
    refine spec_div2 G 13 (k := k) (ok'.le (by (first | lia | omega))) ha0 hbg hbl hlt hb1 hnf hn25 ?_
    have hdm := Int.emod_add_mul_ediv (r * 2 ^ n + d) b
    have hr0 := Int.emod_nonneg (r * 2 ^ n + d) (Int.ne_of_gt hb)
    have hr1 := Int.emod_lt_of_pos (r * 2 ^ n + d) hb
    have hq0 : 0 ≤ (r * 2 ^ n + d) / b := Int.ediv_nonneg ha0 (Int.le_of_lt hb)
    have hq1 : (r * 2 ^ n + d) / b < 2 ^ n := Int.ediv_lt_of_lt_mul hb (by rw [Int.mul_comm (2 ^ n) b]; exact hlt)
    generalize (r * 2 ^ n + d) / b = q at *
    generalize (r * 2 ^ n + d) % b = r' at *
    repeat back_in
    refine J_Meth1 meth_append ?_
    back_in
    refine ⟨TyAt.list (.head _), NoDct.list (.head _), ?_⟩
    back_in
    have hqz : qs.length ≤ 2 ^ 24 := by
      have := congrArg List.length e1
      rw [List.length_append] at this
      (first | lia | omega)
    refine N_append (by rw [intsOf, List.length_map]; exact hqz) .here ?_
    rw [ints_snoc]
    refine J_nil (hK _ ⟨d :: tp, qs ++ [q], r', _, by rw [e1]; simp, by simp [e2], ?_, ?_, hr0, hr1, ?_, rfl⟩)
    · intro x hx
      rcases List.mem_append.mp hx with hx | hx
      · exact e3 x hx
      · rw [List.mem_singleton.mp hx]; exact ⟨hq0, hq1⟩
    · rw [List.reverse_append, List.reverse_singleton, List.singleton_append]
      simp only [dsum]
      rw [e4, Int.add_mul, Int.mul_add, ← Int.mul_assoc (2 ^ n), Int.mul_comm (2 ^ n) r, Int.mul_comm q b]
      (first | lia | omega)
    · exact ⟨rfl, rfl, rfl, rfl, trivial⟩
  · rintro h' ⟨tp, qs, r, m, e1, e2, e3, e4, h0, h1, hm, rfl⟩
    rw [List.reverse_nil, List.nil_append] at e1
    subst e1
    rw [hsum] at e4
    have hqz : qs.length ≤ 2 ^ 24 := by (first | lia | omega)
    refine J.ns' (m' := [("q_digits", .ref D), ("r", .int r), ("n", .int n), ("b", .int b)]) (.there .here) ⟨hm.1, hm.2.1, hm.2.2.1, hm.2.2.2.1, trivial⟩ ?_
    repeat back_in
    refine J_Meth0 meth_reverse ?_
    back_in
    refine ⟨TyAt.list (.head _), NoDct.list (.head _), ?_⟩
    refine N_reverse (by rw [intsOf, List.length_map]; exact hqz) .here ?_
    rw [ints_rev]
    refine J.shift (Shift.list_ns (x := "q_digits") rfl) ?_
    repeat back_in
    refine JC.perm (hs' := (P8, .tab (posAt 8 0) qn8) :: (L, .ns [("q_digits", .lst (intsOf qs.reverse)), ("q_digits", .ref D), ("r", .int r), ("n", .int n), ("b", .int b)]) :: (P7, .tab (posAt 7 1) qn7) :: hs) ((List.perm_middle (l₁ := [_, _]))) ?_
    refine spec_digits2int (k := k) (f := 24) (B := n) G N8 (ok'.le (by (first | lia | omega))) hb1 ?_ ?_ ?_ ?_ ?_
    · intro x hx
      obtain ⟨x0, x1⟩ := e3 x (List.mem_reverse.mp hx)
      exact bits_lt x0 x1
    · rw [List.length_reverse, e2, hlen]; (first | lia | omega)
    · rw [List.length_reverse]; exact hqz
    · rw [List.length_reverse]; exact hqz
    back_in
    refine J.perm (hs' := (L, .ns [("q", .int (dsum n qs.reverse)), ("q_digits", .lst (intsOf qs.reverse)), ("q_digits", .ref D), ("r", .int r), ("n", .int n), ("b", .int b)]) :: (P7, .tab (posAt 7 1) qn7) :: (P8, .tab (posAt 8 0) qn8) :: hs) (List.perm_middle (l₁ := [_, _])).symm ?_
    repeat back_in
    refine ⟨Nat.le_of_ble_eq_true rfl, _, .cons _ (.refl _), ?_⟩
    obtain ⟨eq, er⟩ := divide e4 h0 h1
    rw [eq, er]
    exact h
  · exact ⟨[], [], 0, _, by simp, rfl, fun q hq => (List.not_mem_nil hq).elim, by simp [dsum], Int.le_refl _, hb, ⟨rfl, rfl, rfl, rfl, trivial⟩, rfl⟩
end
end
section
section
variable {X : Fx} {A : Around} {hs : HS}
structure DivFit (a b : Int) : Prop where
  z : Builtin.Int.intBits a + 2 * Builtin.Int.intBits b ≤ 2 ^ 27
  n25 : Builtin.Int.intBits b ≤ 2 ^ 25
  nf : Builtin.Int.intBits b ≤ 4000 * 2 ^ 13
  l : (Builtin.Int.intBits a + Builtin.Int.intBits b - 1) / Builtin.Int.intBits b ≤ 2 ^ 24
theorem DivFit.le {a b a' b' : Int} (h : DivFit a b) (ha : a'.natAbs ≤ a.natAbs) (hb : b'.natAbs = b.natAbs) : DivFit a' b' := by
  have h1 : Builtin.Int.intBits a' ≤ Builtin.Int.intBits a := intBits_le_of_natAbs ha (Nat.le_refl _)
  have h2 : Builtin.Int.intBits b' = Builtin.Int.intBits b := Nat.le_antisymm (intBits_le_of_natAbs (Nat.le_of_eq hb) (Nat.le_refl _)) (intBits_le_of_natAbs (Nat.le_of_eq hb.symm) (Nat.le_refl _))
  refine ⟨by rw [h2]; exact Nat.le_trans (Nat.add_le_add_right h1 _) h.z, by rw [h2]; exact h.n25, by rw [h2]; exact h.nf, ?_⟩
  rw [h2]
  exact Nat.le_trans (Nat.div_le_div_right (Nat.sub_le_sub_right (Nat.add_le_add_right h1 _) 1)) h.l
section
variable {k : Nat} {a b : Int} {c7 P7 c8 P8 : Addr} {Q : V → HS → Prop}
theorem im_pos (G : Prog X) (N7 : Nest X 7 1 qn7 c7 P7) (N8 : Nest X 8 0 qn8 c8 P8) (ok : Ok A (k + 29) 1) (ha : 0 ≤ a) (hb : 0 < b) (F : DivFit a b)
    (h : Q (.tup [.int (a / b), .int (a % b)]) ((P7, .tab (posAt 7 1) qn7) :: (P8, .tab (posAt 8 0) qn8) :: hs)) : JC X A (.fn "int_divmod") [.int a, .int b] ((P7, .tab (posAt 7 1) qn7) :: (P8, .tab (posAt 8 0) qn8) :: hs) Q := by
  refine JC_def (d := defAt 10) (names := ["a", "b"]) (n := k + 28) (u := 0) G.T (G.fn "int_divmod" 10 rfl).1 ok rfl (bind2 fun _ _ _ _ _ => rfl) (by rfl) (by decide) ?_
  intro L fa cd A' ok'
  repeat back_in
  rw [if_neg (by simp; (first | lia | omega))]
  repeat back_in
  rw [if_neg (by simp; (first | lia | omega))]
  repeat back_in
  rw [if_neg (by simp; (first | lia | omega))]
  repeat back_in
  refine JC.perm (hs' := (P7, .tab (posAt 7 1) qn7) :: (P8, .tab (posAt 8 0) qn8) :: (L, .ns [("b", .int b), ("a", .int a)]) :: hs) ((List.perm_middle (l₁ := [_, _])).symm) ?_
  refine spec_divmod_pos (k := k) G N7 N8 (ok'.le (by (first | lia | omega))) ha hb F.z F.n25 F.nf F.l ?_
  exact ⟨_, .cons_cons _ (.cons_cons _ (.cons _ (.refl _))), h⟩
theorem im_posb (G : Prog X) (N7 : Nest X 7 1 qn7 c7 P7) (N8 : Nest X 8 0 qn8 c8 P8) (ok : Ok A (k + 30) 1) (hb : 0 < b) (F : DivFit a b)
    (h : Q (.tup [.int (a / b), .int (a % b)]) ((P7, .tab (posAt 7 1) qn7) :: (P8, .tab (posAt 8 0) qn8) :: hs)) : JC X A (.fn "int_divmod") [.int a, .int b] ((P7, .tab (posAt 7 1) qn7) :: (P8, .tab (posAt 8 0) qn8) :: hs) Q := by
  rcases Int.lt_or_le a 0 with ha | ha
  · refine JC_def (d := defAt 10) (names := ["a", "b"]) (n := k + 29) (u := 0) G.T (G.fn "int_divmod" 10 rfl).1 ok rfl (bind2 fun _ _ _ _ _ => rfl) (by rfl) (by decide) ?_
    intro L fa cd A' ok'
    have hh := ok'.1
    repeat back_in
    rw [if_neg (by simp; (first | lia | omega))]
    repeat back_in
    rw [if_neg (by simp; (first | lia | omega))]
    repeat back_in
    rw [if_pos (by simp; (first | lia | omega))]
    refine J_cons ?_
    refine J_Assign_Tup ?_
    repeat back_in
    refine U_inv ?_
    rw [show Builtin.bitNot a = -a - 1 from rfl]
    repeat back_in
    refine JC.perm (hs' := (P7, .tab (posAt 7 1) qn7) :: (P8, .tab (posAt 8 0) qn8) :: (L, .ns [("b", .int b), ("a", .int a)]) :: hs) ((List.perm_middle (l₁ := [_, _])).symm) ?_
    refine im_pos (k := k) G N7 N8 (ok'.le (by (first | lia | omega))) (by (first | lia | omega)) hb (F.le (by (first | lia | omega)) rfl) ?_
    repeat back_in
    refine U_inv ?_
    repeat back_in
    refine U_inv ?_
    repeat back_in
    refine ⟨Nat.le_of_ble_eq_true rfl, ?_⟩
    refine ⟨_, .cons_cons _ (.cons_cons _ (.cons _ (.refl _))), ?_⟩
    have hd := Int.emod_add_mul_ediv (-a - 1) b
    have h0 := Int.emod_nonneg (-a - 1) (Int.ne_of_gt hb)
    have h1 := Int.emod_lt_of_pos (-a - 1) hb
    obtain ⟨e1, e2⟩ := divide (a := a) (b := b) (q := Builtin.bitNot ((-a - 1) / b)) (r := b + Builtin.bitNot ((-a - 1) % b)) (by
      unfold Builtin.bitNot
      rw [Int.sub_mul, Int.neg_mul, Int.mul_comm ((-a - 1) / b) b]
      (first | lia | omega)) (by unfold Builtin.bitNot; (first | lia | omega)) (by unfold Builtin.bitNot; (first | lia | omega))
    rw [e1, e2]
    exact h
  · exact im_pos (k := k + 1) G N7 N8 (ok.le (by (first | lia | omega))) ha hb F h
theorem im_negb (G : Prog X) (N7 : Nest X 7 1 qn7 c7 P7) (N8 : Nest X 8 0 qn8 c8 P8) (ok : Ok A (k + 31) 1) (hb : b < 0) (F : DivFit a b)
    (h : Q (.tup [.int ((-a) / (-b)), .int (-((-a) % (-b)))]) ((P7, .tab (posAt 7 1) qn7) :: (P8, .tab (posAt 8 0) qn8) :: hs)) : JC X A (.fn "int_divmod") [.int a, .int b] ((P7, .tab (posAt 7 1) qn7) :: (P8, .tab (posAt 8 0) qn8) :: hs) Q := by
  refine JC_def (d := defAt 10) (names := ["a", "b"]) (n := k + 30) (u := 0) G.T (G.fn "int_divmod" 10 rfl).1 ok rfl (bind2 fun _ _ _ _ _ => rfl) (by rfl) (by decide) ?_
  intro L fa cd A' ok'
  have hh := ok'.1
  repeat back_in
  rw [if_neg (by simp; (first | lia | omega))]
  repeat back_in
  rw [if_pos (by simp; (first | lia | omega))]
  refine J_cons ?_
  refine J_Assign_Tup ?_
  repeat back_in
  refine JC.perm (hs' := (P7, .tab (posAt 7 1) qn7) :: (P8, .tab (posAt 8 0) qn8) :: (L, .ns [("b", .int b), ("a", .int a)]) :: hs) ((List.perm_middle (l₁ := [_, _])).symm) ?_
  refine im_posb (k := k) G N7 N8 (ok'.le (by (first | lia | omega))) (by (first | lia | omega)) (F.le (by (first | lia | omega)) (by (first | lia | omega))) ?_
  repeat back_in
  refine ⟨Nat.le_of_ble_eq_true rfl, ?_⟩
  exact ⟨_, .cons_cons _ (.cons_cons _ (.cons _ (.refl _))), h⟩
end
noncomputable def quo (a b : Int) : Int := if 0 < b then a / b else (-a) / (-b)
noncomputable def rest (a b : Int) : Int := if 0 < b then a % b else -((-a) % (-b))
theorem spec_int_divmod {k : Nat} {a b : Int} {c7 P7 c8 P8 : Addr} {Q : V → HS → Prop} (G : Prog X) (N7 : Nest X 7 1 qn7 c7 P7) (N8 : Nest X 8 0 qn8 c8 P8) (ok : Ok A (k + 31) 1) (hb : b ≠ 0) (F : DivFit a b)
    (h : Q (.tup [.int (quo a b), .int (rest a b)]) ((P7, .tab (posAt 7 1) qn7) :: (P8, .tab (posAt 8 0) qn8) :: hs)) : JC X A (.fn "int_divmod") [.int a, .int b] ((P7, .tab (posAt 7 1) qn7) :: (P8, .tab (posAt 8 0) qn8) :: hs) Q := by
  rcases Int.lt_or_lt_of_ne hb with q | q
  · refine im_negb (k := k) G N7 N8 ok q F ?_
    unfold quo rest at h
    rw [if_neg (by (first | lia | omega)), if_neg (by (first | lia | omega))] at h
    exact h
  · refine im_posb (k := k + 1) G N7 N8 ok q F ?_
    unfold quo rest at h
    rw [if_pos q, if_pos q] at h
    exact h
theorem quo_rest {a b : Int} (hb : b ≠ 0) : quo a b * b + rest a b = a ∧ ((0 ≤ rest a b ∧ rest a b < b) ∨ (b < rest a b ∧ rest a b ≤ 0)) := by
  unfold quo rest
  rcases Int.lt_or_lt_of_ne hb with q | q
  · rw [if_neg (by (first | lia | omega)), if_neg (by (first | lia | omega))]
    have hd := Int.emod_add_mul_ediv (-a) (-b)
    have h0 := Int.emod_nonneg (-a) (show -b ≠ 0 by (first | lia | omega))
    have h1 := Int.emod_lt_of_pos (-a) (show 0 < -b by (first | lia | omega))
    refine ⟨?_, .inr ⟨by (first | lia | omega), by (first | lia | omega)⟩⟩
    have e : -a / -b * b = -(-b * (-a / -b)) := by rw [Int.neg_mul, Int.neg_neg, Int.mul_comm]
    rw [e]; (first | lia | omega)
  · rw [if_pos q, if_pos q]
    have hd := Int.emod_add_mul_ediv a b
    have h0 := Int.emod_nonneg a (Int.ne_of_gt q)
    have h1 := Int.emod_lt_of_pos a q
    exact ⟨by rw [Int.mul_comm]; (first | lia | omega), .inl ⟨h0, h1⟩⟩
end
end
section
section
variable {X : Fx} {A : Around} {hs : HS}
theorem J_Try {env : Env} {body orelse : List Stmt} {h₀ : ExceptHandler} {hnd : List ExceptHandler} {pos : Pos} {Q : Fl → HS → Prop} (h : Jx X A env body hs fun f h1 => match f with | .next => Jx X A env orelse h1 Q | f => Q f h1) : Js X A env (.Try body (h₀ :: hnd) orelse [] pos) hs Q := fun B W s r =>
  wpAny_Try_except (wpAny_mono (h B W s r) (fun f s1 p0 => p0.elim fun W1 b h1 l1 i1 r1 k1 => by
    cases f <;> cases b <;> first
      | exact i1.elim
      | exact wpAny_mono (k1 B W1 s1 r1) (fun _ _ p => p.le l1) fun _ _ x => x
      | exact ⟨W1, _, h1, l1, i1, r1, k1⟩) fun _ _ x => x.elim)
theorem spec_goes {k : Nat} {a b : Int} {c7 P7 c8 P8 : Addr} {Q : V → HS → Prop} (G : Prog X) (N7 : Nest X 7 1 qn7 c7 P7) (N8 : Nest X 8 0 qn8 c8 P8) (ok : Ok A (k + 32) 1) (hb : b ≠ 0) (F : DivFit a b)
    (h : Q (.tup [.int (quo a b), .int (rest a b)]) ((P7, .tab (posAt 7 1) qn7) :: (P8, .tab (posAt 8 0) qn8) :: hs)) : JC X A (.fn "_law_goes") [.int a, .int b] ((P7, .tab (posAt 7 1) qn7) :: (P8, .tab (posAt 8 0) qn8) :: hs) Q := by
  refine JC_def (d := defAt 29) (names := ["dividend", "divisor"]) (n := k + 31) (u := 0) G.T (G.fn "_law_goes" 29 rfl).1 ok rfl (bind2 fun _ _ _ _ _ => rfl) (by rfl) (by decide) ?_
  intro L fa cd A' ok'
  back_in
  refine J_Try ?_
  repeat back_in
  refine JC.perm (hs' := (P7, .tab (posAt 7 1) qn7) :: (P8, .tab (posAt 8 0) qn8) :: (L, .ns [("divisor", .int b), ("dividend", .int a)]) :: hs) ((List.perm_middle (l₁ := [_, _])).symm) ?_
  refine spec_int_divmod (k := k) G N7 N8 (ok'.le (by (first | lia | omega))) hb F ?_
  exact ⟨_, .cons_cons _ (.cons_cons _ (.cons _ (.refl _))), h⟩
theorem Rel.frame0 {sc : Scope} {names : List Str} {vs : List Value} {as : List V} {B : Addr → Option Obj} {W : Wd} {s : Shared} {h' : Heap} (r : Rel X B W hs s) (hv : IsL X W vs as) (hloc : ∀ y ∈ names, sc.names.lookup y = some .local)
    (hns : h'.Ns s.heap.objs.size (fun x => (names.zip vs).reverse.lookup x)) (keep : ∀ b o, s.heap.get? b = some o → h'.get? b = some o) :
    Rel X B W ((s.heap.objs.size, .ns (bindsL sc (names.zip as) [])) :: hs) { s with heap := h', toks := s.toks + (names.zip vs).length } := by
  have hrel : ∀ (names : List Str) (vs : List Value) (as : List V) (m : Str → Option Value) (ma : List (Str × V)), IsL X W vs as → (∀ y ∈ names, sc.names.lookup y = some .local) → (∀ y b, ma.lookup y = some b → ∃ v, m y = some v ∧ Is X W v b) →
      ∀ y b, (bindsL sc (names.zip as) ma).lookup y = some b → ∃ v, (((names.zip vs).reverse.lookup y).orElse fun _ => m y) = some v ∧ Is X W v b := by
    intro names
    induction names with
    | nil => intro vs as m ma _ _ hm y b hy; exact hm y b hy
    | cons nm nms ih =>
      intro vs as m ma hi hloc hm y b hy
      cases as with
      | nil =>
        simp only [IsL] at hi; subst hi
        exact hm y b hy
      | cons bb bs =>
        simp only [IsL] at hi
        refine Classical.byContradiction fun hno => ?_
        obtain ⟨w, r', rfl, i1, i2⟩ := hi
        refine hno ?_
        clear hno
        simp only [List.zip_cons_cons, bindsL] at hy
        rw [if_pos (hloc nm List.mem_cons_self)] at hy
        have := ih r' bs (fun z => if z = nm then some w else m z) ((nm, bb) :: ma) i2 (fun z hz => hloc z (List.mem_cons_of_mem _ hz)) (fun z c hz => by
          rw [lookup_cons_str] at hz
          by_cases e : z = nm
          · subst e; rw [if_pos rfl] at hz; cases hz; exact ⟨w, by simp, i1⟩
          · rw [if_neg e] at hz ⊢; exact hm z c hz) y b hy
        refine Classical.byContradiction fun hno => ?_
        obtain ⟨v, hv, iv⟩ := this
        refine hno ?_
        clear hno
        refine ⟨v, ?_, iv⟩
        rw [List.zip_cons_cons, List.reverse_cons, List.lookup_append]
        cases hl : (nms.zip r').reverse.lookup y with
        | some q => rw [hl] at hv; simpa using hv
        | none =>
          rw [hl] at hv
          simp only [Option.orElse] at hv ⊢
          by_cases e : y = nm
          · subst e; rw [if_pos rfl] at hv; simpa [List.lookup] using hv
          · rw [if_neg e] at hv
            have hb : (y == nm) = false := by simpa using e
            simpa [List.lookup, hb] using hv
  have r1 := r.keeps keep (Nat.le_add_right s.toks (names.zip vs).length)
  have n0 := r.none_size
  refine { r1 with objs := fun b p hm => ?_, nodup := List.pairwise_cons.mpr ⟨fun q hq e => n0.2.2 q.2 (by rw [show s.heap.objs.size = q.1 from e]; exact hq), r.nodup⟩, apB := fun b p hm => ?_, apZ := fun b p hm => ?_ }
  · rcases List.mem_cons.mp hm with e | hm
    · cases e
      refine ⟨_, hns, fun y b hy => ?_⟩
      refine Classical.byContradiction fun hno => ?_
      obtain ⟨v, h1, h2⟩ := hrel names vs as (fun _ => none) [] hv hloc (fun y b h => by simp at h) y b hy
      refine hno ?_
      clear hno
      refine ⟨v, ?_, h2⟩
      cases hl : (names.zip vs).reverse.lookup y with
      | some q => rw [hl] at h1; simpa using h1
      | none => rw [hl] at h1; simp at h1
    · exact r1.objs b p hm
  · rcases List.mem_cons.mp hm with e | hm
    · cases e; exact n0.1
    · exact r1.apB b p hm
  · rcases List.mem_cons.mp hm with e | hm
    · cases e; exact n0.2.1
    · exact r1.apZ b p hm
theorem call_raw {d : Def} {as : List V} {names : List Str} {n u : Nat} {B : Addr → Option Obj} {W : Wd} {s : Shared} {vf : Value} {vs : List Value} {Q E : Value → Shared → Prop} (T : Base X) (F : FnIs X d) (ok : Ok A (n + 1) (u + 1)) (hlen : names.length = as.length)
    (hbind : ∀ pm cd doc vs, vs.length = names.length → bindArgs (docDef d.name d.params d.body d.scope pm cd doc) ⟨vs, []⟩ = pure (names.zip vs))
    (hkind : names.all (fun y => d.scope.names.lookup y == some .local) = true) (hcell : ∀ y ∈ d.scope.names, y.2 ≠ .cell)
    (r : Rel X B W hs s) (hf : Is X W vf (.fn d.name)) (hv : IsL X W vs as)
    (h : ∀ L f cd h' tk, Rel X B W ((L, .ns (bindsL d.scope (names.zip as) [])) :: hs) { s with heap := h', toks := tk } → (∀ b o, s.heap.get? b = some o → h'.get? b = some o) → s.heap.objs.size ≤ L →
      wpAny (M X) (A.deeper (envF d L f [] cd)) (execs d.body (envF d L f [] cd)) (fun f s' => Q (match f with | .ret v => v | _ => .none) s')
        (fun e s' => wpAny (M X) (A.deeper (envF d L f [] cd)) (leaving (envF d L f [] cd) e) (fun _ s'' => E e s'') (fun e' s'' => E e' s'') s') { s with heap := h', toks := tk })
    (hco : d.scope.isCoroutine = false := by rfl) (hgen : d.scope.isGenerator = false := by rfl) (hk : d.scope.kind = .function := by rfl) :
    wpAny (M X) A (call vf vs) Q E s := by
  refine Classical.byContradiction fun hno => ?_
  obtain ⟨a, o, pm, code, doc, e1, e2, e3, e4⟩ := F
  refine hno ?_
  clear hno
  simp only [Is] at hf
  refine Classical.byContradiction fun hno => ?_
  obtain ⟨a', rfl, e1'⟩ := hf
  refine hno ?_
  clear hno
  rw [e1] at e1'; cases e1'
  have hlv : vs.length = names.length := hv.length.trans hlen.symm
  refine wpAny_call (codeAny_call_function ok.room (r.hbk _ _ e2) e3 hco hgen rfl (e4.keeps r.hbk) ?_)
  rw [hbind pm code doc vs hlv]
  refine wpAny_pure ?_
  have hl : ∀ y ∈ names.zip vs, d.scope.names.lookup y.1 = some .local := fun y hy => by
    obtain ⟨k, b⟩ := y
    have := List.all_eq_true.mp hkind k (List.of_mem_zip hy).1
    simpa using this
  refine wpAny_newFunctionEnv hcell hl (fun h' hns hsb => ?_) hk
  have keep : ∀ b o, s.heap.get? b = some o → h'.get? b = some o := fun b o e => hsb.extBut b o (Nat.ne_of_lt (Heap.lt_size e)) (Heap.get?_push_of_some _ e)
  refine ⟨(T.nolimit.keeps r.hbk).keeps keep, codeAny_func (body := d.body) (env := envF d s.heap.objs.size a [] code) ?_⟩
  have r2 : Rel X B W ((s.heap.objs.size, .ns (bindsL d.scope (names.zip as) [])) :: hs) { s with heap := h', toks := s.toks + (names.zip vs).length } := r.frame0 hv (fun y hy => by have := List.all_eq_true.mp hkind y hy; simpa using this) hns keep
  exact h s.heap.objs.size a code h' _ r2 keep (Nat.le_refl _)
theorem Raise_made0 {env : Env} {s : Shared} {E : Value → Shared → Prop} {x : Str} {np pos : Pos} {Q : Flow → Shared → Prop} (hh : A.handled = none)
    (hx : wpAny (M X) A (eval (.Name x np) env) (fun v s₁ => v = .type "ZeroDivisionError" ∧ s₁ = s) E s)
    (h : ∀ h' e, Heap.MadeExc s.heap h' e "ZeroDivisionError" [] → E (.ref e) { s with heap := h' }) : wpAny (M X) A (exec (.Raise (some (.Name x np)) none pos) env) Q E s := by
  have hc := excClass_ZeroDivisionError
  have hself : isSubtype (.type "ZeroDivisionError") (.type "ZeroDivisionError") = pure true := by rw [isSubtype_type]; kernel_rfl
  show wpAny (M X) A (do standAt pos; raiseStmt env (some (do let v ← eval (.Name x np) env; standAt pos; pure v)) none) Q E s
  refine wpAny_bind (wpAny_standAt ?_)
  unfold raiseStmt
  dsimp only
  refine wpAny_bind (wpAny_bind (wpAny_mono hx (fun v s₁ h₁ => wpAny_bind (wpAny_standAt (wpAny_pure ?_))) fun _ _ e => e))
  obtain ⟨rfl, hs₁⟩ := h₁
  subst hs₁
  refine wpAny_bind (wpAny_pure ?_)
  dsimp only
  refine wpAny_bind (wpAny_holding ?_)
  unfold excFromValue isExcClass
  refine wpAny_bind (wpAny_bind (wpAny_pure ?_))
  simp only [if_true]
  rw [hc.base]
  refine wpAny_pure ?_
  simp only [if_true]
  refine wpAny_bind (wpAny_call_exc PySem.F.excCall_ZeroDivisionError fun h' e hn => ?_)
  refine Classical.byContradiction fun hno => ?_
  obtain ⟨ob, t, he, hcls, hd⟩ := hn.newExc.there
  refine hno ?_
  clear hno
  have hT : ({ s₁ with heap := h' } : Shared).TypeIs (.ref e) "ZeroDivisionError" := ⟨ob, he, hcls⟩
  refine wpAny_bind (wpAny_isInstance hT hc.base ?_)
  simp only [Bool.not_true, Bool.false_eq_true, if_false]
  refine wpAny_pure ?_
  first | (refine wpAny_bind (m := isType (.type "ZeroDivisionError")) (wpAny_pure ?_)) | (refine wpAny_bind (wpAny_pure ?_))
  first | (rw [if_pos rfl]) | (simp only [if_true]) | dsimp only
  refine wpAny_bind (wpAny_holding ?_)
  unfold raisedFor
  first | (simp only [Bool.false_eq_true, if_false]) | (rw [if_neg (by decide)]) | skip
  first | (refine wpAny_bind (wpAny_typeOf hT ?_)) | (refine wpAny_bind ?_; refine wpAny_bind (wpAny_typeOf hT ?_))
  refine wpAny_bind (call_issubclass (issubclass_self hc hself) ?_)
  first | (refine wpAny_bind (wpAny_truthy_bool ?_)) | (refine wpAny_truthy_bool ?_) | (dsimp only [wants]; first | (refine wpAny_bind (wpAny_truthy_bool ?_)) | (refine wpAny_truthy_bool ?_))
  first | (rw [if_pos rfl]) | (simp only [if_true]) | skip
  refine wpAny_pure ?_
  unfold setFlight raiseNew
  refine wpAny_bind (wpAny_bind (wpAny_field (i := 1) (x := Value.none) he hd rfl ?_))
  rw [if_neg (by decide)]
  refine wpAny_pure (wpAny_bind (wpAny_handled ?_))
  rw [hh]
  first
    | exact wpAny_throw (h h' e hn)
    | exact wpAny_bind (wpAny_pure (wpAny_throw (h h' e hn)))
noncomputable def FrOk (hs : HS) (outer : List Env) : Prop := ∀ env ∈ outer, env.scope.kind ≠ .module ∧ ∃ L m, env.frame = some L ∧ (L, AO.ns m) ∈ hs
theorem FrOk.funs {hs : HS} {B : Addr → Option Obj} {W : Wd} {s : Shared} (r : Rel X B W hs s) {base : Heap} : ∀ {outer : List Env}, FrOk hs outer → (∀ env ∈ outer, ∀ L, env.frame = some L → base.get? L = none) → s.heap.FunFrames base outer
  | [], _, _ => trivial
  | env :: rest, h, hb => by
    refine Classical.byContradiction fun hno => ?_
    obtain ⟨hk, L, m, hf, hm⟩ := h env List.mem_cons_self
    refine hno ?_
    clear hno
    refine Classical.byContradiction fun hno => ?_
    obtain ⟨mc, ⟨o, es, ep, ho, hd, _⟩, _⟩ := r.objs _ _ hm
    refine hno ?_
    clear hno
    exact ⟨hk, ⟨L, o, hf, hb env List.mem_cons_self L hf, ho, fun vs q => by rw [hd] at q; cases q⟩, FrOk.funs r (fun e he => h e (List.mem_cons_of_mem _ he)) fun e he => hb e (List.mem_cons_of_mem _ he)⟩
open PySem in
theorem raise_zero {n : Nat} {B : Addr → Option Obj} {W : Wd} {s : Shared} {vf va vb : Value} {a : Int} {outer : List Env} {Q E : Value → Shared → Prop} (G : Prog X) (ok : Ok A (n + 1) 1) (hfr : A.frames = some outer) (r : Rel X B W hs s) (hf : Is X W vf (.fn "int_divmod")) (ha : Is X W va (.int a)) (hb : Is X W vb (.int 0))
    (hfo : FrOk hs outer)
    (hE : ∀ s2 W2 base e t h', W.le W2 → Rel X B W2 hs s2 → (∀ b o, (B b = some o ∨ W2.Z b = some o ∨ ∃ p, (b, p) ∈ hs) → s2.heap.get? b = some o → (∀ env ∈ outer, env.frame ≠ some b) → base.get? b = some o) →
      Heap.FlyingW base outer e (.type "ZeroDivisionError") (.ref t) h' → h'.TupAt t [] → base.get? t = none → s2.heap.UpToSlots h' → E (.ref e) { s2 with heap := h' }) : wpAny (M X) A (call vf [va, vb]) Q E s := by
  refine call_raw (d := defAt 10) (names := ["a", "b"]) (n := n) (u := 0) G.T (G.fn "int_divmod" 10 rfl).1 ok rfl (bind2 fun _ _ _ _ _ => rfl) (by rfl) (by decide) r hf (IsL.cons ha (IsL.cons hb IsL.nil)) ?_
  intro L fa cd h₁ tk r1 keep hL
  have hh : (A.deeper (envF (defAt 10) L fa [] cd)).handled = none := (ok.deeper (n := n) (envF (defAt 10) L fa [] cd)).1
  refine wpAny_execs_cons (wpAny_If (wpAny_mono (?_ : wpAny (M X) _ _ (Post X B W Same fun b h2 => b = true ∧ h2 = (L, .ns [("b", .int 0), ("a", .int a)]) :: hs) NoE _) (fun b s2 ⟨W2, b', h2, l2, e2, r2, e3, e4⟩ => ?_) fun _ _ x => x.elim))
  · have hj : Jt X (A.deeper (envF (defAt 10) L fa [] cd)) (envF (defAt 10) L fa [] cd) (.Compare (.Name "b" ⟨71, 7, 71, 8⟩) [.Eq] [.Constant (.int 0) 0 ⟨71, 12, 71, 13⟩] ⟨71, 7, 71, 13⟩) ((L, .ns [("b", .int 0), ("a", .int a)]) :: hs) (fun b h2 => b = true ∧ h2 = (L, .ns [("b", .int 0), ("a", .int a)]) :: hs) := by
      repeat back_in
      exact ⟨rfl, rfl⟩
    exact hj B W _ r1
  · subst e4
    subst e3
    cases e2
    simp only [if_true]
    refine wpAny_execs_cons (Raise_made0 hh ?_ fun h' e hm => ?_)
    · refine Classical.byContradiction fun hno => ?_
      obtain ⟨mb, b1, b2⟩ := G.T.b
      refine hno ?_
      clear hno
      have hx := G.bi "ZeroDivisionError" _ rfl
      exact Name_function_global rfl rfl (loadGlobal_builtin (G.T.g.keeps r2.hbk) hx.1 (b1.keeps r2.hbk) ((b2 _ (by decide)).trans hx.2) ⟨rfl, rfl⟩) (by decide)
    · have r2' : Rel X B W2 hs s2 := r2.sub (List.sublist_cons_self _ _)
      have hout : FrOk ((L, .ns [("b", .int 0), ("a", .int a)]) :: hs) (envF (defAt 10) L fa [] cd :: outer) := fun env he => by
        rcases List.mem_cons.mp he with rfl | he
        · exact ⟨(show (defAt 10).scope.kind ≠ ScopeKind.module by decide), L, _, rfl, List.mem_cons_self⟩
        · refine Classical.byContradiction fun hno => ?_
          obtain ⟨k1, L', m, k2, k3⟩ := hfo env he
          refine hno ?_
          clear hno
          exact ⟨k1, L', m, k2, List.mem_cons_of_mem _ k3⟩
      have hbase : ∀ env ∈ (envF (defAt 10) L fa [] cd :: outer), ∀ L', env.frame = some L' → (PySem.W.hideAll s2.heap ((envF (defAt 10) L fa [] cd :: outer).filterMap (·.frame))).get? L' = none := fun env he L' hf => PySem.W.hideAll_none _ (List.mem_filterMap.mpr ⟨env, he, hf⟩)
      refine wpAny_leaves_madeW (base := PySem.W.hideAll s2.heap ((envF (defAt 10) L fa [] cd :: outer).filterMap (·.frame))) (h := s2.heap) (env := envF (defAt 10) L fa [] cd) (outer := outer) (by show A.frames.map _ = _; rw [hfr]; rfl) rfl (fun b o q => PySem.W.of_hideAll _ q) (FrOk.funs r2 hout hbase) hm.of ?_
      intro h2 t f1 f2 f3 f4
      refine hE s2 W2 _ e t h2 l2 r2' (fun b o hw hb hne => PySem.W.hideAll_get _ hb fun hm' => ?_) f1 f2 f3 ((Heap.UpToSlots.of_keeps hm.keeps).trans f4)
      refine Classical.byContradiction fun hno => ?_
      obtain ⟨env, he, hf'⟩ := List.mem_filterMap.mp hm'
      refine hno ?_
      clear hno
      rcases List.mem_cons.mp he with rfl | he
      · cases hf'
        have hLm : (L, AO.ns [("b", V.int 0), ("a", V.int a)]) ∈ (L, AO.ns [("b", V.int 0), ("a", V.int a)]) :: hs := List.mem_cons_self
        rcases hw with q | q | ⟨p, q⟩
        · rw [r2.apB _ _ hLm] at q; cases q
        · rw [r2.apZ _ _ hLm] at q; cases q
        · exact (List.pairwise_cons.mp r2.nodup).1 _ q rfl
      · exact hne env he hf'
end
end
section
section
variable {X : Fx} {A : Around} {hs : HS}
theorem one_at : ∀ {l : HS} {b : Addr} {p q : AO}, (l.Pairwise fun p q => p.1 ≠ q.1) → (b, p) ∈ l → (b, q) ∈ l → p = q
  | [], _, _, _, _, h, _ => (List.not_mem_nil h).elim
  | x :: l, b, p, q, hn, h1, h2 => by
    have hn' := List.pairwise_cons.mp hn
    rcases List.mem_cons.mp h1 with x1 | x1 <;> rcases List.mem_cons.mp h2 with y1 | y1
    · rw [← x1] at y1; cases y1; rfl
    · subst x1; exact (hn'.1 _ y1 rfl).elim
    · subst y1; exact (hn'.1 _ x1 rfl).elim
    · exact one_at hn'.2 x1 y1
theorem wp_CallE {env : Env} {x : Str} {p pos : Pos} {e : Expr} {es : List Expr} {P : V → List V → HS → Prop} {B : Addr → Option Obj} {W : Wd} {s : Shared} {Q E : Value → Shared → Prop} (r : Rel X B W hs s)
    (h : Je X A env (.Name x p) hs fun f h1 => (∃ y, f = .fn y ∧ Callable X f) ∧ Jl X A env pos (e :: es) h1 fun as h2 => P f as h2)
    (hq : ∀ W' s' vf vs f as h2, W.le W' → Rel X B W' h2 s' → Is X W' vf f → IsL X W' vs as → P f as h2 → wpAny (M X) A (call vf vs) Q E s')
    (he : starEach (e :: es) env = (false, eval e env) :: starEach es env := by rfl) (hp : (backTo pos (starEach es env)).any (·.1) = false := by rfl) : wpAny (M X) A (eval (.Call (.Name x p) (e :: es) [] pos) env) Q E s := by
  refine wpAny_Call_Name_kw (wpAny_mono (h B W s r) (fun vf s1 q6 => ?_) fun _ _ x => x.elim)
  refine Classical.byContradiction fun hno => ?_
  obtain ⟨W1, f, h1, l1, i1, r1, ⟨y, ey, hc⟩, k1⟩ := q6
  refine hno ?_
  clear hno
  have main : wpAny (M X) A (spliced (backTo pos (starEach (e :: es) env))) (fun vs s2 => ∃ W2 as h2, W1.le W2 ∧ Rel X B W2 h2 s2 ∧ wpAny (M X) A (call vf vs) Q E s2) E s1 :=
    wpAny_mono (k1 B W1 s1 r1) (fun vs s2 p0 => p0.elim fun W2 as h2 l2 i2 r2 k2 => ⟨W2, as, h2, l2, r2, hq W2 s2 vf vs f as h2 (l1.trans l2) r2 (i1.mono l2) i2 k2⟩) fun _ _ x => x.elim
  rw [he] at main
  show wpAny (M X) A (callWith pos vf [] (backTo pos (starEach (e :: es) env)) []) _ _ s1
  rw [he]
  subst ey
  refine Classical.byContradiction fun hno => ?_
  obtain ⟨a, o, fd, e1, e2, e3⟩ := hc
  refine hno ?_
  clear hno
  simp only [Is] at i1
  refine Classical.byContradiction fun hno => ?_
  obtain ⟨a', rfl, e1'⟩ := i1
  refine hno ?_
  clear hno
  rw [e1] at e1'; cases e1'
  exact callWith_function (o := o) (fd := fd) (evalArgs_plain (wpAny_mono main (fun vs s2 q0 => by refine Classical.byContradiction fun hno => ?_; obtain ⟨W2, as, h2, l2, r2, k2⟩ := q0; exact hno (⟨⟨r2.hbk _ _ e2, e3⟩, k2⟩)) fun _ _ x => x))
open PySem in
theorem spec_goes_zero {n : Nat} {a : Int} {outer : List Env} {Q : V → HS → Prop} (G : Prog X) (ok : Ok A (n + 2) 1) (hfr : A.frames = some outer) (hfo : FrOk hs outer) (h : Q (.txt Str.empty) hs) : JC X A (.fn "_law_goes") [.int a, .int 0] hs Q := fun B W s vf vs r hf hv => by
  refine call_raw (d := defAt 29) (names := ["dividend", "divisor"]) (n := n + 1) (u := 0) G.T (G.fn "_law_goes" 29 rfl).1 ok rfl (bind2 fun _ _ _ _ _ => rfl) (by rfl) (by decide) r hf hv ?_
  intro L fa cd h₁ tk r1 keep hL
  have ok1 := ok.deeper (n := n + 1) (envF (defAt 29) L fa [] cd)
  have hfr1 : (A.deeper (envF (defAt 29) L fa [] cd)).frames = some (envF (defAt 29) L fa [] cd :: outer) := by show A.frames.map _ = _; rw [hfr]; rfl
  generalize hA1 : A.deeper (envF (defAt 29) L fa [] cd) = A1 at *
  have hm29 : (L, AO.ns [("divisor", V.int 0), ("dividend", V.int a)]) ∈ (L, AO.ns [("divisor", V.int 0), ("dividend", V.int a)]) :: hs := List.mem_cons_self
  have hfo1 : FrOk ((L, .ns [("divisor", .int 0), ("dividend", .int a)]) :: hs) (envF (defAt 29) L fa [] cd :: outer) := fun env he => by
    rcases List.mem_cons.mp he with rfl | he
    · exact ⟨(show (defAt 29).scope.kind ≠ ScopeKind.module by decide), L, _, rfl, List.mem_cons_self⟩
    · refine Classical.byContradiction fun hno => ?_
      obtain ⟨k1, L', m, k2, k3⟩ := hfo env he
      refine hno ?_
      clear hno
      exact ⟨k1, L', m, k2, List.mem_cons_of_mem _ k3⟩
  refine wpAny_execs_cons (wpAny_Try_except (wpAny_execs_cons (wpAny_Return_some (wp_CallE (P := fun f as h2 => f = .fn "int_divmod" ∧ as = [.int a, .int 0] ∧ h2 = (L, .ns [("divisor", .int 0), ("dividend", .int a)]) :: hs) r1 ?_ ?_))))
  · back_in
    refine ⟨⟨_, rfl, fnCall G rfl⟩, ?_⟩
    repeat back_in
    exact ⟨rfl, rfl, rfl⟩
  rintro W' s' vf' vs' f as h2 l' r' i1 i2 ⟨rfl, rfl, rfl⟩
  refine Classical.byContradiction fun hno => ?_
  obtain ⟨va, vb, rfl, ia, ib⟩ := isL2 i2
  refine hno ?_
  clear hno
  refine raise_zero (n := n) G (ok1.le (by (first | lia | omega))) hfr1 r' i1 ia ib hfo1 ?_
  intro s2 W2 base e t h3 l2 r2 hbase F1 T1 bt u1
  -- what stays
  have hB : ∀ b o, B b = some o → base.get? b = some o := fun b o q => hbase b o (.inl q) (r2.base b o q) fun env he q' => by
    refine Classical.byContradiction fun hno => ?_
    obtain ⟨_, L', m, k2, k3⟩ := hfo1 env he
    refine hno ?_
    clear hno
    rw [k2] at q'; cases q'
    rw [r2.apB _ _ k3] at q; cases q
  have hZ : ∀ b o, W2.Z b = some o → base.get? b = some o := fun b o q => hbase b o (.inr (.inl q)) (r2.froz b o q) fun env he q' => by
    refine Classical.byContradiction fun hno => ?_
    obtain ⟨_, L', m, k2, k3⟩ := hfo1 env he
    refine hno ?_
    clear hno
    rw [k2] at q'; cases q'
    rw [r2.apZ _ _ k3] at q; cases q
  refine wpAny_looks_onW hfr1 rfl F1 fun h4 H4 u4 => ?_
  refine wpAny_landsW H4 fun h5 F5 u5 => ?_
  have hsub : isSubtype (.type "ZeroDivisionError") (.type "ZeroDivisionError") = pure true := by rw [isSubtype_type]; kernel_rfl
  refine wpAny_handleBy_builtin_as (X := "ZeroDivisionError") (T := "ZeroDivisionError") (b := true) excClass_ZeroDivisionError.base (by kernel_rfl) hsub ?_
  refine Classical.byContradiction fun hno => ?_
  obtain ⟨k1, k2, k3, k4⟩ := F5
  refine hno ?_
  clear hno
  have hbk5 : ∀ b o, X.hb.get? b = some o → h5.get? b = some o := fun b o q => k1 b o (hB b o (r2.hb b o q))
  refine Classical.byContradiction fun hno => ?_
  obtain ⟨mb, b1, b2⟩ := G.T.b
  refine hno ?_
  clear hno
  have hx := G.bi "ZeroDivisionError" _ rfl
  refine Name_function_global rfl rfl (loadGlobal_builtin (G.T.g.keeps hbk5) hx.1 (b1.keeps hbk5) ((b2 _ (by decide)).trans hx.2) ?_) (by decide)
  refine Classical.byContradiction fun hno => ?_
  obtain ⟨oe5, he5, hcls5⟩ := Heap.TracedAtW.there k4
  refine hno ?_
  clear hno
  refine ⟨rfl, ⟨oe5, he5, hcls5⟩, ?_⟩
  simp only [if_true]
  refine wpAny_setFlight_noneW k1 k3 (Heap.TracedW.at k4) fun h6 q1 q2 q3 q4 => ?_
  have u6 : h5.UpToSlots h6 := fun b o e hn => ⟨o.slots, q4 b o e hn⟩
  have uu : s2.heap.UpToSlots h6 := ((u1.trans u4).trans u5).trans u6
  refine Classical.byContradiction fun hno => ?_
  obtain ⟨mc, hns2, _⟩ := r2.objs _ _ hm29
  refine hno ?_
  clear hno
  have hns6 := uu.ns hns2
  have T6 : h6.TupAt t [] := ((T1.of_slots u4).of_slots u5).of_slots u6
  refine wpAny_storeName_local rfl hns6 fun h7 hn7 hs7 => ?_
  have hbL : base.get? L = none := by
    refine Classical.byContradiction fun hno => ?_
    obtain ⟨_, ⟨L', o, e1, e2, _⟩, _⟩ := q2
    refine hno ?_
    clear hno
    cases e1
    exact e2
  have hbk7 : ∀ b o, base.get? b = some o → h7.get? b = some o := fun b o q => (hs7.2 b fun q' => by
    subst q'
    have hbL' : base.get? b = none := hbL
    rw [hbL'] at q; cases q).trans (q1 b o q)
  refine Classical.byContradiction fun hno => ?_
  obtain ⟨oL, esL, epL, hoL, hdL, _⟩ := hns6
  refine hno ?_
  clear hno
  refine Classical.byContradiction fun hno => ?_
  obtain ⟨oe6, ve, Te, oTe, tse, he6, ⟨hc6, h06⟩, hd6, _⟩ := q3
  refine hno ?_
  clear hno
  have heL : e ≠ L := fun q => by
    subst q
    rw [hoL] at he6; cases he6; rw [hdL] at hd6; cases hd6
  refine Classical.byContradiction fun hno => ?_
  obtain ⟨ot, nt, hot, htc, htd⟩ := T6
  refine hno ?_
  clear hno
  have htL : t ≠ L := fun q => by
    subst q
    rw [hoL] at hot; cases hot; rw [hdL] at htd; cases htd
  have hE7 : h7.ExcAt e "ZeroDivisionError" (.ref t) := ⟨oe6, ve, (hs7.2 e heL).trans he6, hc6, hd6, h06⟩
  have hT7 : h7.TupAt t [] := ⟨ot, nt, (hs7.2 t htL).trans hot, htc, htd⟩
  have hbkX : ∀ b o, X.hb.get? b = some o → h7.get? b = some o := fun b o q => hbk7 b o (hB b o (r2.hb b o q))
  have hy := G.bi "str" _ rfl
  refine wpAny_execs_cons (wpAny_Return_some (wpAny_Call_Name_kw (Name_function_global rfl rfl (loadGlobal_builtin (G.T.g.keeps hbkX) hy.1 (b1.keeps hbkX) ((b2 _ (by decide)).trans hy.2) ?_) (by decide))))
  refine PySem.callWith_type rfl (evalArgs_plain (wpAny_items_cons (pos := ⟨161, 15, 161, 27⟩) (rest := []) (wpAny_Name (wpAny_loadName_local (v := .ref e) rfl rfl hn7 (if_pos rfl) (wpAny_items_nil ?_)) (by decide))))
  refine P.str_of_exc_none PySem.F.excStr_ZeroDivisionError ?_ hE7 hT7 ?_
  · have := ok1.3
    show A1.units + 2 < cLine
    show A1.units + 2 < 9900
    (first | lia | omega)
  refine wpAny_nameGoes_keeps rfl hn7 rfl fun h8 v hn8 hs8 => ?_
  have hbk8 : ∀ b o, base.get? b = some o → h8.get? b = some o := fun b o q => (hs8.2 b fun q' => by
    subst q'
    have hbL' : base.get? b = none := hbL
    rw [hbL'] at q; cases q).trans (hbk7 b o q)
  have r3 : Rel X B W2 hs s2 := r2.sub (List.sublist_cons_self _ _)
  refine ⟨W2, .txt Str.empty, hs, l'.trans l2, by simp only [Is]; exact ⟨_, rfl⟩, ?_, h⟩
  refine { hb := r3.hb, base := fun b o q => hbk8 b o (hB b o q), froz := fun b o q => hbk8 b o (hZ b o q), sep := r3.sep, objs := fun b p hm => ?_, nodup := r3.nodup, apB := r3.apB, apZ := r3.apZ, tok := fun tt x q => Nat.lt_of_lt_of_le (r3.tok tt x q) ?_, pos := Nat.lt_of_lt_of_le r3.pos ?_, gens := r3.gens, os := r3.os }
  · have hbL2 : b ≠ L := fun q => (List.pairwise_cons.mp r2.nodup).1 _ hm q.symm
    by_cases hex : ∃ env ∈ outer, env.frame = some b
    · refine Classical.byContradiction fun hno => ?_
      obtain ⟨env, he, hfb⟩ := hex
      refine hno ?_
      clear hno
      refine Classical.byContradiction fun hno => ?_
      obtain ⟨_, L', m, e2, e3⟩ := hfo env he
      refine hno ?_
      clear hno
      rw [hfb] at e2; cases e2
      have ep : p = .ns m := one_at r3.nodup hm e3
      subst ep
      refine Classical.byContradiction fun hno => ?_
      obtain ⟨mc', hns', hm'⟩ := r3.objs _ _ hm
      refine hno ?_
      clear hno
      exact ⟨mc', ((uu.ns hns').sameBut hs7 hbL2).sameBut hs8 hbL2, hm'⟩
    · exact (r3.objs b p hm).at fun o q => hbk8 b o (hbase b o (.inr (.inr ⟨p, List.mem_cons_of_mem _ hm⟩)) q fun env he q' => by
        rcases List.mem_cons.mp he with rfl | he
        · cases q'; exact hbL2 rfl
        · exact hex ⟨env, he, q'⟩)
  · dsimp only; (first | lia | omega)
  · dsimp only; (first | lia | omega)
end
end
section
open PySem.Sem (wp)
noncomputable def okCode : Code → Bool
  | .builtin id _ => !Builtin.Bytes.decodersThatHold.contains id
  | _ => true
noncomputable def Clean (Γ : Ctx) : Prop := okCode Γ.code = true ∧ ∀ q ∈ Γ.below, okCode q.1 = true
noncomputable def wpN {α : Type} (M : Model) (A : Around) (t : Sem α) (Q : α → Shared → Prop) (E : Value → Shared → Prop) (s : Shared) : Prop :=
  ∀ Γ p, Γ.In A → Clean Γ → wp M Γ t (fun a _ s' => Q a s') (fun e _ s' => E e s') p s
noncomputable def codeN (M : Model) (A : Around) (c : Code) (R : Result → Shared → Prop) (s : Shared) : Prop :=
  ∀ Γ p, Γ.code = c → Γ.Below A → Clean Γ → wpCode M Γ R p s
section
variable {α β : Type} {M : Model} {A : Around} {E : Value → Shared → Prop} {s : Shared}
theorem wpN.any {t : Sem α} {Q : α → Shared → Prop} (h : wpAny M A t Q E s) : wpN M A t Q E s := fun Γ p hΓ _ => h Γ p hΓ
theorem wpN_mono {t : Sem α} {Q Q' : α → Shared → Prop} {E' : Value → Shared → Prop} (h : wpN M A t Q E s) (hQ : ∀ a s, Q a s → Q' a s) (hE : ∀ e s, E e s → E' e s) : wpN M A t Q' E' s :=
  fun Γ p hΓ hc => Sem.wp_mono M Γ t (fun a _ s => hQ a s) (fun e _ s => hE e s) p s (h Γ p hΓ hc)
theorem wpN_bind {m : Sem α} {f : α → Sem β} {Q : β → Shared → Prop} (h : wpN M A m (fun a s' => wpN M A (f a) Q E s') E s) : wpN M A (m >>= f) Q E s := fun Γ p hΓ hc => by
  rw [Sem.wp_bind']
  exact Sem.wp_mono M Γ m (fun a p' s' h' => h' Γ p' hΓ hc) (fun _ _ _ h' => h') p s (h Γ p hΓ hc)
theorem wpN_pure {a : α} {Q : α → Shared → Prop} (h : Q a s) : wpN M A (pure a) Q E s := fun _ _ _ _ => h
theorem wpN_standAt {pos : Pos} {Q : Unit → Shared → Prop} (h : Q () s) : wpN M A (standAt pos) Q E s := fun _ _ _ _ => h
theorem wpN_point {Q : Unit → Shared → Prop} (h : Q () s) : wpN M A point Q E s := fun _ _ _ _ => h
theorem wpN_holding {vs : List Value} {m : Sem α} {Q : α → Shared → Prop} (h : wpN M A m Q E s) : wpN M A (holding vs m) Q E s := fun Γ p hΓ hc => by rw [Sem.wp_holding]; exact h Γ p hΓ hc
theorem wpN_keep {vs : List Value} {m : Sem α} {Q : α → Shared → Prop} (h : wpN M A m Q E s) : wpN M A (m.keep vs) Q E s := fun Γ p hΓ hc => by rw [Sem.wp_keep]; exact h Γ p hΓ hc
theorem wpN_onRaise {m : Sem α} {k : Value → Sem Unit} {Q : α → Shared → Prop} (h : wpN M A m Q (fun e s' => wpN M A (k e) (fun _ s'' => E e s'') E s') s) : wpN M A (m.onRaise k) Q E s := fun Γ p hΓ hc => by
  rw [Sem.wp_onRaise]
  exact Sem.wp_mono M Γ m (fun _ _ _ h' => h') (fun e p' s' h' => h' Γ p' hΓ hc) p s (h Γ p hΓ hc)
theorem wpN_ite {c : Prop} [Decidable c] {a b : Sem α} {Q : α → Shared → Prop} (h : if c then wpN M A a Q E s else wpN M A b Q E s) : wpN M A (if c then a else b) Q E s := by split <;> simp_all
theorem wpN_runValue {c : Code} {Q : Value → Shared → Prop} (hok : okCode c = true)
    (hc : codeN M A c (fun r s' => match r with | .ok (.ret v) => Q v s' | .ok _ => False | .error e => E e s') s) : wpN M A (runValue c) Q E s := fun Γ p hΓ hcl => by
  rw [Sem.wp_runValue]
  refine hc _ p rfl (hΓ.enter c none p (by intro x; cases x)) ⟨hok, fun q hq => ?_⟩
  rcases List.mem_cons.mp hq with rfl | hq
  · exact hcl.1
  · exact hcl.2 q hq
theorem wpN_call {f : Value} {pos : List Value} {kw : List (Str × Value)} {Q : Value → Shared → Prop}
    (hc : codeN M A (.call f ⟨pos, kw⟩) (fun r s' => match r with | .ok (.ret v) => Q v s' | .ok _ => False | .error e => E e s') s) : wpN M A (call f pos kw) Q E s := wpN_runValue rfl hc
theorem codeN_of_tree {c : Code} {R : Result → Shared → Prop}
    (h : wpN M (A.under c) (M.den c) (fun fin s' => match fin with | .done f => R (.ok f) s' | .again c' => c'.quiet = true ∧ okCode c' = true ∧ codeN M A c' R s')
      (fun e s' => R (.error e) s') s) : codeN M A c R s := fun Γ p hc hΓ hcl => by
  rw [wpCode_iff_wp, hc]
  refine Sem.wp_mono M Γ _ (fun fin p' s' h' => ?_) (fun _ _ _ h' => h') p s (h Γ p (hc ▸ hΓ.in) hcl)
  cases fin with
  | done f => exact h'
  | again c' => exact ⟨h'.1, h'.2.2 (Γ.goto c') p' rfl (hΓ.goto c') ⟨h'.2.1, hcl.2⟩⟩
theorem codeN_mono {c : Code} {R R' : Result → Shared → Prop} (h : codeN M A c R s) (hR : ∀ r s', R r s' → R' r s') : codeN M A c R' s := fun Γ p hc hΓ hcl => by
  refine Classical.byContradiction fun hno => ?_
  obtain ⟨r, s', h1, h2⟩ := h Γ p hc hΓ hcl
  refine hno ?_
  clear hno
  exact ⟨r, s', h1, hR _ _ h2⟩
theorem wpN_execs_cons {env : Env} {st : Stmt} {rest : List Stmt} {Q : Flow → Shared → Prop} (h : wpN M A (exec st env) (fun f s' => match f with | .next => wpN M A (execs rest env) Q E s' | f => Q f s') E s) :
    wpN M A (execs (st :: rest) env) Q E s := fun Γ p hΓ hc => by
  rw [execs_cons, Sem.wp_bind']
  refine Sem.wp_mono M Γ _ (fun f p' s' h' => ?_) (fun _ _ _ h' => h') _ _ (h Γ p hΓ hc)
  cases f <;> first | exact h' Γ p' hΓ hc | exact h'
theorem wpN_Assign_Name {env : Env} {x : Str} {pos' : Pos} {value : Expr} {pos : Pos} {Q : Flow → Shared → Prop} (h : wpN M A (eval value env) (fun v s₁ => wpN M A (storeName env x v) (fun _ => Q .next) E s₁) E s)
    (hs : swapsWith value (some (.Name x pos')) pos.line env = pure false := by rfl) : wpN M A (exec (.Assign [.Name x pos'] value pos) env) Q E s := fun Γ p hΓ hc => by
  simp only [exec_Assign_Name env x pos' value pos hs, Sem.wp_bind', Sem.wp_cmd_standAt, Sem.wp_bindName, Sem.wp_pure']
  exact Sem.wp_mono M Γ _ (fun v _ s₁ h₁ => h₁ Γ _ hΓ hc) (fun _ _ _ h' => h') _ _ (h Γ _ hΓ hc)
theorem wpN_Call_Name {env : Env} {id : Str} {p pos : Pos} {args : List Expr} {keywords : List Keyword} {Q : Value → Shared → Prop}
    (h : wpN M A (eval (.Name id p) env) (fun f s₁ => wpN M A (callWith pos f [] (backTo pos (starEach args env)) (backToKw pos (keywordEach keywords env))) Q E s₁) E s) : wpN M A (eval (.Call (.Name id p) args keywords pos) env) Q E s := by
  show wpN M A (do callWith pos (← eval (.Name id p) env) [] (backTo pos (starEach args env)) (backToKw pos (keywordEach keywords env))) Q E s
  exact wpN_bind h
theorem callWithN_function {pos : Pos} {a : Addr} {o : Obj} {fd : FuncData} {first : List Value} {args : List (Bool × Sem Value)} {Q : Value → Shared → Prop}
    (h : wpN M A (evalArgs (.ref a) true args []) (fun x s₁ => (s₁.heap.get? a = some o ∧ o.data = .func fd) ∧ wpN M A (call (.ref a) (first ++ x.pos) x.kw) Q E s₁) E s) : wpN M A (callWith pos (.ref a) first args []) Q E s := by
  unfold callWith
  refine wpN_bind (wpN_holding (wpN_mono h (fun x s₁ h₁ => wpN_bind (wpN_standAt ?_)) fun _ _ x => x))
  have tail : ∀ {t : Sem Value}, wpN M A t Q E s₁ → wpN M A (t >>= fun r => holding [r] point >>= fun _ => pure r) Q E s₁ :=
    fun ht => wpN_bind (wpN_mono ht (fun r s₂ hr => wpN_bind (wpN_holding (wpN_point (wpN_pure hr)))) fun _ _ x => x)
  cases hs : args.any (·.1) <;> simp only [List.any_nil, Bool.or_false] <;>
    refine wpN_bind (m := keeperOf (.ref a)) ?_ <;> unfold keeperOf <;>
    refine wpN_bind (wpN.any (wpAny_load h₁.1.1 ?_)) <;> rw [h₁.1.2] <;> refine wpN_pure ?_
  · first
      | refine wpN_ite ?_
      | skip
    split <;> first
      | exact tail h₁.2
      | exact tail (by unfold callMarked; exact wpN_keep h₁.2)
  · first
      | exact tail (by unfold callMarked; exact wpN_keep h₁.2)
      | exact tail h₁.2
theorem callWithN_type {pos : Pos} {T : String} {first : List Value} {args : List (Bool × Sem Value)} {Q : Value → Shared → Prop} (hplain : args.any (·.1) = false)
    (h : wpN M A (evalArgs (.type T) true args []) (fun a s₁ => wpN M A (call (.type T) (first ++ a.pos) a.kw) Q E s₁) E s) : wpN M A (callWith pos (.type T) first args []) Q E s := by
  unfold callWith
  refine wpN_bind (wpN_holding (wpN_mono h (fun a s₁ h₁ => wpN_bind (wpN_standAt ?_)) fun _ _ x => x))
  simp only [hplain, List.any_nil, Bool.or_false]
  refine wpN_bind (wpN_pure ?_)
  exact wpN_bind (wpN_mono h₁ (fun r s₂ hr => wpN_bind (wpN_holding (wpN_point (wpN_pure hr)))) fun _ _ x => x)
end
section
variable {prog : Program} {w : World} {A : Around} {E : Value → Shared → Prop} {s : Shared} {R : Result → Shared → Prop}
theorem codeN_func {body : List Stmt} {env : Env}
    (h : wpN (model prog w) (A.deeper env) (execs body env) (fun f s' => R (.ok (.ret (match f with | .ret v => v | _ => .none))) s')
      (fun e s' => wpN (model prog w) (A.deeper env) (leaving env e) (fun _ s'' => R (.error e) s'') (fun e' s'' => R (.error e') s'') s') s) : codeN (model prog w) A (.func body env) R s := by
  refine codeN_of_tree ?_
  show wpN _ (A.deeper env) (do point; match ← (execs body env).onRaise (leaving env) with | .ret v => ret v | _ => ret .none) _ _ s
  refine wpN_bind (wpN_point (wpN_bind (wpN_onRaise (wpN_mono h (fun f s' h' => ?_) fun _ _ h' => h'))))
  cases f <;> exact wpN_pure h'
theorem codeN_call_function {a : Addr} {args : Args} {o : Obj} {fd : FuncData} {body : List Stmt} (hroom : A.depth < recursionLimit)
    (ho : s.heap.get? a = some o) (hd' : o.data = .func fd) (hco : fd.scope.isCoroutine = false) (hgen : fd.scope.isGenerator = false) (hbody : fd.body = .stmts body) (hcd : s.heap.CodeRec fd.code fd.qualname)
    (h : wpAny (model prog w) A.in1 (bindArgs fd args) (fun binds s₁ =>
      wpAny (model prog w) A.in1 (newFunctionEnv fd.scope fd.globals fd.closure binds (fd.qualname ++ ".<locals>.") (some a) fd.code none fd.builtins)
        (fun env s₂ => s₂.heap.NoLimit ∧ codeN (model prog w) A (.func body env) R s₂) (fun e s' => R (.error e) s') s₁) (fun e s' => R (.error e) s') s) :
    codeN (model prog w) A (.call (.ref a) args) R s := by
  refine codeN_of_tree (wpN.any ?_)
  show wpAny _ A.in1 (callAny (.ref a) args) _ _ s
  simp only [callAny]
  refine wpAny_bind (wpAny_load ho ?_)
  refine Classical.byContradiction fun hno => ?_
  obtain ⟨c, oc, vs, tq, hc, hoc, hdc, hq⟩ := hcd
  refine hno ?_
  clear hno
  simp only [hd', callFunction, hco, hgen, hbody, hc]
  rw [hc] at h
  refine wpAny_bind (m := field (.ref c) 1) (wpAny_field hoc hdc hq (wpAny_bind (wpAny_pure ?_)))
  exact wpAny_bind (wpAny_mono h (fun binds s₁ h₁ => wpAny_bind (wpAny_mono h₁ (fun env s₂ h₂ => wpAny_bind (wpAny_enterFrame h₂.1 hroom
    (wpAny_pure (And.intro rfl (And.intro rfl h₂.2))))) fun _ _ h' => h')) fun _ _ h' => h')
end
end
section
open PySem.Sem (wp)
section
variable {prog : Program} {w : World} {A : Around} {E : Value → Shared → Prop} {s : Shared} {R : Result → Shared → Prop}
theorem codeN_builtin {id : String} {args : Args} {b : Builtin} (hb : entryFor table id = some b)
    (h : wpN (model prog w) (A.under (.builtin id args)) (b args) (fun fin s' => match fin with | .done f => R (.ok f) s' | .again c' => c'.quiet = true ∧ okCode c' = true ∧ codeN (model prog w) A c' R s') (fun e s' => R (.error e) s') s) :
    codeN (model prog w) A (.builtin id args) R s := by
  refine codeN_of_tree ?_
  show wpN _ _ (match entryFor table id with | some b => b args | none => unsupported ((withoutEnding? id "#data").getD id)) _ _ s
  rw [hb]; exact h
theorem codeN_call_builtin {id : String} {args : Args} {b : Builtin} (hp : plainId id = true) (hok : okCode (.builtin id args) = true) (hb : entryFor table id = some b)
    (h : wpAny (model prog w) A.in1 (checkBuiltinCall id args) (fun _ s₁ => wpN (model prog w) A.in1 (b args)
      (fun fin s' => match fin with | .done f => R (.ok f) s' | .again c' => c'.quiet = true ∧ okCode c' = true ∧ codeN (model prog w) A c' R s') (fun e s' => R (.error e) s') s₁) (fun e s' => R (.error e) s') s) :
    codeN (model prog w) A (.call (.builtin id) args) R s := by
  refine codeN_of_tree (wpN.any ?_)
  show wpAny _ A.in1 (do checkBuiltinCall id args; again (.builtin id args)) _ _ s
  refine wpAny_bind (wpAny_mono h (fun _ s₁ h₁ => wpAny_pure ⟨plainId_quiet hp _, hok, codeN_builtin hb ?_⟩) fun _ _ x => x)
  rw [Around.under_plainId hp _]
  exact h₁
theorem callTypeN {T newId initId : String} {Bi : Builtin} {args : List Value} {Q Q₁ : Value → Shared → Prop} (ft : TypeCalled T newId initId)
    (hct : checkTypeCall T ⟨args, []⟩ = pure ()) (entryI : entryFor table initId = some Bi) (hokI : ∀ as, okCode (.builtin initId as) = true)
    (hnew : codeAny (model prog w) A.in1 (.call (.builtin newId) ⟨.type T :: args, []⟩) (wants Q₁ E) s)
    (hnext : ∀ obj s₁, Q₁ obj s₁ → s₁.TypeIs obj T ∧ argsOk initId ⟨obj :: args, []⟩ ∧
      wpN (model prog w) A.in1.in1 (Bi ⟨obj :: args, []⟩)
        (fun fin s' => match fin with | .done f => wants (fun r s₂ => r = .none ∧ Q obj s₂) E (.ok f) s' | .again c' => c'.quiet = true ∧ okCode c' = true ∧ codeN (model prog w) A.in1 c' (wants (fun r s₂ => r = .none ∧ Q obj s₂) E) s')
        (fun e s' => wants (fun r s₂ => r = .none ∧ Q obj s₂) E (.error e) s') s₁) :
    wpN (model prog w) A (call (.type T) args) Q E s := by
  refine Classical.byContradiction fun hno => ?_
  obtain ⟨c, tl, hmro⟩ := ft.mro
  refine hno ?_
  clear hno
  refine wpN_call (codeN_of_tree ?_)
  show wpN _ _ (callAny (.type T) _) _ _ _
  simp only [callAny]
  refine wpN_pure ⟨Code.quiet_builtin _ (by decide +kernel), rfl, codeN_builtin F.entry_type_call ?_⟩
  rw [Around.under_plain (weight_type_call_type T args []) rfl]
  unfold Builtin.«type.__call__»
  dsimp only
  rw [if_neg (by rw [ft.notType]; exact Bool.false_ne_true), if_neg (by rw [ft.canCreate]; exact Bool.false_ne_true)]
  refine wpN_bind (wpN.any (wpAny_of_eq hct (?_ : wpN _ _ _ _ _ _)))
  refine wpN_bind (wpN.any (wpAny_of_eq hmro (?_ : wpN _ _ _ _ _ _)))
  rw [if_neg (by simp)]
  refine wpN_bind (wpN.any (wpAny_of_eq ft.made (?_ : wpN _ _ _ _ _ _)))
  dsimp only
  refine wpN_bind (wpN_pure (wpN_bind (wpN_holding (wpN.any (wpAny_call (codeAny_mono hnew fun r s₁ hr => ?_))))))
  cases r with
  | error e => exact hr
  | ok fl =>
    cases fl with
    | ret obj =>
      refine Classical.byContradiction fun hno => ?_
      obtain ⟨hT, hok, hsi⟩ := hnext _ _ hr
      refine hno ?_
      clear hno
      show wpN _ _ _ _ _ s₁
      refine wpN_bind (wpN.any (wpAny_isInstance (T := T) hT ft.sub (?_ : wpN _ _ _ _ _ _)))
      simp only [Bool.not_true, Bool.false_eq_true, if_false]
      refine wpN_bind (wpN_holding ?_)
      simp only [callSpecial?]
      refine wpN_bind (wpN.any (wpAny_specialOf hT ft.init.lookup (?_ : wpN _ _ _ _ _ _)))
      simp only [ft.init.bind]
      refine wpN_holding (wpN_bind (wpN_pure (wpN_bind (wpN_call ?_))))
      refine codeN_mono (codeN_call_builtin ft.init.plain (hokI _) entryI (ft.init.check _ _ _ _ _ _ _ _ hT hok hsi)) fun r₂ s₂ hr₂ => ?_
      cases r₂ with
      | error e => exact hr₂
      | ok fl₂ =>
        cases fl₂ with
        | ret r =>
          obtain ⟨rfl, hq⟩ := hr₂
          refine wpN_pure (?_ : wpN _ _ _ _ _ _)
          dsimp only
          rw [if_neg (by simp)]
          exact wpN_pure hq
        | _ => exact hr₂.elim
    | _ => exact hr.elim
end
end
section
open PySem.Sem (wp)
theorem slot_bytearray_init : Slot "bytearray" "__init__" "bytearray.__init__" :=
  .of (owner := "bytearray") (n := "__init__") (by rw [typeLookup_type, builtinLookup_eq_fast]; kernel_rfl) (by decide +kernel) (by decide +kernel) (by decide +kernel)
    (by first | exact .inl (by decide +kernel) | exact .inr (by decide +kernel)) (by rw [isSubtype_type]; kernel_rfl)
theorem mro_bytearray : mroOf (.type "bytearray") = pure [.type "bytearray", .type "object"] := by rw [mroOf_type]; kernel_rfl
theorem lookup_bytearray_new : typeLookup (.type "bytearray") "__new__" = pure (some (.builtin "bytearray.__new__")) := by rw [typeLookup_type, builtinLookup_eq_fast]; kernel_rfl
theorem called_bytearray : TypeCalled "bytearray" "bytearray.__new__" "bytearray.__init__" :=
  ⟨by decide +kernel, by decide +kernel, ⟨_, _, mro_bytearray⟩, madeBy_type mro_bytearray lookup_bytearray_new (by decide +kernel), by decide +kernel, by rw [isSubtype_type]; kernel_rfl, slot_bytearray_init⟩
theorem typeCall_bytearray_1 (a : Value) : checkTypeCall "bytearray" ⟨[a], []⟩ = pure () := by kernel_rfl
theorem newCall_bytearray_1 (a : Value) : checkBuiltinCall "bytearray.__new__" ⟨[.type "bytearray", a], []⟩ = pure () := by kernel_rfl
theorem entry_bytearray_init : entryFor table "bytearray.__init__" = some Builtin.«bytearray.__init__» := entryFor_of_tree (by kernel_rfl)
theorem args_bytearray_init (a b : Value) : argsOk "bytearray.__init__" ⟨[a, b], []⟩ := by unfold argsOk; kernel_rfl
theorem plain_bytearray_new : plainId "bytearray.__new__" = true := by decide +kernel
end
section
open PySem.Sem (wp)
theorem held_none {self : Value} {id : String} {args : Args} {pp : Pos} (hg : (Code.builtin id args).isGuard = false) (hok : okCode (.builtin id args) = true) : ¬ (Builtin.Bytes.exported.match_1 (fun x => Bool) (Code.builtin id args, pp)
        (fun v tail kw snd => Builtin.Bytes.sameRef v self) (fun v tail kw snd => Builtin.Bytes.sameRef v self)
        (fun head v tail kw snd => Builtin.Bytes.sameRef v self) (fun v tail kw snd => Builtin.Bytes.sameRef v self)
        (fun head head_1 held kw snd => held.any (Builtin.Bytes.sameRef self))
        (fun id v tail kw snd => Builtin.Bytes.sameRef v self && Builtin.Bytes.decodersThatHold.contains id) fun x => false) = true := by
  have nn : ∀ x : String, guardIds.contains x = true → id ≠ x := fun x hx e => by
    subst e
    rw [Code.isGuard, hx] at hg
    cases hg
  have hd : Builtin.Bytes.decodersThatHold.contains id = false := by simpa [okCode] using hok
  obtain ⟨pos, kw⟩ := args
  unfold Builtin.Bytes.exported.match_1
  show ¬ ((dite (id = "bytearray.__contains__") _ _) = true)
  rw [dif_neg (nn "bytearray.__contains__" (by decide)), dif_neg (nn "bytearray.__mod__" (by decide)), dif_neg (nn "bytearray.__rmod__" (by decide)), dif_neg (nn "_struct.pack_into.held" (by decide)), dif_neg (nn "bytearray.find.held" (by decide))]
  cases pos with
  | nil => exact Bool.false_ne_true
  | cons v r =>
    show ¬ ((Builtin.Bytes.sameRef v self && Builtin.Bytes.decodersThatHold.contains id) = true)
    rw [hd, Bool.and_false]
    exact Bool.false_ne_true
theorem exportedN {M : Model} {A : Around} {s : Shared} {E : Value → Shared → Prop} {self : Value} {Q : Bool → Shared → Prop} (hg : A.guards = some []) (h : Q false s) : wpN M A (Builtin.Bytes.exported self) Q E s := fun Γ p hΓ hc => by
  have hgs := hΓ.2.2.2.1 [] hg
  have hall : ∀ q ∈ ((Γ.code, p) :: Γ.below), q.1.isGuard = false ∧ okCode q.1 = true := fun q hq => by
    have h1 : guardsOf ((Γ.code, p) :: Γ.below) = [] := by rw [guardsOf_cons]; exact hgs
    refine ⟨?_, ?_⟩
    · cases hi : q.1.isGuard with
      | false => rfl
      | true =>
        have : q.1 ∈ guardsOf ((Γ.code, p) :: Γ.below) := List.mem_filter.mpr ⟨List.mem_map.mpr ⟨q, hq, rfl⟩, hi⟩
        rw [h1] at this; cases this
    · rcases List.mem_cons.mp hq with rfl | hq
      · exact hc.1
      · exact hc.2 q hq
  unfold Builtin.Bytes.exported
  show Sem.wp _ Γ (Sem.bind stack _) _ _ p s
  unfold stack
  rw [Sem.wp_bind, Sem.wp_stack]
  show Q (((Γ.code, p) :: Γ.below).any _) s
  rw [List.any_eq_false.mpr (fun q hq => by
    obtain ⟨c, pp⟩ := q
    have hh := hall _ hq
    cases c
    case builtin id args => exact held_none hh.1 hh.2
    all_goals exact Bool.false_ne_true)]
  exact h
end
section
open PySem.Sem (wp)
noncomputable def barr0 : Obj := { cls := .type "bytearray", data := .bytearray #[] }
set_option maxRecDepth 1000000 in
set_option maxHeartbeats 4000000 in
theorem owner_bytearray_new : ("bytearray.__new__".splitOn ".__new__").headD "" = "bytearray" := by simp +decide [String.splitOn, String.splitOnAux]
theorem sub_bytearray_self : isSubtype (.type "bytearray") (.type "bytearray") = pure true := by rw [isSubtype_type]; kernel_rfl
theorem entry_bytearray_new : entryFor table "bytearray.__new__" = some Builtin.«list.__new__» := entryFor_alias (id' := "list.__new__") (by rw [fastTable_eq_tree]; kernel_rfl) (by first | rfl | decide +kernel) (by decide +kernel) (by rw [fastTable_eq_tree]; kernel_rfl)
section
variable {prog : Program} {w : World} {A : Around} {E : Value → Shared → Prop} {s : Shared}
theorem code_bytearray_new (a : Value) {Q₁ : Value → Shared → Prop} (h : Q₁ (.ref s.heap.objs.size) { s with heap := s.heap.push barr0 }) :
    codeAny (model prog w) A (.call (.builtin "bytearray.__new__") ⟨[.type "bytearray", a], []⟩) (wants Q₁ E) s := by
  refine codeAny_of_tree ?_
  show wpAny _ A.in1 (do checkBuiltinCall "bytearray.__new__" ⟨[.type "bytearray", a], []⟩; again (.builtin "bytearray.__new__" ⟨[.type "bytearray", a], []⟩)) _ _ s
  refine wpAny_bind (wpAny_of_eq (newCall_bytearray_1 a) (wpAny_pure ⟨plainId_quiet plain_bytearray_new _, codeAny_builtin_stack entry_bytearray_new rfl fun p st => ?_⟩))
  rw [Around.under_plainId plain_bytearray_new _]
  have hsub := sub_bytearray_self
  have hown := owner_bytearray_new
  refine Classical.byContradiction fun hno => ?_
  obtain ⟨hp, g, d, tk, os⟩ := s
  refine hno ?_
  clear hno
  simp only [hown]
  wp_walk
  exact h
end
end
section
open PySem.Sem (wp)
theorem lookup_release : typeLookup (.type "bytearray") "__release_buffer__" = pure (some (.builtin "bytearray.__release_buffer__")) := by rw [typeLookup_type, builtinLookup_eq_fast]; kernel_rfl
section
variable {prog : Program} {w : World} {A : Around} {E : Value → Shared → Prop} {s : Shared}
theorem own_release {a : Addr} {Q : Bool → Shared → Prop} (hT : s.TypeIs (.ref a) "bytearray") (h : Q false s) : wpAny (model prog w) A (Builtin.Bytes.ownRelease (.ref a)) Q E s := by
  unfold Builtin.Bytes.ownRelease Builtin.Bytes.slotIsOwn
  refine wpAny_bind (wpAny_bind (wpAny_specialOf hT lookup_release ?_))
  dsimp only
  rw [if_neg (by decide +kernel)]
  have e : ("bytearray.__release_buffer__".dropRight ("__release_buffer__".length + 1)) = "bytearray" := by decide +kernel
  refine wpAny_isInstance (T := "bytearray") hT (b := true) ?_ (wpAny_pure h)
  rw [e]; exact sub_bytearray_self
theorem write_barr {a : Addr} {o : Obj} {b : Array UInt8} {n : Nat} {f : Array UInt8 → Array UInt8} {Q : Unit → Shared → Prop} (ho : s.heap.get? a = some o) (hd : o.data = .bytearray b n) (hz : (f b).size ≤ 2 ^ 20)
    (h : Q () { s with heap := s.heap.update a (Obj.mapBytearray f) }) : wpAny (model prog w) A (Builtin.Bytes.write (.ref a) f) Q E s := by
  refine Classical.byContradiction fun hno => ?_
  obtain ⟨c, d, dt, sl⟩ := o
  refine hno ?_
  clear hno
  simp only at hd; subst hd
  unfold Builtin.Bytes.write updateBytearray
  dsimp only
  refine wpAny_bind (wpAny_load ho ?_)
  dsimp only
  refine wpAny_bind (wpAny_update ho ?_)
  refine wpAny_lookBehind (o := Obj.mapBytearray f ⟨c, d, .bytearray b n, sl⟩) (Heap.get?_update_self _ ho rfl) ?_ h
  show (if (f b).size > sizeLine then some "bytearray:memory" else none) = none
  rw [if_neg (Nat.not_lt.mpr (Nat.le_trans hz (by decide)))]
theorem wpN_or {M : Model} {x y : Sem Bool} {Q : Bool → Shared → Prop} (h : wpN M A x (fun b s' => b = false ∧ wpN M A y Q E s') E s) : wpN M A (x <||> y) Q E s := by
  show wpN M A (orM x y) Q E s
  unfold orM
  refine wpN_bind (wpN_mono h (fun b s' q1 => ?_) fun _ _ x => x)
  obtain ⟨e, hy⟩ := q1
  subst e
  exact hy
theorem init_barr {a : Addr} {n : Int} {t : Tok} {Q : PySem.Fin → Shared → Prop} (hg : A.guards = some []) (ho : s.heap.get? a = some barr0) (h0 : 0 ≤ n) (h1 : n ≤ 2 ^ 20)
    (h : ∀ h' tk, s.toks ≤ tk → Heap.SameBut a s.heap h' → h'.get? a = some { barr0 with data := .bytearray (Array.replicate n.toNat 0) } → Q (.done (.ret .none)) { s with heap := h', toks := tk }) :
    wpN (model prog w) A (Builtin.«bytearray.__init__» ⟨[.ref a, .int n t], []⟩) Q E s := by
  have hT : s.TypeIs (.ref a) "bytearray" := ⟨_, ho, rfl⟩
  unfold Builtin.«bytearray.__init__»
  dsimp only
  refine wpN_bind (wpN.any (own_release hT (?_ : wpN _ _ _ _ _ _)))
  rw [if_neg (by decide)]
  have hb : Builtin.Bytes.bindOptional "bytearray.__init__" "bytearray" ["source", "encoding", "errors"] [.int n t] [] = pure [some (.int n t), none, none] := by rfl
  refine wpN_bind (wpN.any (wpAny_of_eq hb (?_ : wpN _ _ _ _ _ _)))
  dsimp only
  refine wpN_bind (wpN.any (wpAny_of_eq (a := ()) rfl (?_ : wpN _ _ _ _ _ _)))
  refine wpN_bind (wpN.any (wpAny_of_eq (a := ()) rfl (?_ : wpN _ _ _ _ _ _)))
  refine wpN_bind (wpN_or (exportedN hg ⟨rfl, wpN.any ?_⟩))
  refine wpAny_bind ?_
  unfold Builtin.Bytes.exportsOf
  dsimp only
  refine wpAny_bind (wpAny_load ho ?_)
  refine wpAny_pure (wpAny_pure (?_ : wpN _ _ _ _ _ _))
  rw [if_neg (by decide)]
  refine wpN.any ?_
  refine wpAny_bind (write_barr ho rfl (by decide) ?_)
  generalize hs2 : ({ s with heap := s.heap.update a (Obj.mapBytearray fun _ => #[]) } : Shared) = s2
  refine wpAny_bind (wpAny_of_eq (a := (Option.none : Option Str)) rfl ?_)
  rw [if_neg (by simp)]
  rw [if_neg (by simp)]
  rw [if_neg (by simp)]
  refine wpAny_bind (wpAny_pure ?_)
  refine wpAny_bind (wpAny_specialOf (T := "int") (typeIs_int s2 n t) F.slot_int_index.lookup ?_)
  rw [if_pos (by rfl)]
  refine wpAny_bind (wpAny_attempt (wpAny_of_eq (a := n) rfl ?_))
  dsimp only
  rw [if_neg (by simp [Builtin.Bytes.fitsIndex]; (first | lia | omega)), if_neg (by (first | lia | omega)), if_neg (by simp; (first | lia | omega)), if_neg (by simp [Builtin.Bytes.tooLong, sizeLine_eq]; (first | lia | omega))]
  refine wpAny_bind (wpAny_rule ?_)
  subst hs2
  have ho2 : (s.heap.update a (Obj.mapBytearray fun _ => #[])).get? a = some barr0 := Heap.get?_update_self _ ho rfl
  by_cases hn : n > 0
  · rw [if_pos hn]
    refine wpAny_bind (write_barr ho2 rfl (by simp; (first | lia | omega)) ?_)
    refine wpAny_pure (h _ _ (Nat.le_refl _) ((Heap.SameBut.update _ _ _).trans (Heap.SameBut.update _ _ _)) ?_)
    exact Heap.get?_update_self _ ho2 rfl
  · rw [if_neg hn]
    refine wpAny_pure (h _ _ (Nat.le_refl _) (Heap.SameBut.update _ _ _) ?_)
    have e : n = 0 := by (first | lia | omega)
    subst e
    exact ho2
end
end
section
open PySem.Sem (wp)
section
variable {X : Fx} {A : Around} {hs : HS}
theorem new_barr {n : Int} {t : Tok} {B : Addr → Option Obj} {W : Wd} {s : Shared} {Q : Value → Shared → Prop} (r : Rel X B W hs s) (hg : A.guards = some []) (h0 : 0 ≤ n) (h1 : n ≤ 2 ^ 20)
    (h : ∀ D s', Rel X B W ((D, .barr (List.replicate n.toNat 0)) :: hs) s' → Q (.ref D) s') : wpN (M X) A (call (.type "bytearray") [.int n t]) Q NoE s := by
  refine callTypeN (Q₁ := fun v s1 => v = .ref s.heap.objs.size ∧ s1 = { s with heap := s.heap.push barr0 }) called_bytearray (typeCall_bytearray_1 _) entry_bytearray_init (fun as => by rfl) (code_bytearray_new _ ⟨rfl, rfl⟩) ?_
  rintro obj s1 ⟨rfl, rfl⟩
  have ho : (s.heap.push barr0).get? s.heap.objs.size = some barr0 := Heap.get?_push_size _ rfl
  refine ⟨⟨_, ho, rfl⟩, args_bytearray_init _ _, ?_⟩
  refine init_barr (by exact hg) ho h0 h1 fun h' tk htk hsb ha => ⟨rfl, h _ _ ?_⟩
  have r1 : Rel X B W ((s.heap.objs.size, .barr []) :: hs) { s with heap := s.heap.push barr0 } := r.new (ao := .barr []) ⟨_, ho, rfl, rfl⟩
  refine r1.upd (tk := tk) .here hsb htk ⟨_, ha, rfl, ?_⟩
  simp
end
end
section
open PySem.Sem (wp)
section
variable {X : Fx} {A : Around} {hs : HS} {env : Env}
noncomputable def JxN (X : Fx) (A : Around) (env : Env) (sts : List Stmt) (hs : HS) (Q : Fl → HS → Prop) : Prop := ∀ B W s, Rel X B W hs s → wpN (M X) A (execs sts env) (Post X B W (FlR X) Q) NoE s
theorem JxN.of {sts : List Stmt} {Q : Fl → HS → Prop} (h : Jx X A env sts hs Q) : JxN X A env sts hs Q := fun B W s r => wpN.any (h B W s r)
theorem JxN_cons {st : Stmt} {rest : List Stmt} {Q : Fl → HS → Prop} (h : Js X A env st hs fun f h1 => match f with | .next => JxN X A env rest h1 Q | f => Q f h1) : JxN X A env (st :: rest) hs Q := fun B W s r =>
  wpN_execs_cons (wpN_mono (wpN.any (h B W s r)) (fun f s1 p0 => p0.elim fun W1 b h1 l1 i1 r1 k1 => by
    cases f <;> cases b <;> first
      | exact i1.elim
      | exact wpN_mono (k1 B W1 s1 r1) (fun _ _ p => p.le l1) fun _ _ x => x
      | exact ⟨W1, _, h1, l1, i1, r1, k1⟩) fun _ _ x => x)
theorem JxN_barr {x : Str} {px p pos spos : Pos} {e : Expr} {rest : List Stmt} {Q : Fl → HS → Prop} (hg : A.guards = some []) (hf : Je X A env (.Name "bytearray" p) hs fun v h1 => v = .type "bytearray" ∧
      Je X A env e h1 fun v h2 => ∃ n : Int, v = .int n ∧ 0 ≤ n ∧ n ≤ 2 ^ 20 ∧ ∀ D, Jst X A env x (.ref D) ((D, .barr (List.replicate n.toNat 0)) :: h2) fun h3 => JxN X A env rest h3 Q)
    (he : starEach [e] env = [(false, eval e env)] := by rfl) (hsw : swapsWith (.Call (.Name "bytearray" p) [e] [] pos) (some (.Name x px)) spos.line env = pure false := by rfl) :
    JxN X A env (.Assign [.Name x px] (.Call (.Name "bytearray" p) [e] [] pos) spos :: rest) hs Q := fun B W s r => by
  refine wpN_execs_cons (wpN_Assign_Name (wpN_Call_Name (wpN_mono (wpN.any (hf B W s r)) (fun vf s1 q2 => ?_) fun _ _ x => x)) hsw)
  refine Classical.byContradiction fun hno => ?_
  obtain ⟨W1, f, h1, l1, i1, r1, ef, k1⟩ := q2
  refine hno ?_
  clear hno
  subst ef
  cases isTy i1
  show wpN (M X) A (callWith pos (.type "bytearray") [] (backTo pos (starEach [e] env)) []) _ _ s1
  have main : wpAny (M X) A (spliced (backTo pos (starEach [e] env))) (fun vs s2 => ∃ W2 h2 n t, W1.le W2 ∧ Rel X B W2 h2 s2 ∧ vs = [Value.int n t] ∧ 0 ≤ n ∧ n ≤ 2 ^ 20 ∧ ∀ D, Jst X A env x (.ref D) ((D, .barr (List.replicate n.toNat 0)) :: h2) fun h3 => JxN X A env rest h3 Q) NoE s1 :=
    wpAny_items_cons (wpAny_mono (k1 B W1 s1 r1) (fun v s2 q3 => by
      refine Classical.byContradiction fun hno => ?_
      obtain ⟨W2, b, h2, l2, i2, r2, n, eb, a1, a2, a3⟩ := q3
      refine hno ?_
      clear hno
      subst eb
      obtain ⟨t, rfl⟩ := isInt i2
      exact wpAny_items_nil ⟨W2, h2, n, t, l2, r2, rfl, a1, a2, a3⟩) fun _ _ x => x) he
  rw [he] at main ⊢
  refine callWithN_type rfl (wpN.any (evalArgs_plain (wpAny_mono main (fun vs s2 q4 => ?_) fun _ _ x => x)))
  refine Classical.byContradiction fun hno => ?_
  obtain ⟨W2, h2, n, t, l2, r2, ev, a1, a2, a3⟩ := q4
  refine hno ?_
  clear hno
  subst ev
  refine new_barr r2 hg a1 a2 fun D s3 r3 => ?_
  refine wpN.any (wpAny_mono (a3 D B W2 s3 (.ref D) r3 is_ref) (fun _ s4 p0 => p0.elim fun W4 _ h4 l4 _ r4 k4 => ?_) fun _ _ x => x)
  exact wpN_mono (k4 B W4 s4 r4) (fun _ _ p => p.le ((l1.trans l2).trans l4)) fun _ _ x => x
end
end
section
open PySem.Sem (wp)
section
variable {X : Fx} {A : Around} {hs : HS} {env : Env}
noncomputable def JCN (X : Fx) (A : Around) (f : V) (as : List V) (hs : HS) (Q : V → HS → Prop) : Prop :=
  ∀ B W s vf vs, Rel X B W hs s → Is X W vf f → IsL X W vs as → wpN (M X) A (call vf vs) (Post X B W (Is X) Q) NoE s
theorem JCN_defC {d : Def} {cd : Value} {as : List V} {names : List Str} {n u : Nat} {Q : V → HS → Prop} (T : Base X) (F : FnIsC X d cd) (ok : Ok A (n + 1) (u + 1)) (hlen : names.length = as.length)
    (hbind : ∀ pm cd doc vs, vs.length = names.length → bindArgs (docDef d.name d.params d.body d.scope pm cd doc) ⟨vs, []⟩ = pure (names.zip vs))
    (hkind : kindsOk d.scope names = true) (hnd : (cellNames d.scope.names []).Nodup)
    (h : ∀ L f, AllCells (cellNames d.scope.names []) fun cs => JxN X (A.deeper (envF d L f cs cd)) (envF d L f cs cd) d.body
      (((L, .ns (bindsL d.scope (names.zip as) [])) :: (cs.map fun p => (p.2, AO.cell (bindsC d.scope (names.zip as) p.1 none)))) ++ hs) (Back Q))
    (hco : d.scope.isCoroutine = false := by rfl) (hgen : d.scope.isGenerator = false := by rfl) (hk : d.scope.kind = .function := by rfl) :
    JCN X A (.fn d.name) as hs Q := fun B W s vf vs r hf hv => by
  refine Classical.byContradiction fun hno => ?_
  obtain ⟨a, o, pm, doc, e1, e2, e3, e4⟩ := F
  refine hno ?_
  clear hno
  simp only [Is] at hf
  refine Classical.byContradiction fun hno => ?_
  obtain ⟨a', rfl, e1'⟩ := hf
  refine hno ?_
  clear hno
  rw [e1] at e1'; cases e1'
  have hlv : vs.length = names.length := hv.length.trans hlen.symm
  refine wpN_call (codeN_call_function ok.room (r.hbk _ _ e2) e3 hco hgen rfl (e4.keeps r.hbk) ?_)
  rw [hbind pm cd doc vs hlv]
  refine wpAny_pure ?_
  have hkk : ∀ x ∈ names.zip vs, d.scope.names.lookup x.1 = some .local ∨ (d.scope.names.lookup x.1 = some .cell ∧ ((cellsFrom (s.heap.objs.size + 1) d.scope.names []).lookup x.1).isSome = true) := fun x hx => by
    have hx1 : x.1 ∈ names := by
      obtain ⟨k, b⟩ := x
      exact (List.of_mem_zip hx).1
    have := List.all_eq_true.mp hkind x.1 hx1
    simp only [Bool.or_eq_true, Bool.and_eq_true, beq_iff_eq] at this
    rcases this with h1 | ⟨h1, h2⟩
    · exact .inl h1
    · exact .inr ⟨h1, lookup_of_fst (n := 0) (by rw [cellsFrom_fst]; rfl) h2⟩
  refine wpAny_mono (wpAny_toks (wpAny_newFunctionEnv_cells (Q := fun env s' => env = newEnv d.scope s.heap.objs.size mainGlobals (cellsFrom (s.heap.objs.size + 1) d.scope.names []) (d.name ++ ".<locals>.") (some a) cd none builtinsNs ∧
      InCallC s env.locals (bindL env.kindOf (names.zip vs) fun _ => none) env.cells (bindC env.kindOf (names.zip vs) fun _ => none) s') hk hkk fun env he s' I => ⟨he, I⟩)) ?_ (fun _ _ x => x.2)
  rintro env s₂ ⟨ht, he, I⟩
  subst he
  refine ⟨(T.nolimit.keeps r.hbk).keeps I.toInCall.keep, codeN_func (body := d.body) (env := newEnv d.scope s.heap.objs.size mainGlobals (cellsFrom (s.heap.objs.size + 1) d.scope.names []) (d.name ++ ".<locals>.") (some a) cd none builtinsNs) ?_⟩
  have hfst : (cellsFrom (s.heap.objs.size + 1) d.scope.names []).map (·.1) = cellNames d.scope.names [] := by rw [cellsFrom_fst]; rfl
  have r2 := r.enter (ma := bindsL d.scope (names.zip as) []) (ca := fun x => bindsC d.scope (names.zip as) x none) I ht
    (binds_rel (sc := d.scope) (env := newEnv d.scope s.heap.objs.size mainGlobals (cellsFrom (s.heap.objs.size + 1) d.scope.names []) (d.name ++ ".<locals>.") (some a) cd none builtinsNs) rfl hv fun x b e => by simp at e) (fun x => binds_relC (sc := d.scope) (env := newEnv d.scope s.heap.objs.size mainGlobals (cellsFrom (s.heap.objs.size + 1) d.scope.names []) (d.name ++ ".<locals>.") (some a) cd none builtinsNs) rfl hv trivial) (by show ((cellsFrom _ _ _).map _).Nodup; rw [hfst]; exact hnd)
  have hb := (h s.heap.objs.size a).at hfst B W s₂ r2
  exact wpN_mono hb (fun f s' p => p.back) fun _ _ x => x.elim
theorem JCN_def {d : Def} {as : List V} {names : List Str} {n u : Nat} {Q : V → HS → Prop} (T : Base X) (F : FnIs X d) (ok : Ok A (n + 1) (u + 1)) (hlen : names.length = as.length)
    (hbind : ∀ pm cd doc vs, vs.length = names.length → bindArgs (docDef d.name d.params d.body d.scope pm cd doc) ⟨vs, []⟩ = pure (names.zip vs))
    (hkind : kindsOk d.scope names = true) (hnd : (cellNames d.scope.names []).Nodup)
    (h : ∀ L f cd, AllCells (cellNames d.scope.names []) fun cs => JxN X (A.deeper (envF d L f cs cd)) (envF d L f cs cd) d.body
      (((L, .ns (bindsL d.scope (names.zip as) [])) :: (cs.map fun p => (p.2, AO.cell (bindsC d.scope (names.zip as) p.1 none)))) ++ hs) (Back Q))
    (hco : d.scope.isCoroutine = false := by rfl) (hgen : d.scope.isGenerator = false := by rfl) (hk : d.scope.kind = .function := by rfl) :
    JCN X A (.fn d.name) as hs Q := by
  refine Classical.byContradiction fun hno => ?_
  obtain ⟨a, o, pm, code, doc, e1, e2, e3, e4⟩ := F
  refine hno ?_
  clear hno
  exact JCN_defC (cd := code) T ⟨a, o, pm, doc, e1, e2, e3, e4⟩ ok hlen hbind hkind hnd (fun L f => h L f code) hco hgen hk
theorem JxN_call {x y : Str} {px p pos spos : Pos} {e : Expr} {es : List Expr} {rest : List Stmt} {Q : Fl → HS → Prop}
    (hf : Je X A env (.Name y p) hs fun f h1 => (∃ z, f = .fn z ∧ Callable X f) ∧ Jl X A env pos (e :: es) h1 fun as h2 => JCN X A f as h2 fun v h3 => Jst X A env x v h3 fun h4 => JxN X A env rest h4 Q)
    (he : starEach (e :: es) env = (false, eval e env) :: starEach es env := by rfl) (hp : (backTo pos (starEach es env)).any (·.1) = false := by rfl)
    (hsw : swapsWith (.Call (.Name y p) (e :: es) [] pos) (some (.Name x px)) spos.line env = pure false := by rfl) :
    JxN X A env (.Assign [.Name x px] (.Call (.Name y p) (e :: es) [] pos) spos :: rest) hs Q := fun B W s r => by
  refine wpN_execs_cons (wpN_Assign_Name (wpN_Call_Name (wpN_mono (wpN.any (hf B W s r)) (fun vf s1 q5 => ?_) fun _ _ x => x)) hsw)
  refine Classical.byContradiction fun hno => ?_
  obtain ⟨W1, f, h1, l1, i1, r1, ⟨z, ez, hc⟩, k1⟩ := q5
  refine hno ?_
  clear hno
  subst ez
  refine Classical.byContradiction fun hno => ?_
  obtain ⟨a, o, fd, e1, e2, e3⟩ := hc
  refine hno ?_
  clear hno
  have i1' := i1
  simp only [Is] at i1'
  refine Classical.byContradiction fun hno => ?_
  obtain ⟨a', rfl, e1'⟩ := i1'
  refine hno ?_
  clear hno
  rw [e1] at e1'; cases e1'
  show wpN (M X) A (callWith pos (.ref a) [] (backTo pos (starEach (e :: es) env)) []) _ _ s1
  have main := k1 B W1 s1 r1
  rw [he] at main ⊢
  refine callWithN_function (o := o) (fd := fd) (wpN.any (evalArgs_plain (wpAny_mono main (fun vs s2 p0 => p0.elim fun W2 as h2 l2 i2 r2 k2 => ⟨⟨r2.hbk _ _ e2, e3⟩, ?_⟩) fun _ _ x => x)))
  refine wpN_mono (k2 B W2 s2 (.ref a) vs r2 (i1.mono l2) i2) (fun v s3 p0 => p0.elim fun W3 b h3 l3 i3 r3 k3 => ?_) fun _ _ x => x
  refine wpN.any (wpAny_mono (k3 B W3 s3 v r3 i3) (fun _ s4 p0 => p0.elim fun W4 _ h4 l4 _ r4 k4 => ?_) fun _ _ x => x)
  exact wpN_mono (k4 B W4 s4 r4) (fun _ _ p => p.le (((l1.trans l2).trans l3).trans l4)) fun _ _ x => x
end
end
section
theorem slot_bytearray_setitem : Slot "bytearray" "__setitem__" "bytearray.__setitem__" :=
  .of (owner := "bytearray") (n := "__setitem__") (by rw [typeLookup_type, builtinLookup_eq_fast]; kernel_rfl) (by decide +kernel) (by decide +kernel) (by decide +kernel)
    (by first | exact .inl (by decide +kernel) | exact .inr (by decide +kernel)) (by rw [isSubtype_type]; kernel_rfl)
theorem entry_bytearray_setitem : entryFor table "bytearray.__setitem__" = some Builtin.«bytearray.__setitem__» := entryFor_of_tree (by kernel_rfl)
theorem args_bytearray_setitem (a b c : Value) : argsOk "bytearray.__setitem__" ⟨[a, b, c], []⟩ := by unfold argsOk; kernel_rfl
section
variable {X : Fx} {A : Around} {hs : HS}
theorem S_barr {a : Addr} {b : List UInt8} {i v : Int} {hs' : HS} {Q : HS → Prop} (h0 : 0 ≤ i) (h1 : i < b.length) (h2 : b.length ≤ 2 ^ 20) (v0 : 0 ≤ v) (v1 : v < 256) (u : Upd hs a (.barr b) (.barr (b.set i.toNat v.toNat.toUInt8)) hs') (h : Q hs') : Jsi X A (.ref a) (.int i) (.int v) hs Q := fun B W s va vb vc r ha hb hc => by
  cases isRef ha
  obtain ⟨t, rfl⟩ := isInt hb
  obtain ⟨tv, rfl⟩ := isInt hc
  refine Classical.byContradiction fun hno => ?_
  obtain ⟨o, ho, hcls, hd⟩ := r.objs _ _ u.mem
  refine hno ?_
  clear hno
  have hT : s.TypeIs (.ref a) "bytearray" := ⟨_, ho, hcls⟩
  unfold setItem
  refine wpAny_holding ?_
  refine wpAny_bind (wpAny_sequenceKey hT (by decide) ?_)
  refine wpAny_bind (wpAny_callSpecial?_slot (name := Str.ofString "__setitem__") hT slot_bytearray_setitem (wpAny_call_entry slot_bytearray_setitem hT entry_bytearray_setitem ?_ (args_bytearray_setitem _ _ _)))
  unfold Builtin.«bytearray.__setitem__» Builtin.Bytes.subscript?
  dsimp only
  rw [if_neg (by simp)]
  refine wpAny_bind (wpAny_bind (wpAny_specialOf (T := "int") (typeIs_int s i t) F.slot_int_index.lookup ?_))
  rw [if_neg (by simp)]
  refine wpAny_bind (wpAny_of_eq (a := i) rfl ?_)
  rw [if_neg (by simp [Builtin.Bytes.fitsIndex]; (first | lia | omega))]
  refine wpAny_pure ?_
  dsimp only
  unfold Builtin.Bytes.byteValue
  refine wpAny_bind (wpAny_bind (wpAny_of_eq (a := v) rfl ?_))
  rw [if_neg (by simp; (first | lia | omega))]
  refine wpAny_pure ?_
  unfold Builtin.Bytes.payload Builtin.Bytes.payload?
  dsimp only
  refine wpAny_bind (wpAny_bind (wpAny_bind (wpAny_load ho ?_)))
  rw [hd]
  refine wpAny_pure (wpAny_pure ?_)
  have hi : seqIndex? i b.toArray.size = some i.toNat := by
    unfold seqIndex?
    dsimp only
    rw [show (if i < 0 then i + ((b.toArray.size : Nat) : Int) else i) = i from if_neg (by (first | lia | omega)), if_pos (by simp; (first | lia | omega))]
  rw [hi]
  dsimp only
  refine wpAny_bind (write_barr ho hd (by simpa using h2) ?_)
  have hup : ObjR X W (s.heap.update a (Obj.mapBytearray (·.setIfInBounds i.toNat v.toNat.toUInt8))) a (.barr (b.set i.toNat v.toNat.toUInt8)) := by
    refine Classical.byContradiction fun hno => ?_
    obtain ⟨c, d, dt, sl⟩ := o
    refine hno ?_
    clear hno
    simp only at hd hcls; subst hd
    exact ⟨_, Heap.get?_update_self _ ho rfl, hcls, by simp [Obj.mapBytearray]⟩
  have fin : Post X B W Same (fun (_ : Unit) h => Q h) () { s with heap := s.heap.update a (Obj.mapBytearray (·.setIfInBounds i.toNat v.toNat.toUInt8)) } :=
    .here (b := ()) rfl (r.upd (tk := s.toks) u (Heap.SameBut.update ..) (Nat.le_refl _) hup) h
  first
    | exact wpAny_bind (wpAny_pure (wpAny_pure ⟨.none, rfl, wpAny_pure fin⟩))
    | exact wpAny_pure ⟨.none, rfl, wpAny_pure fin⟩
end
end
section
theorem ba_no_bytes : typeLookup (.type "bytearray") "__bytes__" = pure none := by rw [typeLookup_type, builtinLookup_eq_fast]; kernel_rfl
theorem ba_no_index : typeLookup (.type "bytearray") "__index__" = pure none := by rw [typeLookup_type, builtinLookup_eq_fast]; kernel_rfl
theorem ba_buffer : typeLookup (.type "bytearray") "__buffer__" = pure (some (.builtin "bytearray.__buffer__")) := by rw [typeLookup_type, builtinLookup_eq_fast]; kernel_rfl
section
variable {prog : Program} {w : World} {A : Around} {E : Value → Shared → Prop} {s : Shared}
theorem own_buffer {a : Addr} {Q : Bool → Shared → Prop} (hT : s.TypeIs (.ref a) "bytearray") (h : Q true s) : wpAny (model prog w) A (Builtin.Bytes.slotIsOwn (.ref a) "__buffer__") Q E s := by
  unfold Builtin.Bytes.slotIsOwn
  refine wpAny_bind (wpAny_specialOf hT ba_buffer ?_)
  try dsimp only
  rw [if_neg (by decide +kernel)]
  have e : ("bytearray.__buffer__".dropRight ("__buffer__".length + 1)) = "bytearray" := by decide +kernel
  refine wpAny_isInstance (T := "bytearray") hT (b := true) ?_ h
  rw [e]; exact sub_bytearray_self
theorem code_bytes_new {l : Addr} {o : Obj} {b : Array UInt8} {n : Nat} {Q : Value → Shared → Prop} (ho : s.heap.get? l = some o) (hcls : o.cls = .type "bytearray") (hd : o.data = .bytearray b n) (hz : b.size ≤ sizeLine)
    (hQ : Q (.bytes b s.toks) { s with toks := s.toks + 1 }) : codeAny (model prog w) A (.call (.builtin "bytes.__new__") ⟨[.type "bytes", .ref l], []⟩) (wants Q E) s := by
  refine codeAny_of_tree ?_
  show wpAny _ A.in1 (do checkBuiltinCall "bytes.__new__" ⟨[.type "bytes", .ref l], []⟩; again (.builtin "bytes.__new__" ⟨[.type "bytes", .ref l], []⟩)) _ _ s
  refine wpAny_bind (wpAny_of_eq (F.bm_newCall _) (wpAny_pure ⟨plainId_quiet F.bm_plain _, codeAny_builtin F.bm_entry ?_⟩))
  rw [Around.under_plainId F.bm_plain _]
  have hT : s.TypeIs (.ref l) "bytearray" := ⟨_, ho, hcls⟩
  unfold Builtin.«bytes.__new__»
  refine wpAny_bind (wpAny_of_eq (a := true) rfl ?_)
  refine bm_if_false rfl ?_
  refine wpAny_bind (wpAny_of_eq F.bm_sub ?_)
  refine bm_if_false rfl ?_
  refine wpAny_bind (wpAny_of_eq (F.bm_bind _) ?_)
  refine wpAny_bind (wpAny_of_eq (a := ()) rfl ?_)
  refine wpAny_bind (wpAny_of_eq (a := ()) rfl ?_)
  refine bm_if_false rfl ?_
  refine wpAny_bind (wpAny_specialOf hT ba_no_bytes ?_)
  refine wpAny_bind (wpAny_bind ?_)
  show wpAny _ _ (load l >>= _) _ _ _
  refine wpAny_bind (wpAny_load ho ?_)
  rw [hd]
  refine wpAny_pure (wpAny_pure ?_)
  refine bm_if_false rfl ?_
  refine wpAny_bind (wpAny_specialOf hT ba_no_index ?_)
  refine bm_if_true rfl ?_
  first
    | show wpAny _ _ (Builtin.Bytes.buffer? "bytes.__new__" (.ref l) true >>= _) _ _ _
    | (refine wpAny_bind ?_; show wpAny _ _ (Builtin.Bytes.buffer? "bytes.__new__" (.ref l) true >>= _) _ _ _)
  refine wpAny_bind ?_
  unfold Builtin.Bytes.buffer?
  refine wpAny_bind (wpAny_specialOf hT ba_buffer ?_)
  try dsimp only
  refine wpAny_bind (own_buffer hT ?_)
  rw [if_neg (by decide)]
  refine wpAny_bind (wpAny_specialOf hT ba_buffer ?_)
  try dsimp only
  refine wpAny_bind (own_release hT ?_)
  rw [if_neg (by decide)]
  unfold Builtin.Bytes.payload Builtin.Bytes.payload?
  try dsimp only
  refine wpAny_bind (wpAny_bind (wpAny_bind (wpAny_load ho ?_)))
  rw [hd]
  refine wpAny_pure (wpAny_pure (wpAny_pure ?_))
  try dsimp only
  unfold mkBytes
  rw [if_neg (by (first | lia | omega))]
  refine wpAny_bind (wpAny_rule (wpAny_bind (wpAny_bind (wpAny_fresh (wpAny_pure ?_)))))
  first
    | exact wpAny_pure hQ
    | exact wpAny_ite (wpAny_pure hQ)
    | (refine bm_if_true rfl ?_; exact wpAny_pure hQ)
theorem call_bytes_barr {l : Addr} {o : Obj} {b : Array UInt8} {n : Nat} {Q : Value → Shared → Prop} (ho : s.heap.get? l = some o) (hcls : o.cls = .type "bytearray") (hd : o.data = .bytearray b n) (hz : b.size ≤ sizeLine)
    (hQ : Q (.bytes b s.toks) { s with toks := s.toks + 1 }) : wpAny (model prog w) A (call (.type "bytes") [.ref l]) Q E s := by
  refine callType_codes (Q₁ := fun obj s₁ => s₁.TypeIs obj "bytes" ∧ Q obj s₁) F.bm_called (F.bm_typeCall _) F.entry_object_init
    (code_bytes_new ho hcls hd hz ⟨PySem.W.typeIs_bytes _ _ _, hQ⟩) fun obj s₁ h₁ => ?_
  exact ⟨h₁.1, F.args_object_init_2 obj _, object_init_meets F.bm_called.init.lookup F.bm_called.made (by decide) prog w A.in1 _ s₁ ⟨h₁.1, rfl, h₁.2⟩⟩
end
section
variable {X : Fx} {A : Around} {hs : HS}
theorem N_bytes_barr {a : Addr} {b : List UInt8} {Q : V → HS → Prop} (hm : (a, AO.barr b) ∈ hs) (hz : b.length ≤ 2 ^ 20) (h : Q (.bytes b) hs) : JC X A (.type "bytes") [.ref a] hs Q := JC_1 fun B W s vf va r hf ha => by
  cases isTy hf; cases isRef ha
  refine Classical.byContradiction fun hno => ?_
  obtain ⟨o, ho, hcls, hd⟩ := r.objs _ _ hm
  refine hno ?_
  clear hno
  exact call_bytes_barr ho hcls hd (by simpa using Nat.le_trans hz (by decide)) (.here (b := .bytes b) (by simp only [Is]; exact ⟨_, rfl⟩) (r.toks (Nat.le_succ _)) h)
end
end
section
section
variable {X : Fx} {A : Around} {hs : HS}
noncomputable def swapBlk (b : List UInt8) (w blk : Nat) (c : List UInt8) : List UInt8 := (List.range w).foldl (fun c j => c.set (blk * w + w - 1 - j) (b.getD (blk * w + j) 0)) c
noncomputable def swapAll (b : List UInt8) (w k : Nat) : List UInt8 := (List.range k).foldl (fun c blk => swapBlk b w blk c) (List.replicate b.length 0)
theorem rangeV_step (w : Nat) : ∀ (k a : Nat), rangeV (a : Int) (w : Int) k = (List.range k).map fun i : Nat => V.int ((a + i * w : Nat) : Int)
  | 0, a => rfl
  | k + 1, a => by
    rw [rangeV, show ((a : Int) + (w : Int)) = ((a + w : Nat) : Int) by (first | lia | omega), rangeV_step w k (a + w), List.range_succ_eq_map, List.map_cons, List.map_map]
    simp only [Nat.zero_mul, Nat.add_zero, List.cons.injEq, true_and]
    refine List.map_congr_left fun i _ => ?_
    simp only [Function.comp, Nat.succ_eq_add_one, V.int.injEq]
    rw [Nat.add_mul, Nat.one_mul]
    (first | lia | omega)
theorem swapBlk_len (b : List UInt8) (w blk : Nat) : ∀ (l : List Nat) (c : List UInt8), (l.foldl (fun c j => c.set (blk * w + w - 1 - j) (b.getD (blk * w + j) 0)) c).length = c.length
  | [], c => rfl
  | j :: l, c => by rw [List.foldl_cons, swapBlk_len b w blk l, List.length_set]
theorem spec_byteswap {n k w : Nat} {b : List UInt8} {Q : V → HS → Prop} (G : Prog X) (ok : Ok A (n + 1) 1) (hg : A.guards = some []) (hb : b.length = k * w) (hz : b.length ≤ 2 ^ 10) (hw : 1 ≤ w) (hw2 : w ≤ 2 ^ 10)
    (hsmall : Builtin.Range.small 0 (b.length : Int) (w : Int) = true) (hn : Builtin.Range.rangeSize 0 (b.length : Int) (w : Int) = (k : Int))
    (h : Q (.bytes (swapAll b w k)) hs) : JCN X A (.fn "_byteswap") [.bytes b, .int w] hs Q := by
  refine JCN_def (d := defAt 18) (names := ["data", "width"]) (n := n) (u := 0) G.T (G.fn "_byteswap" 18 rfl).1 ok rfl (bind2 fun _ _ _ _ _ => rfl) (by rfl) (by decide) ?_
  intro L f cd
  have ok' := ok.deeper (n := n) (envF (defAt 18) L f [] cd)
  have hg' : (A.deeper (envF (defAt 18) L f [] cd)).guards = some [] := hg
  show JxN X (A.deeper (envF (defAt 18) L f [] cd)) _ _ _ _
  generalize A.deeper (envF (defAt 18) L f [] cd) = A' at ok' hg' ⊢
  have hh := ok'.1
  refine JxN_barr hg' ?_
  back_in
  refine ⟨rfl, ?_⟩
  repeat back_in
  refine N_len_bytes (Nat.le_trans hz (by decide)) ?_
  refine ⟨_, rfl, by (first | lia | omega), by (first | lia | omega), fun D => ?_⟩
  rw [Int.toNat_natCast]
  back_in
  refine JxN.of ?_
  refine J.ns' (m' := [("swapped_data", .ref D), ("width", .int w), ("data", .bytes b)]) (.there .here) ⟨rfl, rfl, rfl, trivial⟩ ?_
  back_in
  refine J_For (tg := false) hh (fun x => nomatch x) ?_
  refine Src_call ?_
  repeat back_in
  refine N_len_bytes (Nat.le_trans hz (by decide)) ?_
  repeat back_in
  have hwb : Builtin.Int.intBits (w : Int) ≤ 9000 := Nat.le_trans (intBits_cast_le (Nat.le_trans hw2 (by decide))) (by decide)
  refine ⟨_, Src_range3 (n := k) (by (first | lia | omega)) hsmall hn (noPylong hwb), ?_⟩
  rw [show rangeV 0 (w : Int) k = _ from rangeV_step w k 0]
  refine Loop.invMK (fun i : Nat => V.int ((0 + i * w : Nat) : Int)) (fun r h => ∃ c m, c.length = b.length ∧ r.foldl (fun c blk => swapBlk b w blk c) c = swapAll b w k ∧ subNs m [("swapped_data", .ref D), ("width", .int w), ("data", .bytes b)] ∧ h = (D, .barr c) :: (L, .ns m) :: hs) (xs := List.range k) ?_ ?_ ?_
  · rintro i hi r h' ⟨c, m, hcl, hc, hm, rfl⟩ K hK
    have hik : i < k := List.mem_range.mp hi
    have hiw : i * w + w ≤ b.length := by
      rw [hb, ← Nat.succ_mul]
      exact Nat.mul_le_mul_right _ hik
    iterate 2 back_in
    refine J.ns' (m' := [("i", .int ((0 + i * w : Nat) : Int)), ("swapped_data", .ref D), ("width", .int w), ("data", .bytes b)]) (.there .here) ⟨rfl, hm.1, hm.2.1, hm.2.2.1, trivial⟩ ?_
    rw [Nat.zero_add]
    back_in
    refine J_For (tg := false) hh (fun x => nomatch x) ?_
    refine Src_call ?_
    repeat back_in
    refine ⟨_, Src_range1 (by (first | lia | omega)) (by (first | lia | omega)), ?_⟩
    rw [Int.toNat_natCast, rangeV_map]
    refine Loop.invMK (fun j : Nat => V.int (0 + (j : Int))) (fun r' h => ∃ c' m, c'.length = b.length ∧ r'.foldl (fun c j => c.set (i * w + w - 1 - j) (b.getD (i * w + j) 0)) c' = swapBlk b w i c ∧ subNs m [("i", .int ((i * w : Nat) : Int)), ("swapped_data", .ref D), ("width", .int w), ("data", .bytes b)] ∧ h = (D, .barr c') :: (L, .ns m) :: hs) (xs := List.range w) ?_ ?_ ?_
    · rintro j hj r' h' ⟨c', m, hcl', hc', hm, rfl⟩ K' hK'
      have hjw : j < w := List.mem_range.mp hj
      rw [Int.zero_add]
      iterate 2 back_in
      refine J.ns' (m' := [("j", .int (j : Int)), ("i", .int ((i * w : Nat) : Int)), ("swapped_data", .ref D), ("width", .int w), ("data", .bytes b)]) (.there .here) ⟨rfl, hm.1, hm.2.1, hm.2.2.1, hm.2.2.2.1, trivial⟩ ?_
      repeat back_in
      have hlt : i * w + j < b.length := by (first | lia | omega)
      have e1 : ((i * w : Nat) : Int) + (j : Int) = ((i * w + j : Nat) : Int) := by (first | lia | omega)
      have e2 : ((i * w : Nat) : Int) + (w : Int) - 1 - (j : Int) = ((i * w + w - 1 - j : Nat) : Int) := by (first | lia | omega)
      rw [e1]
      refine G_bytes (c := b.getD (i * w + j) 0) (Nat.le_trans hz (by decide)) (by (first | lia | omega)) (by rw [Int.toNat_natCast]; simp [List.getD, hlt]) ?_
      repeat back_in
      rw [e2]
      have hu : (b.getD (i * w + j) 0).toNat < 256 := UInt8.toNat_lt _
      refine S_barr (by (first | lia | omega)) (by rw [hcl']; (first | lia | omega)) (by rw [hcl']; exact Nat.le_trans hz (by decide)) (by (first | lia | omega)) (by (first | lia | omega)) .here ?_
      rw [Int.toNat_natCast, Int.toNat_natCast, show (b.getD (i * w + j) 0).toNat.toUInt8 = b.getD (i * w + j) 0 by simp]
      refine J_nil (hK' _ ⟨_, _, by rw [List.length_set]; exact hcl', hc', ?_, rfl⟩)
      exact ⟨rfl, rfl, rfl, rfl, trivial⟩
    · rintro h' ⟨c', m, hcl', hc', hm, rfl⟩
      refine J_nil (hK _ ⟨c', m, hcl', ?_, ?_, rfl⟩)
      · rw [List.foldl_nil] at hc'
        rw [hc']; exact hc
      · exact ⟨hm.2.1, hm.2.2.1, hm.2.2.2.1, trivial⟩
    · exact ⟨c, _, hcl, rfl, ⟨rfl, rfl, rfl, rfl, trivial⟩, rfl⟩
  · rintro h' ⟨c, m, hcl, hc, hm, rfl⟩
    rw [List.foldl_nil] at hc
    refine J.ns' (m' := [("swapped_data", .ref D), ("width", .int w), ("data", .bytes b)]) (.there .here) ⟨hm.1, hm.2.1, hm.2.2.1, trivial⟩ ?_
    repeat back_in
    refine N_bytes_barr (.head _) (by rw [hcl]; exact Nat.le_trans hz (by decide)) ?_
    rw [hc]
    exact ⟨hs, .cons _ (.cons _ (.refl _)), h⟩
  · exact ⟨_, _, by simp, rfl, ⟨rfl, rfl, rfl, trivial⟩, rfl⟩
end
end
section
section
variable {X : Fx} {A : Around} {hs : HS}
theorem CT_flatS {env : Env} {target : Expr} {ifs : List Expr} {inner : AO → HS → (AO → HS → Prop) → Prop} (S : HS → Prop) (g : V → List V) :
    ∀ {vs : List V} {ys : List V} {h0 : HS} {K : AO → HS → Prop}, (ys ++ vs.flatMap g).length ≤ sizeLine → S h0 →
    (∀ b ∈ vs, ∀ (h0 : HS) (ys : List V) (K' : AO → HS → Prop), (ys ++ g b).length ≤ sizeLine → S h0 → (∀ h', S h' → K' (.list (ys ++ g b)) h') →
      Jas X A env target b h0 fun h1 => Jifs X A env ifs h1 fun ok h2 => if ok then inner (.list ys) h2 K' else K' (.list ys) h2) →
    (∀ h', S h' → K (.list (ys ++ vs.flatMap g)) h') → CT X A env target ifs inner vs (.list ys) h0 K
  | [], ys, h0, K, _, hm, _, h => by
    have := h h0 hm
    simp only [List.flatMap_nil, List.append_nil] at this
    exact this
  | b :: r, ys, h0, K, hz, hm, step, h => by
    simp only [List.flatMap_cons] at hz h
    rw [← List.append_assoc] at hz
    refine step b List.mem_cons_self h0 ys _ ?_ hm fun h' hm' => ?_
    · rw [List.length_append] at hz
      (first | lia | omega)
    · exact CT_flatS S g hz hm' (fun b' hb' => step b' (List.mem_cons_of_mem _ hb')) (by simpa only [List.append_assoc] using h)
noncomputable def isPrime (size : Nat) (w : Str) : Bool := (List.range (size - 1)).all fun i : Nat => coll w (cutS w (some (1 + (i : Int))) none) == -1
theorem pick_ks (size : Nat) (w : Str) : ((rangeV 1 1 (size - 1)).flatMap fun b => if coll w (cutS w (some (intV b)) none) = -1 then [] else [b]) = intsOf (((List.range (size - 1)).filter fun i : Nat => coll w (cutS w (some (1 + (i : Int))) none) != -1).map fun i : Nat => 1 + (i : Int)) := by
  rw [rangeV_map]
  induction List.range (size - 1) with
  | nil => rfl
  | cons i l ih =>
    simp only [List.map_cons, List.flatMap_cons, List.filter_cons, ih, intsOf]
    by_cases h : coll w (cutS w (some (1 + (i : Int))) none) = -1 <;> simp [h, intV]
theorem pick_primes (size : Nat) (ws : List Str) : ((ws.map V.str).flatMap fun b => if isPrime size (strV b) then [b] else []) = (ws.filter (isPrime size)).map .str := by
  induction ws with
  | nil => rfl
  | cons w ws ih =>
    simp only [List.map_cons, List.flatMap_cons, List.filter_cons, ih, strV_str]
    by_cases h : isPrime size w <;> simp [h]
end
end
section
section
variable {X : Fx} {A : Around} {hs : HS}
noncomputable def lexN (letters : Str) : Nat → List Str
  | 0 => [""]
  | k + 1 => letters.cps.toList.flatMap fun c => (lexN letters k).map fun w => (⟨#[c]⟩ : Str) ++ w
structure Alpha where
  letters : Str
  size : Nat
noncomputable def Alpha.words (a : Alpha) : List Str := lexN a.letters a.size
noncomputable def Alpha.primes (a : Alpha) : List Str := a.words.filter (isPrime a.size)
noncomputable def Alpha.brackets (a : Alpha) : List (List (Str × Int)) := a.primes.map (brk 4)
noncomputable def alpha4 : Alpha := ⟨"ab", 4⟩
noncomputable def alpha3 : Alpha := ⟨"abc", 3⟩
noncomputable def Alpha.ok (a : Alpha) : Bool := (a.letters.cps.all (· < 128)) && a.primes.all (brkOk 4) && cancOk a.words a.size && leftOk a.words && a.words.all (fun w => PyData.strOk w) && decide (a.words.length < 64) &&
  (a.brackets.all fun named => named.all fun p => a.words.contains p.1 && (p.2 == 1 || p.2 == -1)) && ((a.words.zip (a.words.drop 1)).all fun p => coll p.1 p.2 == -1 && coll p.2 p.1 == 1)
set_option maxRecDepth 1000000 in
theorem ok4 : alpha4.ok = true := by decide +kernel
set_option maxRecDepth 1000000 in
theorem ok3 : alpha3.ok = true := by decide +kernel
theorem nodup4 : alpha4.words.Nodup := by decide +kernel
theorem nodup3 : alpha3.words.Nodup := by decide +kernel
end
end
section
section
variable {X : Fx} {A : Around} {hs : HS}
theorem str_ext {x y : Str} (h : x.cps.toList = y.cps.toList) : x = y := by
  cases x with | mk a => cases y with | mk b =>
    have : a = b := Array.toList_inj.mp h
    rw [this]
theorem sorted_one {ys zs : List Str} (hp : ys.Perm zs) (h1 : SortedS ys) (h2 : SortedS zs) : ys = zs :=
  List.Perm.eq_of_pairwise (le := fun a b : Str => ¬ b.cps.toList < a.cps.toList) (fun a b _ _ hab hba => str_ext (List.le_antisymm (List.not_lt.mp hab) (List.not_lt.mp hba))) h1 h2 hp
theorem perm4 : (wstepN alpha4.letters alpha4.size).Perm alpha4.words := by
  rw [← List.isPerm_iff]; decide +kernel
theorem perm3 : (wstepN alpha3.letters alpha3.size).Perm alpha3.words := by
  rw [← List.isPerm_iff]; decide +kernel
theorem sorted4 : SortedS alpha4.words := by unfold SortedS; decide +kernel
theorem sorted3 : SortedS alpha3.words := by unfold SortedS; decide +kernel
end
end
section
section
variable {X : Fx} {A : Around} {hs : HS}
structure AOk (a : Alpha) : Prop where
  ascii : a.letters.cps.all (· < 128) = true
  size1 : 2 ≤ a.size
  size2 : a.size ≤ 4
  steps : ∀ j ≤ a.size, (wstepN a.letters j).length < 64 ∧ ∀ w ∈ wstepN a.letters j, w.length ≤ 64
  perm : (wstepN a.letters a.size).Perm a.words
  sorted : SortedS a.words
  nodup : a.words.Nodup
  short : a.words.length < 64
  some : a.words ≠ []
  brk : ∀ w ∈ a.primes, brkOk 4 w = true
  canc : cancOk a.words a.size = true
  left : leftOk a.words = true
  strok : ∀ w ∈ a.words, PyData.strOk w = true
  named : ∀ named ∈ a.brackets, ∀ p ∈ named, p.1 ∈ a.words ∧ (p.2 = 1 ∨ p.2 = -1)
  order : ∀ p ∈ a.words.zip (a.words.drop 1), coll p.1 p.2 = -1 ∧ coll p.2 p.1 = 1
theorem AOk.of {a : Alpha} (h : a.ok = true) (h1 : 2 ≤ a.size) (h2 : a.size ≤ 4) (h3 : ∀ j ≤ a.size, (wstepN a.letters j).length < 64 ∧ ∀ w ∈ wstepN a.letters j, w.length ≤ 64) (h4 : (wstepN a.letters a.size).Perm a.words) (h5 : SortedS a.words) (h6 : a.words.Nodup) (h7 : a.words ≠ []) : AOk a := by
  simp only [Alpha.ok, Bool.and_eq_true, decide_eq_true_eq, List.all_eq_true, Bool.or_eq_true, beq_iff_eq, List.contains_iff_mem] at h
  refine Classical.byContradiction fun hno => ?_
  obtain ⟨⟨⟨⟨⟨⟨⟨a1, a2⟩, a3⟩, a4⟩, a5⟩, a6⟩, a7⟩, a8⟩ := h
  refine hno ?_
  clear hno
  exact ⟨a1, h1, h2, h3, h4, h5, h6, a6, h7, a2, a3, a4, a5, a7, a8⟩
theorem aok4 : AOk alpha4 := .of ok4 (by decide) (by decide) (by decide +kernel) perm4 sorted4 nodup4 (by decide +kernel)
theorem aok3 : AOk alpha3 := .of ok3 (by decide) (by decide) (by decide +kernel) perm3 sorted3 nodup3 (by decide +kernel)

end
end
section
section
variable {X : Fx} {A : Around} {hs : HS}
noncomputable abbrev envL (L f cl cw ct cs : Addr) (cd : Value) : Env := envF (defAt 30) L f [("left", cl), ("width", cw), ("table", ct), ("size", cs)] cd
noncomputable abbrev HL (L cl cw ct cs P7 P8 : Addr) (size : Nat) (hs : HS) (m : List (Str × V)) (ol ow ot : Option V) : HS :=
  (L, .ns m) :: (cl, .cell ol) :: (cw, .cell ow) :: (ct, .cell ot) :: (cs, .cell (some (.int size))) :: (P7, .tab (posAt 7 1) qn7) :: (P8, .tab (posAt 8 0) qn8) :: hs
noncomputable def brV (b : List (List (Str × Int))) : V := .lst (b.map fun n => .lst (pairsV n))
section
variable {n : Nat} {L f cl cw ct cs P7 P8 : Addr} {cd : Value} {Q : V → HS → Prop} {a : Alpha} {cells : List Int} {total : Int}
theorem law_words (G : Prog X) (ok : Ok A (n + 59) 90) (K : AOk a) (m : List (Str × V)) (hm : subNs m [("letters", .str a.letters), ("total", .int total), ("cells", .lst (intsOf cells))])
    (next : ∀ m, subNs m [("words", .lst (a.words.map .str)), ("total", .int total), ("cells", .lst (intsOf cells))] → JxN X A (envL L f cl cw ct cs cd) ((defAt 30).body.drop 5) (HL L cl cw ct cs P7 P8 a.size hs m none none none) (Back Q)) :
    JxN X A (envL L f cl cw ct cs cd) ((defAt 30).body.drop 3) (HL L cl cw ct cs P7 P8 a.size hs m none none none) (Back Q) := by
  have hh := ok.1
  refine JxN_cons ?_
  refine J.ns (m' := [("letters", .str a.letters), ("total", .int total), ("cells", .lst (intsOf cells))]) hm ?_
  repeat back_in
  refine spec_words (n := n) G ok.down K.ascii (Nat.lt_of_le_of_lt K.size2 (by decide)) K.steps fun ys hp hsd => ?_
  have e : ys = a.words := sorted_one (hp.trans K.perm) hsd K.sorted
  subst e
  repeat back_in
  refine JxN_cons ?_
  repeat back_in
  refine J_tVal ?_
  repeat back_in
  refine spec_in_order (n := n) G ok.down K.some K.short K.order ?_
  repeat back_in
  rw [if_neg (by decide)]
  refine J_nil ?_
  exact next _ ⟨rfl, rfl, rfl, trivial⟩
end
end
end
section
section
variable {X : Fx} {A : Around} {hs : HS}
theorem isPrime_eq (size : Nat) (w : Str) : (((List.range (size - 1)).filter fun i : Nat => coll w (cutS w (some (1 + (i : Int))) none) != -1).map fun i : Nat => 1 + (i : Int)).isEmpty = isPrime size w := by
  unfold isPrime
  induction List.range (size - 1) with
  | nil => rfl
  | cons i l ih =>
    simp only [List.filter_cons, List.all_cons]
    by_cases h : coll w (cutS w (some (1 + (i : Int))) none) = -1 <;> simp [h, ih]
section
variable {n : Nat} {L f cl cw ct cs P7 P8 : Addr} {cd : Value} {Q : V → HS → Prop} {a : Alpha} {cells : List Int} {total : Int}
theorem law_primes (G : Prog X) (ok : Ok A (n + 59) 90) (K : AOk a) (hws : ∀ w ∈ a.words, w.length ≤ 64) (m : List (Str × V)) (hm : subNs m [("words", .lst (a.words.map .str)), ("total", .int total), ("cells", .lst (intsOf cells))])
    (next : ∀ m, subNs m [("primes", .lst (a.primes.map .str)), ("words", .lst (a.words.map .str)), ("total", .int total), ("cells", .lst (intsOf cells))] → JxN X A (envL L f cl cw ct cs cd) ((defAt 30).body.drop 6) (HL L cl cw ct cs P7 P8 a.size hs m none none none) (Back Q)) :
    JxN X A (envL L f cl cw ct cs cd) ((defAt 30).body.drop 5) (HL L cl cw ct cs P7 P8 a.size hs m none none none) (Back Q) := by
  have hh := ok.1
  have hsz := K.size2
  refine JxN_cons ?_
  refine J.ns (m' := [("words", .lst (a.words.map .str)), ("total", .int total), ("cells", .lst (intsOf cells))]) hm ?_
  refine J_Assign_LC (tg := false) G.T hh ?_
  refine Src_val ?_
  repeat back_in
  refine ⟨_, Itb_lst, ?_⟩
  intro C cwd
  refine CT_flatS (fun h => ∃ m o, h = (C, .ns m) :: (cwd, .cell o) :: HL L cl cw ct cs P7 P8 a.size hs [("words", .lst (a.words.map .str)), ("total", .int total), ("cells", .lst (intsOf cells))] none none none) (fun b => if isPrime a.size (strV b) then [b] else []) (by
    rw [List.nil_append, pick_primes, List.length_map]
    exact Nat.le_trans (List.length_filter_le _ _) (Nat.le_trans (Nat.le_of_lt K.short) (by decide))) ⟨_, _, rfl⟩ ?_ ?_
  · rintro b hb h0 ys K' hsz' ⟨m, o, rfl⟩ hK
    refine Classical.byContradiction fun hno => ?_
    obtain ⟨w, hw, rfl⟩ := List.mem_map.mp hb
    refine hno ?_
    clear hno
    have hwz : w.length ≤ sizeLine := Nat.le_trans (hws w hw) (by decide)
    repeat back_in
    refine Jifs_cons ?_
    refine J_tCmp ?_
    refine J_LC (tg := false) G.T hh ?_
    refine Src_call ?_
    repeat back_in
    refine ⟨_, Src_range2 (by (first | lia | omega)) (by (first | lia | omega)) (by (first | lia | omega)) (by (first | lia | omega)), ?_⟩
    rw [show ((a.size : Int) - 1).toNat = a.size - 1 from Int.toNat_sub _ 1]
    intro C2
    refine CT_flat [] (fun b => if coll w (cutS w (some (intV b)) none) = -1 then [] else [b]) (by
      rw [List.nil_append, pick_ks, intsOf, List.length_map, List.length_map]
      exact Nat.le_trans (List.length_filter_le _ _) (by rw [List.length_range]; exact Nat.le_trans (Nat.le_trans (Nat.sub_le _ _) hsz) (by decide))) trivial ?_ ?_
    · intro b2 hb2 m2 ys2 K2 hsz2 hm2 hK2
      rw [rangeV_map] at hb2
      refine Classical.byContradiction fun hno => ?_
      obtain ⟨i, hi, rfl⟩ := List.mem_map.mp hb2
      refine hno ?_
      clear hno
      repeat back_in
      refine Jifs_cons ?_
      refine J.ns (m' := [("k", .int (1 + (i : Int)))]) ⟨rfl, trivial⟩ ?_
      repeat back_in
      refine Sl_str (lo := some (1 + (i : Int))) (hi := none) hwz ?_
      repeat back_in
      refine spec_strcoll (n := n) G ok.down ?_
      repeat back_in
      by_cases e : coll w (cutS w (some (1 + (i : Int))) none) = -1
      · rw [e, if_neg (by decide), if_neg (by decide)]
        have e2 : ((if coll w (cutS w (some (intV (V.int (1 + (i : Int))))) none) = -1 then [] else [V.int (1 + (i : Int))]) : List V) = [] := if_pos e
        rw [e2, List.append_nil] at hK2
        exact hK2 _ trivial
      · rw [if_pos (by simpa using e)]
        have e2 : ((if coll w (cutS w (some (intV (V.int (1 + (i : Int))))) none) = -1 then [] else [V.int (1 + (i : Int))]) : List V) = [V.int (1 + (i : Int))] := if_neg e
        rw [e2] at hK2 hsz2
        refine Jifs_nil ?_
        rw [if_pos rfl]
        refine eltOf_in ?_
        back_in
        exact ⟨by rw [List.length_append] at hsz2; (first | lia | omega), hK2 _ trivial⟩
    · intro m2 hm2
      refine ⟨_, m2, _, _, rfl, rfl, .refl _, ?_⟩
      rw [List.nil_append, pick_ks]
      repeat back_in
      refine ⟨Nat.le_of_ble_eq_true rfl, ?_⟩
      refine C_eq_ints0 (n := n) ok.base ?_
      repeat back_in
      rw [isPrime_eq]
      cases e : isPrime a.size w with
      | true =>
        have e2 : ((if isPrime a.size (strV (V.str w)) then [V.str w] else []) : List V) = [V.str w] := if_pos e
        rw [e2] at hK hsz'
        rw [if_pos rfl]
        refine Jifs_nil ?_
        rw [if_pos rfl]
        refine eltOf_in ?_
        back_in
        exact ⟨by rw [List.length_append] at hsz'; (first | lia | omega), hK _ ⟨_, _, rfl⟩⟩
      | false =>
        have e2 : ((if isPrime a.size (strV (V.str w)) then [V.str w] else []) : List V) = [] := if_neg (by rw [strV_str, e]; decide)
        rw [e2, List.append_nil] at hK
        rw [if_neg (by decide), if_neg (by decide)]
        exact hK _ ⟨_, _, rfl⟩
  · rintro h' ⟨m2, o, rfl⟩
    refine ⟨_, m2, _, _, rfl, rfl, .cons _ (.refl _), ?_⟩
    rw [List.nil_append, pick_primes]
    back_in
    exact next _ ⟨rfl, rfl, rfl, rfl, trivial⟩
end
end
end
section
section
variable {X : Fx} {A : Around} {hs : HS}
section
variable {n : Nat} {L f cl cw ct cs P7 P8 : Addr} {cd : Value} {Q : V → HS → Prop} {a : Alpha} {cells : List Int} {total : Int}
theorem brks_V (a : Alpha) : ((a.primes.map V.str).flatMap fun b => [V.lst (pairsV (brk 4 (strV b)))]) = a.brackets.map fun b => .lst (pairsV b) := by
  rw [List.flatMap_map, ← List.map_eq_flatMap, Alpha.brackets, List.map_map]
  rfl
theorem law_brackets (G : Prog X) (ok : Ok A (n + 59) 90) (K : AOk a) (m : List (Str × V)) (hm : subNs m [("primes", .lst (a.primes.map .str)), ("words", .lst (a.words.map .str)), ("total", .int total), ("cells", .lst (intsOf cells))])
    (next : ∀ m, subNs m [("brackets", brV a.brackets), ("primes", .lst (a.primes.map .str)), ("words", .lst (a.words.map .str)), ("total", .int total), ("cells", .lst (intsOf cells))] → JxN X A (envL L f cl cw ct cs cd) ((defAt 30).body.drop 7) (HL L cl cw ct cs P7 P8 a.size hs m none none none) (Back Q)) :
    JxN X A (envL L f cl cw ct cs cd) ((defAt 30).body.drop 6) (HL L cl cw ct cs P7 P8 a.size hs m none none none) (Back Q) := by
  have hh := ok.1
  refine JxN_cons ?_
  refine J.ns (m' := [("primes", .lst (a.primes.map .str)), ("words", .lst (a.words.map .str)), ("total", .int total), ("cells", .lst (intsOf cells))]) hm ?_
  refine J_Assign_LC (tg := false) G.T hh ?_
  refine Src_val ?_
  repeat back_in
  refine ⟨_, Itb_lst, ?_⟩
  intro C
  refine CT_flat (rest := HL L cl cw ct cs P7 P8 a.size hs [("primes", .lst (a.primes.map .str)), ("words", .lst (a.words.map .str)), ("total", .int total), ("cells", .lst (intsOf cells))] none none none) [] (fun b => [V.lst (pairsV (brk 4 (strV b)))]) (by
    rw [List.nil_append, brks_V, List.length_map, Alpha.brackets, List.length_map]
    exact Nat.le_trans (List.length_filter_le _ _) (Nat.le_trans (Nat.le_of_lt K.short) (by decide))) trivial ?_ ?_
  · intro b hb m2 ys K' hsz hm2 hK
    refine Classical.byContradiction fun hno => ?_
    obtain ⟨w, hw, rfl⟩ := List.mem_map.mp hb
    refine hno ?_
    clear hno
    repeat back_in
    refine Jifs_nil ?_
    rw [if_pos rfl]
    refine eltOf_in ?_
    refine J.ns (m' := [("word", .str w)]) ⟨rfl, trivial⟩ ?_
    repeat back_in
    refine spec_bracket 4 (n := n) G (ok.le (by lia)) (K.brk w hw) ?_
    exact ⟨by rw [List.length_append] at hsz; (first | lia | omega), hK _ trivial⟩
  · intro m2 hm2
    refine ⟨_, m2, _, _, rfl, rfl, .refl _, ?_⟩
    rw [List.nil_append, brks_V]
    back_in
    exact next _ ⟨rfl, rfl, rfl, rfl, rfl, trivial⟩
end
end
end
section
section
variable {X : Fx} {A : Around} {hs : HS}
section
variable {n : Nat} {L f cl cw ct cs P7 P8 : Addr} {cd : Value} {Q : V → HS → Prop} {a : Alpha} {cells : List Int} {total : Int}
theorem cutL_upto {α : Type} (xs : List α) (k : Nat) : cutL xs none (some (k : Int)) = xs.take k := by
  unfold cutL clipAt
  simp only [Option.elim, List.drop_zero]
  rw [if_neg (by (first | lia | omega))]
  have e : (max 0 (min (k : Int) (xs.length : Int))).toNat = min k xs.length := clip_nat _ _
  rw [e, ← List.take_eq_take_min]
noncomputable def strayIx (a : Alpha) (total : Int) : Nat := ((total.fdiv 8).fmod (a.words.length : Int)).toNat
noncomputable def strayW (a : Alpha) (total : Int) : Str := a.words.getD (strayIx a total) ⟨#[]⟩
noncomputable def strayN (total : Int) : Int := [0, 0, 1, -2].getD (total.fmod 4).toNat 0
noncomputable def sharesOf (a : Alpha) (cells : List Int) : List Int := cells.take a.primes.length
theorem strayIx_lt {a : Alpha} (h : a.words ≠ []) : ((total.fdiv 8).fmod (a.words.length : Int)) = (strayIx a total : Int) ∧ strayIx a total < a.words.length := by
  have hp : 0 < (a.words.length : Int) := by have := List.length_pos_iff.mpr h; (first | lia | omega)
  have h0 := Int.fmod_nonneg_of_pos (total.fdiv 8) hp
  have h1 := Int.fmod_lt_of_pos (total.fdiv 8) hp
  exact ⟨(Int.toNat_of_nonneg h0).symm, (Int.toNat_lt h0).mpr h1⟩
theorem law_shares (G : Prog X) (ok : Ok A (n + 59) 90) (K : AOk a) (hcl : cells.length = 8) (m : List (Str × V)) (hm : subNs m [("brackets", brV a.brackets), ("primes", .lst (a.primes.map .str)), ("words", .lst (a.words.map .str)), ("total", .int total), ("cells", .lst (intsOf cells))])
    (next : ∀ m, subNs m [("strayed", .int (strayN total)), ("stray", .str (strayW a total)), ("shares", .lst (intsOf (sharesOf a cells))), ("brackets", brV a.brackets), ("primes", .lst (a.primes.map .str)), ("words", .lst (a.words.map .str)), ("total", .int total)] → JxN X A (envL L f cl cw ct cs cd) ((defAt 30).body.drop 10) (HL L cl cw ct cs P7 P8 a.size hs m none none none) (Back Q)) :
    JxN X A (envL L f cl cw ct cs cd) ((defAt 30).body.drop 7) (HL L cl cw ct cs P7 P8 a.size hs m none none none) (Back Q) := by
  have hh := ok.1
  have hpl : a.primes.length < 64 := Nat.lt_of_le_of_lt (List.length_filter_le _ _) K.short
  refine JxN_cons ?_
  refine J.ns (m' := [("brackets", brV a.brackets), ("primes", .lst (a.primes.map .str)), ("words", .lst (a.words.map .str)), ("total", .int total), ("cells", .lst (intsOf cells))]) hm ?_
  repeat back_in
  refine N_len_lst (by rw [List.length_map]; (first | lia | omega)) ?_
  rw [List.length_map]
  repeat back_in
  refine Sl_lst (vs := intsOf cells) (lo := none) (hi := some (a.primes.length : Int)) (by rw [intsOf, List.length_map, hcl]; decide) ?_
  rw [cutL_upto, show (intsOf cells).take a.primes.length = intsOf (sharesOf a cells) by simp only [intsOf, sharesOf, List.map_take]]
  repeat back_in
  refine JxN_cons ?_
  repeat back_in
  refine B_fdiv (by decide) (noPylong (by decide)) ?_
  repeat back_in
  refine N_len_lst (by rw [List.length_map]; have := K.short; (first | lia | omega)) ?_
  rw [List.length_map]
  obtain ⟨e1, e2⟩ := strayIx_lt (total := total) K.some
  have hne : (a.words.length : Int) ≠ 0 := by have := List.length_pos_iff.mpr K.some; (first | lia | omega)
  refine B_fmod hne ?_
  rw [e1]
  have hshort := K.short
  repeat back_in
  refine G_lst (b := .str (strayW a total)) (by (first | lia | omega)) (by (first | lia | omega)) (by rw [Int.toNat_natCast]; simp [strayW, List.getD, e2]) ?_
  repeat back_in
  refine JxN_cons ?_
  repeat back_in
  refine ⟨Nat.le_of_ble_eq_true rfl, ?_⟩
  repeat back_in
  refine B_fmod (by decide) ?_
  have h0 := Int.fmod_nonneg_of_pos total (show (0 : Int) < 4 by decide)
  have h1 := Int.fmod_lt_of_pos total (show (0 : Int) < 4 by decide)
  repeat back_in
  refine G_tup (b := .int (strayN total)) h0 (by (first | lia | omega)) ?_ ?_
  · unfold strayN
    have : (total.fmod 4).toNat = 0 ∨ (total.fmod 4).toNat = 1 ∨ (total.fmod 4).toNat = 2 ∨ (total.fmod 4).toNat = 3 := by (first | lia | omega)
    rcases this with e | e | e | e <;> rw [e] <;> rfl
  repeat back_in
  exact next _ ⟨rfl, rfl, rfl, rfl, rfl, rfl, rfl, trivial⟩
end
end
end
section
section
variable {X : Fx} {A : Around} {hs : HS}
theorem JxN.shift {env : Env} {sts : List Stmt} {hs' : HS} {Q : Fl → HS → Prop} (sh : Shift X hs hs') (h : JxN X A env sts hs' Q) : JxN X A env sts hs Q := fun B W s r => by
  refine Classical.byContradiction fun hno => ?_
  obtain ⟨W', l, r'⟩ := sh B W s r
  refine hno ?_
  clear hno
  exact wpN_mono (h B W' s r') (fun _ _ p => p.le l) fun _ _ x => x
section
variable {n : Nat} {L f cl cw ct cs P7 P8 : Addr} {cd : Value} {Q : V → HS → Prop} {a : Alpha} {cells : List Int} {total : Int}
noncomputable def layAll : List (List (Str × Int) × Int) → (Str → Int) → Str → Int
  | [], f => f
  | p :: r, f => layAll r fun w => f w + p.2 * cf p.1 w
noncomputable def namedOf (a : Alpha) (total : Int) : List (List (Str × Int)) := a.brackets ++ [[(strayW a total, 1)]]
noncomputable def tableOf (a : Alpha) (cells : List Int) (total : Int) : Str → Int := layAll ((namedOf a total).zip (sharesOf a cells ++ [strayN total])) fun _ => 0
theorem strayW_mem {a : Alpha} (h : a.words ≠ []) : strayW a total ∈ a.words := by
  obtain ⟨_, e2⟩ := strayIx_lt (total := total) h
  unfold strayW
  rw [List.getD_eq_getElem?_getD, List.getElem?_eq_getElem e2]
  exact List.getElem_mem e2
theorem namedOf_ok (K : AOk a) : ∀ named ∈ namedOf a total, ∀ p ∈ named, p.1 ∈ a.words ∧ (p.2 = 1 ∨ p.2 = -1) := fun named hn p hp => by
  rcases List.mem_append.mp hn with h | h
  · exact K.named named h p hp
  · rw [List.mem_singleton.mp h] at hp
    rw [List.mem_singleton.mp hp]
    exact ⟨strayW_mem K.some, .inl rfl⟩
theorem law_table (G : Prog X) (ok : Ok A (n + 59) 90) (K : AOk a) (hcl : cells.length = 8) (m : List (Str × V)) (hm : subNs m [("strayed", .int (strayN total)), ("stray", .str (strayW a total)), ("shares", .lst (intsOf (sharesOf a cells))), ("brackets", brV a.brackets), ("primes", .lst (a.primes.map .str)), ("words", .lst (a.words.map .str)), ("total", .int total)])
    (next : ∀ m, subNs m [("strayed", .int (strayN total)), ("stray", .str (strayW a total)), ("shares", .lst (intsOf (sharesOf a cells))), ("brackets", brV a.brackets), ("primes", .lst (a.primes.map .str)), ("words", .lst (a.words.map .str)), ("total", .int total)] → JxN X A (envL L f cl cw ct cs cd) ((defAt 30).body.drop 12) (HL L cl cw ct cs P7 P8 a.size hs m none none (some (tabD a.words (tableOf a cells total)))) (Back Q)) :
    JxN X A (envL L f cl cw ct cs cd) ((defAt 30).body.drop 10) (HL L cl cw ct cs P7 P8 a.size hs m none none none) (Back Q) := by
  have hh := ok.1
  have hwz : a.words.length ≤ sizeLine := Nat.le_trans (Nat.le_of_lt K.short) (by decide)
  have hpl : a.primes.length < 64 := Nat.lt_of_le_of_lt (List.length_filter_le _ _) K.short
  refine JxN_cons ?_
  refine J.ns (m' := [("strayed", .int (strayN total)), ("stray", .str (strayW a total)), ("shares", .lst (intsOf (sharesOf a cells))), ("brackets", brV a.brackets), ("primes", .lst (a.primes.map .str)), ("words", .lst (a.words.map .str)), ("total", .int total)]) hm ?_
  refine J_Assign ?_
  refine J_DC (tg := false) G.T hh ?_
  refine Src_val ?_
  repeat back_in
  refine ⟨_, Itb_lst, ?_⟩
  intro C
  refine CT_dict (rest := HL L cl cw ct cs P7 P8 a.size hs [("strayed", .int (strayN total)), ("stray", .str (strayW a total)), ("shares", .lst (intsOf (sharesOf a cells))), ("brackets", brV a.brackets), ("primes", .lst (a.primes.map .str)), ("words", .lst (a.words.map .str)), ("total", .int total)] none none none) [] strV (fun b => .int ((fun _ => 0) (strV b))) (by simpa using hwz) trivial ?_ ?_
  · intro b hb m2 K' hm2 hK
    refine Classical.byContradiction fun hno => ?_
    obtain ⟨w, hw, rfl⟩ := List.mem_map.mp hb
    refine hno ?_
    clear hno
    repeat back_in
    exact hK _ trivial
  intro m2 hm2
  refine ⟨_, m2, _, _, rfl, rfl, .refl _, fun D => ?_⟩
  rw [show dputAll strV (fun b => .int ((fun _ => 0) (strV b))) (a.words.map .str) [] = tabV a.words (fun _ => 0) from dputAll_tab (fun _ => 0) a.words [] K.nodup]
  back_in
  refine JxN_cons ?_
  refine J_For (tg := true) hh (fun _ => ⟨_, _, _, rfl⟩) ?_
  refine Src_call ?_
  repeat back_in
  refine ⟨Nat.le_of_ble_eq_true rfl, ?_⟩
  repeat back_in
  refine ⟨Nat.le_of_ble_eq_true rfl, ?_⟩
  repeat back_in
  refine ⟨Nat.le_of_ble_eq_true rfl, ?_⟩
  have hbl : a.brackets.length < 64 := by rw [Alpha.brackets, List.length_map]; exact hpl
  refine B_addl (as := a.brackets.map fun n => .lst (pairsV n)) (by rw [List.length_map]; exact Nat.le_trans (Nat.add_le_add (Nat.le_of_lt hbl) (Nat.le_refl 1)) (by decide)) ?_
  rw [show (a.brackets.map fun n => V.lst (pairsV n)) ++ [V.lst [V.tup [V.str (strayW a total), V.int 1]]] = (namedOf a total).map fun n => .lst (pairsV n) by rw [namedOf, List.map_append]; rfl]
  repeat back_in
  refine ⟨Nat.le_of_ble_eq_true rfl, ?_⟩
  refine B_addl (by
    rw [intsOf, List.length_map, sharesOf]
    exact Nat.le_trans (Nat.add_le_add (List.length_take_le _ _) (Nat.le_refl 1)) (Nat.le_trans (Nat.add_le_add (Nat.le_of_lt hpl) (Nat.le_refl 1)) (by decide))) ?_
  rw [ints_snoc]
  repeat back_in
  refine ⟨_, Src_zip, ?_⟩
  rw [intsOf, zipV_map]
  refine Loop.invMK (fun p : List (Str × Int) × Int => V.tup [.lst (pairsV p.1), .int p.2]) (fun r h => ∃ g m, layAll r g = tableOf a cells total ∧ subNs m [("strayed", .int (strayN total)), ("stray", .str (strayW a total)), ("shares", .lst (intsOf (sharesOf a cells))), ("brackets", brV a.brackets), ("primes", .lst (a.primes.map .str)), ("words", .lst (a.words.map .str)), ("total", .int total)] ∧
    h = (D, .dict (tabV a.words g)) :: HL L cl cw ct cs P7 P8 a.size hs m none none (some (.ref D))) (xs := (namedOf a total).zip (sharesOf a cells ++ [strayN total])) ?_ ?_ ?_
  · rintro ⟨named, share⟩ hp r h' ⟨g, m, hg, hm, rfl⟩ KK hK
    repeat back_in
    refine spec_lay (n := n) G ok.down K.nodup hwz (namedOf_ok K named (List.of_mem_zip hp).1) ?_
    refine J_nil (hK _ ⟨_, _, hg, ?_, rfl⟩)
    exact hm
  · rintro h' ⟨g, m, hg, hm, rfl⟩
    have hg : g = tableOf a cells total := hg
    subst hg
    refine JxN.shift ?_ (next m hm)
    refine (Shift.perm (.cons _ (List.perm_middle (l₁ := [_, _, _]) (a := (ct, _))))).trans ?_
    refine Shift.dict_cell.trans ?_
    rw [tabV_keys, tabV_vals]
    exact Shift.perm (List.perm_middle (l₁ := [_, _, _]) (a := (ct, _))).symm
  · exact ⟨_, _, rfl, ⟨rfl, rfl, rfl, rfl, rfl, rfl, rfl, trivial⟩, rfl⟩
end
end
end
section
section
variable {X : Fx} {A : Around} {hs : HS}
section
variable {n : Nat} {L f cl cw ct cs P7 P8 : Addr} {cd : Value} {Q : V → HS → Prop} {a : Alpha} {cells : List Int} {total : Int}
noncomputable def read1 (a : Alpha) (cells : List Int) (total : Int) : List Int × (Str → Int) := readOff (a.primes.zip a.brackets) (tableOf a cells total)
theorem law_read (G : Prog X) (ok : Ok A (n + 59) 90) (K : AOk a)
    (f1 : decide (∀ w ∈ a.words, (read1 a cells total).2 w = 0) = (strayN total == 0)) (f2 : strayN total = 0 → (read1 a cells total).1 = sharesOf a cells)
    (f3 : decide (∀ c ∈ cutsOf a.size, ∀ w ∈ a.words, pairing (tableOf a cells total) c w = 0) = (strayN total == 0))
    (m : List (Str × V)) (hm : subNs m [("strayed", .int (strayN total)), ("stray", .str (strayW a total)), ("shares", .lst (intsOf (sharesOf a cells))), ("brackets", brV a.brackets), ("primes", .lst (a.primes.map .str)), ("words", .lst (a.words.map .str)), ("total", .int total)])
    (next : ∀ m, subNs m [("clean", .bool (strayN total == 0)), ("strayed", .int (strayN total)), ("stray", .str (strayW a total)), ("shares", .lst (intsOf (sharesOf a cells))), ("words", .lst (a.words.map .str)), ("total", .int total)] → JxN X A (envL L f cl cw ct cs cd) ((defAt 30).body.drop 14) (HL L cl cw ct cs P7 P8 a.size hs m none none (some (tabD a.words (tableOf a cells total)))) (Back Q)) :
    JxN X A (envL L f cl cw ct cs cd) ((defAt 30).body.drop 12) (HL L cl cw ct cs P7 P8 a.size hs m none none (some (tabD a.words (tableOf a cells total)))) (Back Q) := by
  have hh := ok.1
  have hpl : a.primes.length < 64 := Nat.lt_of_le_of_lt (List.length_filter_le _ _) K.short
  refine JxN_cons ?_
  refine J.ns (m' := [("strayed", .int (strayN total)), ("stray", .str (strayW a total)), ("shares", .lst (intsOf (sharesOf a cells))), ("brackets", brV a.brackets), ("primes", .lst (a.primes.map .str)), ("words", .lst (a.words.map .str)), ("total", .int total)]) hm ?_
  refine J_Assign_Tup ?_
  repeat back_in
  refine spec_read (n := n) (bs := a.brackets) G ok.down K.nodup K.short K.strok hpl (fun p hp => (List.mem_filter.mp hp).1) K.named ?_
  repeat back_in
  refine JxN_cons ?_
  change Js X A _ _ (HL L cl cw ct cs P7 P8 a.size hs (("clean", .bool (decide (∀ w ∈ a.words, (read1 a cells total).2 w = 0))) :: ("read", .lst (intsOf (read1 a cells total).1)) :: _) none none _) _
  rw [f1]
  repeat back_in
  refine C_neb ?_
  repeat back_in
  rw [if_neg (by cases (strayN total == 0) <;> decide)]
  repeat back_in
  cases e : (strayN total == 0) with
  | true =>
    rw [if_pos rfl]
    repeat back_in
    refine C_ne_ints (n := n) ok.base ?_
    repeat back_in
    rw [f2 (by simpa using e)]
    simp only [decide_true, Bool.not_true, Bool.false_eq_true, if_false]
    repeat back_in
    refine spec_cancelled (n := n) G ok.down (Nat.le_trans K.size2 (by decide)) K.short K.nodup K.canc ?_
    rw [f3, e]
    repeat back_in
    refine C_neb ?_
    repeat back_in
    rw [if_neg (by decide)]
    repeat back_in
    rw [if_neg (by decide)]
    refine J_nil ?_
    exact next _ ⟨by rw [e]; rfl, rfl, rfl, rfl, rfl, rfl, trivial⟩
  | false =>
    rw [if_neg (by decide), if_neg (by decide)]
    repeat back_in
    refine spec_cancelled (n := n) G ok.down (Nat.le_trans K.size2 (by decide)) K.short K.nodup K.canc ?_
    rw [f3, e]
    repeat back_in
    refine C_neb ?_
    repeat back_in
    rw [if_neg (by decide)]
    repeat back_in
    rw [if_neg (by decide)]
    refine J_nil ?_
    exact next _ ⟨by rw [e]; rfl, rfl, rfl, rfl, rfl, rfl, trivial⟩
end
end
end
section
section
variable {X : Fx} {A : Around} {hs : HS}
section
variable {n : Nat} {L f cl cw ct cs P7 P8 : Addr} {cd : Value} {Q : V → HS → Prop} {a : Alpha} {cells : List Int} {total : Int}
noncomputable def cpsOf (ws : List Str) : List Int := ws.flatMap fun w => w.cps.toList.map fun c : Nat => (c : Int)
noncomputable def octA (a : Alpha) : List UInt8 := bytesOf (cpsOf a.words)
noncomputable def turnedOf (a : Alpha) : List UInt8 := swapAll (octA a) a.size a.words.length
noncomputable def mirrorOf (a : Alpha) : Int := if (a.size : Int) == 3 then 1 else -1
theorem cps_V (ws : List Str) : ((ws.map V.str).flatMap fun b => (signs (strV b)).flatMap fun c => [V.int ((strV c).cps.toList.headD 0 : Nat)]) = intsOf (cpsOf ws) := by
  unfold cpsOf intsOf
  rw [List.flatMap_map, List.map_flatMap]
  congr 1
  funext w
  rw [strV_str, signs, List.flatMap_map, List.map_map]
  show (w.cps.toList.flatMap fun c => [V.int ((c : Nat) : Int)]) = _
  rw [← List.map_eq_flatMap]
  rfl
theorem AOk.asc (K : AOk a) : ∀ w ∈ a.words, w.cps.all (· < 128) = true ∧ w.length ≤ 64 := fun w hw => by
  have := K.left
  unfold leftOk at this
  have := List.all_eq_true.mp this w hw
  simp only [Bool.and_eq_true, decide_eq_true_eq] at this
  exact ⟨this.1.1.1.1.2, this.1.1.1.1.1.2⟩
structure TurnOk (a : Alpha) : Prop where
  len : (cpsOf a.words).length = a.words.length * a.size
  low : ∀ i ∈ cpsOf a.words, 0 ≤ i ∧ i < 256
  small : Builtin.Range.small 0 ((octA a).length : Int) (a.size : Int) = true
  count : Builtin.Range.rangeSize 0 ((octA a).length : Int) (a.size : Int) = (a.words.length : Int)
theorem law_turned (G : Prog X) (ok : Ok A (n + 59) 90) (hg : A.guards = some []) (K : AOk a) (T : TurnOk a) {lv wv tv : Option V} 
    (m : List (Str × V)) (hm : subNs m [("clean", .bool (strayN total == 0)), ("strayed", .int (strayN total)), ("stray", .str (strayW a total)), ("shares", .lst (intsOf (sharesOf a cells))), ("words", .lst (a.words.map .str)), ("total", .int total)])
    (next : ∀ m, subNs m [("mirror", .int (mirrorOf a)), ("turned", .bytes (turnedOf a)), ("clean", .bool (strayN total == 0)), ("strayed", .int (strayN total)), ("stray", .str (strayW a total)), ("shares", .lst (intsOf (sharesOf a cells))), ("words", .lst (a.words.map .str)), ("total", .int total)] → JxN X A (envL L f cl cw ct cs cd) ((defAt 30).body.drop 16) (HL L cl cw ct cs P7 P8 a.size hs m lv wv tv) (Back Q)) :
    JxN X A (envL L f cl cw ct cs cd) ((defAt 30).body.drop 14) (HL L cl cw ct cs P7 P8 a.size hs m lv wv tv) (Back Q) := by
  have hh := ok.1
  have hs2 := K.size2
  have hs1 := K.size1
  have hsh := K.short
  refine JxN_call ?_
  refine J.ns (m' := [("clean", .bool (strayN total == 0)), ("strayed", .int (strayN total)), ("stray", .str (strayW a total)), ("shares", .lst (intsOf (sharesOf a cells))), ("words", .lst (a.words.map .str)), ("total", .int total)]) hm ?_
  back_in
  refine ⟨⟨_, rfl, fnCall G rfl⟩, ?_⟩
  repeat back_in
  refine J_LC2 (tg := false) (tg' := false) G.T hh ?_
  refine Src_val ?_
  repeat back_in
  refine ⟨_, Itb_lst, ?_⟩
  intro C
  refine CT_flat (rest := HL L cl cw ct cs P7 P8 a.size hs [("clean", .bool (strayN total == 0)), ("strayed", .int (strayN total)), ("stray", .str (strayW a total)), ("shares", .lst (intsOf (sharesOf a cells))), ("words", .lst (a.words.map .str)), ("total", .int total)] lv wv tv) [] (fun b => (signs (strV b)).flatMap fun c => [V.int ((strV c).cps.toList.headD 0 : Nat)]) (by
    rw [List.nil_append, cps_V, intsOf, List.length_map, T.len]
    have := Nat.mul_le_mul (Nat.le_of_lt hsh) hs2
    exact Nat.le_trans this (by decide)) trivial ?_ ?_
  · intro b hb m ys K' hsz hm hK
    refine Classical.byContradiction fun hno => ?_
    obtain ⟨w, hw, rfl⟩ := List.mem_map.mp hb
    refine hno ?_
    clear hno
    repeat back_in
    refine Jifs_nil ?_
    rw [if_pos rfl]
    refine Src_val ?_
    repeat back_in
    refine ⟨_, Itb_str (.inl rfl) (K.asc w hw).1, ?_⟩
    refine CT_flat [("word", .str w)] (fun c => [V.int ((strV c).cps.toList.headD 0 : Nat)]) hsz ⟨rfl, trivial⟩ ?_ (fun m' hm' => hK m' trivial)
    intro b hb m ys K' hsz hm hK
    refine Classical.byContradiction fun hno => ?_
    obtain ⟨ch, hch, rfl⟩ := List.mem_map.mp hb
    refine hno ?_
    clear hno
    repeat back_in
    refine Jifs_nil ?_
    rw [if_pos rfl]
    refine eltOf_in ?_
    refine J.ns (m' := [("letter", .str ⟨#[ch]⟩), ("word", .str w)]) ⟨rfl, hm.1, trivial⟩ ?_
    repeat back_in
    refine N_ord ⟨?_, hK _ ⟨rfl, trivial⟩⟩
    rw [List.length_append] at hsz; (first | lia | omega)
  · intro m' hm'
    refine ⟨_, m', _, _, rfl, rfl, .refl _, ?_⟩
    rw [List.nil_append, cps_V]
    repeat back_in
    refine N_bytes_ints hh T.low (by rw [T.len]; exact Nat.le_trans (Nat.mul_le_mul (Nat.le_of_lt hsh) hs2) (by decide)) ?_
    repeat back_in
    have hl : (bytesOf (cpsOf a.words)).length = a.words.length * a.size := by rw [bytesOf, List.length_map, T.len]
    refine spec_byteswap (n := n) (k := a.words.length) G ok.down hg hl ?_ (by (first | lia | omega)) (by (first | lia | omega)) T.small T.count ?_
    · rw [hl]; exact Nat.le_trans (Nat.mul_le_mul (Nat.le_of_lt hsh) hs2) (by decide)
    repeat back_in
    refine JxN_cons ?_
    repeat back_in
    unfold mirrorOf at next
    cases e : ((a.size : Int) == 3) with
    | true =>
      rw [if_pos rfl]
      rw [e, if_pos rfl] at next
      repeat back_in
      exact next _ ⟨rfl, rfl, rfl, rfl, rfl, rfl, rfl, rfl, trivial⟩
    | false =>
      rw [if_neg (by decide)]
      rw [e, if_neg (by decide)] at next
      repeat back_in
      exact next _ ⟨rfl, rfl, rfl, rfl, rfl, rfl, rfl, rfl, trivial⟩
end
end
end
section
section
variable {X : Fx} {A : Around} {hs : HS}
section
variable {n : Nat} {L f cl cw ct cs P7 P8 : Addr} {cd : Value} {Q : V → HS → Prop} {a : Alpha} {cells : List Int} {total : Int}
noncomputable def chrsOf (a : Alpha) (p : Nat) : List Str := (cutL (turnedOf a) (some ((p : Int) * (a.size : Int))) (some ((p : Int) * (a.size : Int) + (a.size : Int)))).map fun o => ⟨#[o.toNat]⟩
structure RevOk (a : Alpha) : Prop where
  join : ∀ p w, a.words[p]? = some w → JoinOk (Str.ofString "") (chrsOf a p) = true ∧ Txt.join (Str.ofString "") (chrsOf a p) = revS w
  mem : ∀ w ∈ a.words, revS w ∈ a.words
theorem chrs_V (b : List UInt8) : ((octs b).flatMap fun c => match c with | .int i => [V.str ⟨#[i.toNat]⟩] | _ => []) = (b.map fun o => (⟨#[o.toNat]⟩ : Str)).map .str := by
  unfold octs
  rw [List.flatMap_map, List.map_map]
  show (b.flatMap fun c => [V.str ⟨#[((c.toNat : Nat) : Int).toNat]⟩]) = _
  rw [← List.map_eq_flatMap]
  rfl
noncomputable def base16 (a : Alpha) (cells : List Int) (total : Int) : List (Str × V) := [("mirror", .int (mirrorOf a)), ("turned", .bytes (turnedOf a)), ("clean", .bool (strayN total == 0)), ("strayed", .int (strayN total)), ("stray", .str (strayW a total)), ("shares", .lst (intsOf (sharesOf a cells))), ("words", .lst (a.words.map .str)), ("total", .int total)]
theorem strayN_cases (total : Int) : strayN total = 0 ∨ strayN total = 1 ∨ strayN total = -2 := by
  have h0 := Int.fmod_nonneg_of_pos total (show (0 : Int) < 4 by decide)
  have h1 := Int.fmod_lt_of_pos total (show (0 : Int) < 4 by decide)
  unfold strayN
  have : (total.fmod 4).toNat = 0 ∨ (total.fmod 4).toNat = 1 ∨ (total.fmod 4).toNat = 2 ∨ (total.fmod 4).toNat = 3 := by (first | lia | omega)
  rcases this with e | e | e | e <;> rw [e] <;> simp
theorem strayN_bits (total : Int) : Builtin.Int.intBits (strayN total) ≤ 64 := by
  rcases strayN_cases total with e | e | e <;> rw [e] <;> decide
theorem mirrorOf_bits (a : Alpha) : Builtin.Int.intBits (mirrorOf a) ≤ 64 := by
  unfold mirrorOf
  split <;> decide
theorem law_mirror (G : Prog X) (ok : Ok A (n + 59) 90) (K : AOk a) (R : RevOk a) (T : Str → Int) (hz : (turnedOf a).length ≤ 2 ^ 20)
    (f4 : ∀ w ∈ a.words, T (revS w) - mirrorOf a * T w = strayN total * ((if (w == revS (strayW a total)) = true then (1 : Int) else 0) - mirrorOf a * if (w == strayW a total) = true then (1 : Int) else 0))
    (m : List (Str × V)) (hm : subNs m (base16 a cells total)) {lv wv : Option V}
    (next : ∀ m, subNs m (base16 a cells total) → JxN X A (envL L f cl cw ct cs cd) ((defAt 30).body.drop 17) (HL L cl cw ct cs P7 P8 a.size hs m lv wv (some (tabD a.words T))) (Back Q)) :
    JxN X A (envL L f cl cw ct cs cd) ((defAt 30).body.drop 16) (HL L cl cw ct cs P7 P8 a.size hs m lv wv (some (tabD a.words T))) (Back Q) := by
  have hh := ok.1
  have hs2 := K.size2
  have hsh := K.short
  have hsb : Builtin.Int.intBits (a.size : Int) ≤ 64 := intBits_le_iff.mpr (by rw [Int.natAbs_natCast]; exact Nat.lt_of_le_of_lt hs2 (by decide))
  have hstray : (strayW a total).length ≤ sizeLine := Nat.le_trans (K.asc _ (strayW_mem K.some)).2 (by decide)
  refine JxN_cons ?_
  refine J.ns (m' := base16 a cells total) hm ?_
  unfold base16 at *
  refine J_For (tg := true) hh (fun _ => ⟨_, _, _, rfl⟩) ?_
  refine Src_call ?_
  repeat back_in
  refine ⟨_, Src_enum, ?_⟩
  refine Loop.invK (fun r h => ∃ (p : Nat) (m : List (Str × V)), r = enumV p ((a.words.drop p).map .str) ∧ subNs m (base16 a cells total) ∧ h = HL L cl cw ct cs P7 P8 a.size hs m lv wv (some (tabD a.words T))) ?_ ?_ ⟨0, _, rfl, ⟨rfl, rfl, rfl, rfl, rfl, rfl, rfl, rfl, trivial⟩, rfl⟩
  · rintro b r h ⟨p, m, e, hm, rfl⟩ KK hK
    cases hw : a.words[p]? with
    | none =>
      rw [List.drop_eq_nil_of_le (List.getElem?_eq_none_iff.mp hw)] at e
      cases e
    | some w =>
      obtain ⟨hlt, hw'⟩ := List.getElem?_eq_some_iff.mp hw
      have hwm : w ∈ a.words := List.mem_of_getElem? hw
      rw [List.drop_eq_getElem_cons hlt, hw'] at e
      have e : b :: r = .tup [.int p, .str w] :: enumV (p + 1) ((a.words.drop (p + 1)).map .str) := e
      simp only [List.cons.injEq] at e
      obtain ⟨rfl, rfl⟩ := e
      obtain ⟨j1, j2⟩ := R.join p w hw
      have hm2 : subNs (("word", V.str w) :: ("k", V.int (p : Int)) :: m) (("word", V.str w) :: ("k", V.int (p : Int)) :: base16 a cells total) := ⟨rfl, rfl, hm⟩
      repeat back_in
      refine J.ns hm2 ?_
      unfold base16 at *
      refine J_Meth1 meth_join ?_
      repeat back_in
      refine ⟨TyAt.str, NoDct.str, ?_⟩
      refine J_LC (tg := false) G.T hh ?_
      refine Src_val ?_
      repeat back_in
      refine B_mul (.of_right hsb) ?_
      repeat back_in
      refine B_mul (.of_right hsb) ?_
      repeat back_in
      refine Sl_bytes (b := turnedOf a) (lo := some ((p : Int) * (a.size : Int))) (hi := some ((p : Int) * (a.size : Int) + (a.size : Int))) hz ?_
      refine ⟨_, Itb_bytes, ?_⟩
      intro C
      refine CT_flat (rest := HL L cl cw ct cs P7 P8 a.size hs (("word", V.str w) :: ("k", V.int (p : Int)) :: base16 a cells total) lv wv (some (tabD a.words T))) [] (fun c => match c with | .int i => [V.str ⟨#[i.toNat]⟩] | _ => []) (by
        rw [List.nil_append, chrs_V, List.length_map, List.length_map]
        exact Nat.le_trans (cutL_length_le _ _ _) (Nat.le_trans hz (by decide))) trivial ?_ ?_
      · intro b hb m ys K' hsz hm hK
        refine Classical.byContradiction fun hno => ?_
        obtain ⟨o, ho, rfl⟩ := List.mem_map.mp hb
        refine hno ?_
        clear hno
        repeat back_in
        refine Jifs_nil ?_
        rw [if_pos rfl]
        refine eltOf_in ?_
        refine J.ns (m' := [("octet", .int o.toNat)]) ⟨rfl, trivial⟩ ?_
        repeat back_in
        have ho := o.toNat_lt
        refine N_chr (by (first | lia | omega)) (by (first | lia | omega)) ⟨?_, hK _ trivial⟩
        rw [List.length_append] at hsz; (first | lia | omega)
      · intro m' hm'
        refine ⟨_, m', _, _, rfl, rfl, .refl _, ?_⟩
        rw [List.nil_append, chrs_V]
        refine N_join j1 ?_
        rw [show Txt.join (Str.ofString "") ((cutL (turnedOf a) (some ((p : Int) * (a.size : Int))) (some ((p : Int) * (a.size : Int) + (a.size : Int)))).map fun o => (⟨#[o.toNat]⟩ : Str)) = revS w from j2]
        unfold base16
        repeat back_in
        refine G_tabD (.inr rfl) (R.mem w hwm) ?_
        repeat back_in
        refine G_tabD (.inl rfl) hwm ?_
        refine B_mul (.of_left (mirrorOf_bits a)) ?_
        repeat (first | ((with_reducible show Je _ _ _ (Expr.Subscript _ (Expr.Slice none none (some _) _) _) _ _); refine J_SliceRev ?_) | back_in)
        refine ⟨_, rfl, hstray, ?_⟩
        repeat back_in
        refine B_mulib ?_
        refine B_subbi ?_
        refine B_mul (.of_left (strayN_bits total)) ?_
        rw [← f4 w hwm]
        repeat back_in
        rw [if_neg (by simp)]
        refine J_nil ?_
        refine J_nil (hK _ ⟨p + 1, _, rfl, ?_, rfl⟩)
        exact ⟨rfl, rfl, rfl, rfl, rfl, rfl, rfl, rfl, trivial⟩
  · rintro h' ⟨p, m, e, hm, rfl⟩
    unfold base16 at hm
    exact next m hm
end
end
end
section
section
variable {X : Fx} {A : Around} {hs : HS}
theorem JC.swap {f : V} {as : List V} {hs' : HS} {Q : V → HS → Prop} (p : hs.Perm hs') (S : V → Prop) (h : JC X A f as hs' fun b h1 => h1 = hs' ∧ S b) (k : ∀ b, S b → Q b hs) : JC X A f as hs Q := fun B W s vf vs r h1 h2 => by
  refine wpAny_mono (h B W s vf vs (r.perm p) h1 h2) ?_ (fun _ _ x => x)
  rintro v s' ⟨W', b, hs1, l, i, r', rfl, sb⟩
  exact ⟨W', b, hs, l, i, r'.perm p.symm, k b sb⟩
theorem perm8 {a1 a2 a3 a4 a5 a6 p : Addr × AO} : (a1 :: a2 :: a3 :: a4 :: a5 :: a6 :: p :: hs).Perm (p :: a1 :: a2 :: a3 :: a4 :: a5 :: a6 :: hs) := List.perm_middle (l₁ := [a1, a2, a3, a4, a5, a6])
theorem perm7 {a1 a2 a3 a4 a5 p : Addr × AO} : (a1 :: a2 :: a3 :: a4 :: a5 :: p :: hs).Perm (p :: a1 :: a2 :: a3 :: a4 :: a5 :: hs) := List.perm_middle (l₁ := [a1, a2, a3, a4, a5])
theorem perm78 {a1 a2 a3 a4 a5 p q : Addr × AO} : (a1 :: a2 :: a3 :: a4 :: a5 :: p :: q :: hs).Perm (p :: q :: a1 :: a2 :: a3 :: a4 :: a5 :: hs) := perm7.trans (.cons _ perm7)
section
variable {n : Nat} {L f cl cw ct cs P7 P8 : Addr} {c7 c8 : Addr} {cd : Value} {Q : V → HS → Prop} {a : Alpha} {cells : List Int} {total : Int}
theorem bits_mono {x y : Int} (h : x.natAbs ≤ y.natAbs) : Builtin.Int.intBits x ≤ Builtin.Int.intBits y :=
  intBits_le_iff.mpr (Nat.lt_of_le_of_lt h (intBits_le_iff.mp (Nat.le_refl _)))
theorem absI (x : Int) : (if x < 0 then -x else x) = (x.natAbs : Int) := by
  split <;> omega
theorem abs_bits (x : Int) : Builtin.Int.intBits (if x < 0 then -x else x) = Builtin.Int.intBits x := by
  rw [absI]
  exact Nat.le_antisymm (bits_mono (Nat.le_of_eq (Int.natAbs_natCast _))) (bits_mono (Nat.le_of_eq (Int.natAbs_natCast _).symm))
theorem law_width (G : Prog X) (ok : Ok A (n + 59) 90) (K : AOk a) {lv tv : Option V} (hne : sharesOf a cells ≠ [])
    (m : List (Str × V)) (hm : subNs m (base16 a cells total))
    (next : ∀ m (B k : Nat), subNs m (base16 a cells total) → (∀ s ∈ sharesOf a cells, Builtin.Int.intBits s ≤ B) → (∃ s ∈ sharesOf a cells, Builtin.Int.intBits s = B) → k < 16 → JxN X A (envL L f cl cw ct cs cd) ((defAt 30).body.drop 18) (HL L cl cw ct cs P7 P8 a.size hs m lv (some (.int ((12 + B + k : Nat) : Int))) tv) (Back Q)) :
    JxN X A (envL L f cl cw ct cs cd) ((defAt 30).body.drop 17) (HL L cl cw ct cs P7 P8 a.size hs m lv none tv) (Back Q) := by
  have hh := ok.1
  have hpl : a.primes.length < 64 := Nat.lt_of_le_of_lt (List.length_filter_le _ _) K.short
  refine JxN_cons ?_
  refine J.ns (m' := base16 a cells total) hm ?_
  have next := fun B k => next (base16 a cells total) B k ⟨rfl, rfl, rfl, rfl, rfl, rfl, rfl, rfl, trivial⟩
  unfold base16 at next ⊢
  repeat back_in
  refine J_Meth0 meth_bit_length ?_
  repeat back_in
  refine J_LC (tg := false) G.T hh ?_
  refine Src_val ?_
  repeat back_in
  refine ⟨_, Itb_lst, ?_⟩
  intro C
  refine CT_flat (rest := HL L cl cw ct cs P7 P8 a.size hs (base16 a cells total) lv none tv) [] (fun b => [V.int (if intV b < 0 then -intV b else intV b)]) (by
    rw [List.nil_append, intsOf, List.flatMap_map, ← List.map_eq_flatMap, List.length_map, sharesOf]
    exact Nat.le_trans (List.length_take_le _ _) (Nat.le_trans (Nat.le_of_lt hpl) (by decide))) trivial ?_ ?_
  · intro b hb m ys K' hsz hm hK
    refine Classical.byContradiction fun hno => ?_
    obtain ⟨x, hx, rfl⟩ := List.mem_map.mp hb
    refine hno ?_
    clear hno
    repeat back_in
    refine Jifs_nil ?_
    rw [if_pos rfl]
    refine eltOf_in ?_
    refine J.ns (m' := [("share", .int x)]) ⟨rfl, trivial⟩ ?_
    repeat back_in
    refine N_abs ⟨?_, hK _ trivial⟩
    rw [List.length_append] at hsz; (first | lia | omega)
  · intro m' hm'
    refine ⟨_, m', _, _, rfl, rfl, .refl _, ?_⟩
    rw [List.nil_append, show ((intsOf (sharesOf a cells)).flatMap fun b => [V.int (if intV b < 0 then -intV b else intV b)]) = intsOf ((sharesOf a cells).map fun x => if x < 0 then -x else x) by
      rw [intsOf, List.flatMap_map, ← List.map_eq_flatMap, intsOf, List.map_map]; rfl]
    repeat back_in
    refine N_max (n := n) ok.base (by simpa using hne) ?_
    intro x hx hmax
    refine ⟨TyAt.int, NoDct.int, ?_⟩
    refine N_bit_length ?_
    unfold base16
    repeat back_in
    refine B_fdiv (by decide) (noPylong (by decide)) ?_
    repeat back_in
    refine B_fmod (by decide) ?_
    repeat back_in
    have h0 := Int.fmod_nonneg_of_pos (total.fdiv 64) (show (0 : Int) < 16 by decide)
    have h1 := Int.fmod_lt_of_pos (total.fdiv 64) (show (0 : Int) < 16 by decide)
    rw [show ((12 : Int) + (Builtin.Int.intBits x : Int) + (total.fdiv 64).fmod 16) = ((12 + Builtin.Int.intBits x + ((total.fdiv 64).fmod 16).toNat : Nat) : Int) by (first | lia | omega)]
    refine next _ _ ?_ ?_ (by (first | lia | omega))
    · intro s hs
      have := hmax _ (List.mem_map.mpr ⟨s, hs, rfl⟩)
      rw [← abs_bits s]
      refine Classical.byContradiction fun hno => ?_
      obtain ⟨y, hy, rfl⟩ := List.mem_map.mp hx
      refine hno ?_
      clear hno
      refine bits_mono ?_
      rw [absI, absI] at this
      rw [absI, absI, Int.natAbs_natCast, Int.natAbs_natCast]
      exact Int.ofNat_le.mp this
    · refine Classical.byContradiction fun hno => ?_
      obtain ⟨y, hy, rfl⟩ := List.mem_map.mp hx
      refine hno ?_
      clear hno
      exact ⟨y, hy, (abs_bits y).symm⟩

theorem row_V (T : Str → Int) (ws : List Str) : ((ws.map V.str).flatMap fun b => [V.int (T (strV b))]) = intsOf (ws.map T) := by
  rw [List.flatMap_map, ← List.map_eq_flatMap, intsOf, List.map_map]
  rfl
theorem law_number (G : Prog X) (N8 : Nest X 8 0 qn8 c8 P8) (ok : Ok A (n + 59) 90) (K : AOk a) {T : Str → Int} {lv : Option V} {wd B : Nat} (hB : ∀ w ∈ a.words, Builtin.Int.intBits (T w) ≤ B) (hwd : 1 ≤ wd) (hz : B + wd * 64 ≤ 2 ^ 27)
    (m : List (Str × V)) (hm : subNs m (base16 a cells total))
    (next : ∀ m, subNs m (("number", .int (dsum wd (a.words.map T))) :: ("row", .lst (intsOf (a.words.map T))) :: base16 a cells total) → JxN X A (envL L f cl cw ct cs cd) ((defAt 30).body.drop 20) (HL L cl cw ct cs P7 P8 a.size hs m lv (some (.int (wd : Int))) (some (tabD a.words T))) (Back Q)) :
    JxN X A (envL L f cl cw ct cs cd) ((defAt 30).body.drop 18) (HL L cl cw ct cs P7 P8 a.size hs m lv (some (.int (wd : Int))) (some (tabD a.words T))) (Back Q) := by
  have hh := ok.1
  have hsh := K.short
  refine JxN_cons ?_
  refine J.ns (m' := base16 a cells total) hm ?_
  have next := next (("number", .int (dsum wd (a.words.map T))) :: ("row", .lst (intsOf (a.words.map T))) :: base16 a cells total) ⟨rfl, rfl, rfl, rfl, rfl, rfl, rfl, rfl, rfl, rfl, trivial⟩
  unfold base16 at next ⊢
  refine J_Assign_LC (tg := false) G.T hh ?_
  refine Src_val ?_
  repeat back_in
  refine ⟨_, Itb_lst, ?_⟩
  intro C
  refine CT_flat (rest := HL L cl cw ct cs P7 P8 a.size hs (base16 a cells total) lv (some (.int (wd : Int))) (some (tabD a.words T))) [] (fun b => [V.int (T (strV b))]) (by
    rw [List.nil_append, row_V, intsOf, List.length_map, List.length_map]
    exact Nat.le_trans (Nat.le_of_lt hsh) (by decide)) trivial ?_ ?_
  · intro b hb m ys K' hsz hm hK
    refine Classical.byContradiction fun hno => ?_
    obtain ⟨w, hw, rfl⟩ := List.mem_map.mp hb
    refine hno ?_
    clear hno
    repeat back_in
    refine Jifs_nil ?_
    rw [if_pos rfl]
    refine eltOf_in ?_
    refine J.ns (m' := [("word", .str w)]) ⟨rfl, trivial⟩ ?_
    repeat back_in
    refine G_tabD (.inl rfl) hw ⟨?_, hK _ trivial⟩
    rw [List.length_append] at hsz; (first | lia | omega)
  · intro m' hm'
    refine ⟨_, m', _, _, rfl, rfl, .refl _, ?_⟩
    rw [List.nil_append, row_V]
    unfold base16
    repeat back_in
    refine JxN_cons ?_
    repeat back_in
    refine JC.swap perm8 (fun b => b = .int (dsum wd (a.words.map T))) ?_ ?_
    · refine spec_digits2int (k := n) (f := 6) (B := B) G N8 (ok.le (by lia)) hwd ?_ ?_ ?_ ?_ ⟨rfl, rfl⟩
      · intro d hd
        refine Classical.byContradiction fun hno => ?_
        obtain ⟨w, hw, rfl⟩ := List.mem_map.mp hd
        refine hno ?_
        clear hno
        exact hB w hw
      · rw [List.length_map]
        have := Nat.mul_le_mul_left wd (Nat.le_of_lt hsh)
        (first | lia | omega)
      · rw [List.length_map]; (first | lia | omega)
      · rw [List.length_map]; (first | lia | omega)
    · rintro _ rfl
      repeat back_in
      exact next
end
end
end
section
section
variable {X : Fx} {A : Around} {hs : HS}
theorem dsum_inj0 {n : Nat} : ∀ {as bs : List Int}, as.length = bs.length → (∀ d ∈ as, 0 ≤ d ∧ d < 2 ^ n) → (∀ d ∈ bs, 0 ≤ d ∧ d < 2 ^ n) → dsum n as = dsum n bs → as = bs
  | [], [], _, _, _, _ => rfl
  | a :: as, b :: bs, hl, ha, hb, e => by
    simp only [dsum] at e
    have h1 := ha a List.mem_cons_self
    have h2 := hb b List.mem_cons_self
    have hp := pow_pos2 n
    have hd : a - b = 2 ^ n * (dsum n bs - dsum n as) := by rw [Int.mul_sub]; (first | lia | omega)
    have hz : dsum n bs - dsum n as = 0 := by
      rcases Int.lt_trichotomy (dsum n bs - dsum n as) 0 with q | q | q
      · have : 2 ^ n * (dsum n bs - dsum n as) ≤ 2 ^ n * (-1) := Int.mul_le_mul_of_nonneg_left (by (first | lia | omega)) (Int.le_of_lt hp)
        (first | lia | omega)
      · exact q
      · have : 2 ^ n * 1 ≤ 2 ^ n * (dsum n bs - dsum n as) := Int.mul_le_mul_of_nonneg_left (by (first | lia | omega)) (Int.le_of_lt hp)
        (first | lia | omega)
    rw [hz, Int.mul_zero] at hd
    have e1 : a = b := by (first | lia | omega)
    have e2 : as = bs := dsum_inj0 (by simpa using hl) (fun d hd => ha d (List.mem_cons_of_mem _ hd)) (fun d hd => hb d (List.mem_cons_of_mem _ hd)) (by (first | lia | omega))
    rw [e1, e2]
theorem dsum_low {n : Nat} {es : List Int} {x : Int} (h : ∀ d ∈ es, 0 ≤ d ∧ d < 2 ^ n) (hx : 1 ≤ x) : (2 : Int) ^ (n * es.length) ≤ dsum n (es ++ [x]) := by
  rw [dsum_append]
  have h1 := (dsum_range h).1
  have hp := pow_pos2 (n * es.length)
  have e : dsum n [x] = x := by simp [dsum]
  rw [e]
  have : (2 : Int) ^ (n * es.length) * 1 ≤ 2 ^ (n * es.length) * x := Int.mul_le_mul_of_nonneg_left hx (Int.le_of_lt hp)
  (first | lia | omega)
theorem dcount_dsum {n : Nat} (hn : 1 ≤ n) {es : List Int} (hne : es ≠ []) (h : ∀ d ∈ es, 0 < d ∧ d < 2 ^ n) : dcount (dsum n es) n = es.length := by
  obtain ⟨r, x, rfl⟩ : ∃ r x, es = r ++ [x] := ⟨_, _, (List.dropLast_concat_getLast hne).symm⟩
  have hx := h x (by simp)
  have h0 : ∀ d ∈ r ++ [x], 0 ≤ d ∧ d < 2 ^ n := fun d hd => ⟨Int.le_of_lt (h d hd).1, (h d hd).2⟩
  have low := dsum_low (n := n) (es := r) (x := x) (fun d hd => h0 d (by simp [hd])) hx.1
  have high := dsum_range h0
  generalize hs : dsum n (r ++ [x]) = s at low high ⊢
  have b1 : Builtin.Int.intBits s ≤ n * (r ++ [x]).length := intBits_le_iff.mpr (by
    have : (s.natAbs : Int) < ((2 ^ (n * (r ++ [x]).length) : Nat) : Int) := by
      rw [Int.natAbs_of_nonneg high.1, Int.natCast_pow]; exact high.2
    exact_mod_cast this)
  have b2 : n * r.length + 1 ≤ Builtin.Int.intBits s := by
    apply Nat.lt_of_not_le
    intro hc
    have := intBits_le_iff.mp hc
    have : (s.natAbs : Int) < ((2 ^ (n * r.length) : Nat) : Int) := by exact_mod_cast this
    rw [Int.natAbs_of_nonneg high.1, Int.natCast_pow] at this
    exact absurd low (by simpa using this)
  rw [List.length_append, List.length_singleton] at b1 ⊢
  unfold dcount
  rw [Nat.mul_add, Nat.mul_one] at b1
  apply Nat.le_antisymm
  · apply Nat.le_of_lt_succ
    rw [Nat.div_lt_iff_lt_mul hn, Nat.succ_mul, Nat.add_mul, Nat.one_mul, Nat.mul_comm r.length]
    (first | lia | omega)
  · rw [Nat.le_div_iff_mul_le hn, Nat.add_mul, Nat.one_mul, Nat.mul_comm r.length]
    (first | lia | omega)
theorem repL_int (k : Nat) (x : Int) : repL (k : Int) [V.int x] = intsOf (List.replicate k x) := by
  unfold repL intsOf
  rw [Int.toNat_natCast, List.map_replicate]
  induction k with
  | zero => rfl
  | succ k ih => rw [List.replicate_succ, List.flatten_cons, ih, List.replicate_succ]; rfl
theorem dsum_shift (n : Nat) (x : Int) : ∀ row : List Int, dsum n row + dsum n (List.replicate row.length x) = dsum n (row.map (· + x))
  | [] => rfl
  | r :: row => by
    have := dsum_shift n x row
    simp only [List.length_cons, List.replicate_succ, List.map_cons, dsum]
    rw [← this, Int.mul_add]
    (first | lia | omega)
theorem half_V (x : Int) (l : List Int) : ((intsOf l).flatMap fun b => [V.int (intV b + x)]) = intsOf (l.map (· + x)) := by
  rw [intsOf, List.flatMap_map, ← List.map_eq_flatMap, intsOf, List.map_map]; rfl
section
variable {n : Nat} {L f cl cw ct cs P7 P8 : Addr} {c7 c8 : Addr} {cd : Value} {Q : V → HS → Prop} {a : Alpha} {cells : List Int} {total : Int}
noncomputable def base20 (a : Alpha) (cells : List Int) (total : Int) (T : Str → Int) (wd : Nat) : List (Str × V) := ("number", .int (dsum wd (a.words.map T))) :: ("row", .lst (intsOf (a.words.map T))) :: base16 a cells total
theorem half_bits (wd : Nat) (h : 1 ≤ wd) : Builtin.Int.intBits ((2 : Int) ^ (wd - 1)) ≤ wd := intBits_le_iff.mpr (by
  have : (((2 : Int) ^ (wd - 1)).natAbs : Int) < ((2 ^ wd : Nat) : Int) := by
    rw [Int.natAbs_of_nonneg (Int.le_of_lt (pow_pos2 _))]
    exact_mod_cast Nat.pow_lt_pow_right (by decide) (by (first | lia | omega) : wd - 1 < wd)
  exact_mod_cast this)
theorem law_figures (G : Prog X) (N7 : Nest X 7 1 qn7 c7 P7) (N8 : Nest X 8 0 qn8 c8 P8) (ok : Ok A (n + 59) 90) (K : AOk a) {T : Str → Int} {lv : Option V} {wd : Nat} (hT : ∀ w ∈ a.words, -2 ^ (wd - 1) < T w ∧ T w < 2 ^ (wd - 1)) (hwd : 1 ≤ wd) (hz : wd * 66 ≤ 2 ^ 27)
    (m : List (Str × V)) (hm : subNs m (base20 a cells total T wd))
    (next : ∀ m, subNs m (base20 a cells total T wd) → JxN X A (envL L f cl cw ct cs cd) ((defAt 30).body.drop 22) (HL L cl cw ct cs P7 P8 a.size hs m lv (some (.int (wd : Int))) (some (tabD a.words T))) (Back Q)) :
    JxN X A (envL L f cl cw ct cs cd) ((defAt 30).body.drop 20) (HL L cl cw ct cs P7 P8 a.size hs m lv (some (.int (wd : Int))) (some (tabD a.words T))) (Back Q) := by
  have hh := ok.1
  have hsh := K.short
  have hhalf : (2 : Int) ^ ((wd : Int) - 1).toNat = 2 ^ (wd - 1) := congrArg _ (Int.toNat_sub wd 1)
  have h2 : Builtin.Int.intBits 2 = 2 := by decide
  have hpow : (2 : Int) ^ (wd - 1) + 2 ^ (wd - 1) = 2 ^ wd := by
    rw [← Int.two_mul, ← Int.pow_succ']; congr 1; (first | lia | omega)
  have hdig : ∀ d ∈ (a.words.map T).map (· + 2 ^ (wd - 1)), 0 < d ∧ d < 2 ^ wd := by
    intro d hd
    refine Classical.byContradiction fun hno => ?_
    obtain ⟨x, hx, rfl⟩ := List.mem_map.mp hd
    refine hno ?_
    clear hno
    refine Classical.byContradiction fun hno => ?_
    obtain ⟨w, hw, rfl⟩ := List.mem_map.mp hx
    refine hno ?_
    clear hno
    have := hT w hw
    (first | lia | omega)
  refine JxN_cons ?_
  refine J.ns (m' := base20 a cells total T wd) hm ?_
  unfold base20 base16 at next ⊢
  repeat (first | ((with_reducible show Je _ _ _ (Expr.BinOp (Expr.List _ _) Operator.Mult _ _) _ _); refine J_MulDisp ?_) | back_in)
  refine B_pow (by (first | lia | omega)) (by rw [h2]; (first | lia | omega)) ?_
  rw [hhalf]
  repeat back_in
  refine ⟨Nat.le_of_ble_eq_true rfl, ?_⟩
  repeat back_in
  refine N_len_lst (by rw [List.length_map]; (first | lia | omega)) ?_
  rw [List.length_map]
  refine ⟨_, rfl, by simp, by (first | lia | omega), by (first | lia | omega), ?_, .inl ?_⟩
  · rw [Int.toNat_natCast]; simp only [List.length_cons, List.length_nil]; (first | lia | omega)
  rw [repL_int]
  repeat back_in
  refine JC.swap perm8 (fun b => b = .int (dsum wd (List.replicate a.words.length (2 ^ (wd - 1))))) ?_ ?_
  · refine spec_digits2int (k := n) (f := 6) (B := wd) G N8 (ok.le (by lia)) hwd ?_ ?_ ?_ ?_ ⟨rfl, rfl⟩
    · intro d hd
      rw [(List.mem_replicate.mp hd).2]
      exact half_bits wd hwd
    · rw [List.length_replicate]
      have := Nat.mul_le_mul_left wd (Nat.le_of_lt hsh)
      (first | lia | omega)
    · rw [List.length_replicate]; (first | lia | omega)
    · rw [List.length_replicate]; (first | lia | omega)
  rintro _ rfl
  repeat back_in
  refine spec_add_int (n := n) G ok.down ?_
  rw [show dsum wd (a.words.map T) + dsum wd (List.replicate a.words.length (2 ^ (wd - 1))) = dsum wd ((a.words.map T).map (· + 2 ^ (wd - 1))) by
    rw [← dsum_shift, List.length_map]]
  repeat back_in
  refine JC.swap perm7 (fun b => b = .lst (intsOf ((a.words.map T).map (· + 2 ^ (wd - 1))))) ?_ ?_
  · have hne : (a.words.map T).map (· + 2 ^ (wd - 1)) ≠ [] := by
      have := K.some
      simpa using this
    have hdc := dcount_dsum hwd hne hdig
    have hrg := dsum_range (n := wd) (ds := (a.words.map T).map (· + 2 ^ (wd - 1))) fun d hd => ⟨Int.le_of_lt (hdig d hd).1, (hdig d hd).2⟩
    have hlen : ((a.words.map T).map (· + (2 : Int) ^ (wd - 1))).length < 64 := by rw [List.length_map, List.length_map]; exact hsh
    have hb : Builtin.Int.intBits (dsum wd ((a.words.map T).map (· + 2 ^ (wd - 1)))) ≤ wd * 64 := intBits_le_iff.mpr (by
      have h3 : (2 : Int) ^ (wd * ((a.words.map T).map (· + (2 : Int) ^ (wd - 1))).length) ≤ 2 ^ (wd * 64) := by
        exact_mod_cast Nat.pow_le_pow_right (by decide : 0 < 2) (Nat.mul_le_mul_left wd (Nat.le_of_lt hlen))
      have : ((dsum wd ((a.words.map T).map (· + 2 ^ (wd - 1)))).natAbs : Int) < ((2 ^ (wd * 64) : Nat) : Int) := by
        rw [Int.natAbs_of_nonneg hrg.1, Int.natCast_pow]
        exact Int.lt_of_lt_of_le hrg.2 h3
      exact_mod_cast this)
    refine spec_int2digits (k := n) (f := 6) G N7 (ok.le (by lia)) hwd hrg.1 (by (first | lia | omega)) (by rw [hdc]; (first | lia | omega)) (by rw [hdc]; (first | lia | omega)) ?_
    intro ds d1 d2 d3
    refine ⟨rfl, ?_⟩
    rw [dsum_inj0 (d1.trans hdc) d2 (fun d hd => ⟨Int.le_of_lt (hdig d hd).1, (hdig d hd).2⟩) d3]
  rintro _ rfl
  repeat back_in
  refine JxN_cons ?_
  repeat back_in
  refine J_LC (tg := false) G.T hh ?_
  refine Src_val ?_
  repeat back_in
  refine ⟨_, Itb_lst, ?_⟩
  intro C
  refine CT_flat (rest := HL L cl cw ct cs P7 P8 a.size hs (("figures", .lst (intsOf ((a.words.map T).map (· + 2 ^ (wd - 1))))) :: base20 a cells total T wd) lv (some (.int (wd : Int))) (some (tabD a.words T))) [] (fun b => [V.int (intV b + 2 ^ (wd - 1))]) (by
    rw [List.nil_append, intsOf, List.flatMap_map, ← List.map_eq_flatMap, List.length_map, List.length_map]
    exact Nat.le_trans (Nat.le_of_lt hsh) (by decide)) trivial ?_ ?_
  · intro b hb m ys K' hsz hm hK
    refine Classical.byContradiction fun hno => ?_
    obtain ⟨x, hx, rfl⟩ := List.mem_map.mp hb
    refine hno ?_
    clear hno
    repeat back_in
    refine Jifs_nil ?_
    rw [if_pos rfl]
    refine eltOf_in ?_
    refine J.ns (m' := [("share", .int x)]) ⟨rfl, trivial⟩ ?_
    repeat back_in
    refine B_pow (by (first | lia | omega)) (by rw [h2]; (first | lia | omega)) ?_
    rw [hhalf]
    repeat back_in
    refine ⟨?_, hK _ trivial⟩
    rw [List.length_append] at hsz; (first | lia | omega)
  · intro m' hm'
    refine ⟨_, m', _, _, rfl, rfl, .refl _, ?_⟩
    rw [List.nil_append, half_V _ _]
    refine C_ne_ints (n := n) ok.base ?_
    unfold base20 base16
    repeat back_in
    rw [if_neg (by simp)]
    repeat back_in
    refine J_tVal ?_
    repeat back_in
    refine N_isi_bytes ?_
    repeat back_in
    rw [if_neg (by decide)]
    repeat back_in
    rw [if_neg (by decide)]
    refine J_nil ?_
    exact next _ ⟨rfl, rfl, rfl, rfl, rfl, rfl, rfl, rfl, rfl, rfl, trivial⟩
end
end
end
section
section
variable {X : Fx} {A : Around} {hs : HS}
section
variable {n : Nat} {L f cl cw ct cs P7 P8 : Addr} {c7 c8 : Addr} {cd : Value} {Q : V → HS → Prop} {a : Alpha} {cells : List Int} {total : Int}
noncomputable def oneOf (total : Int) : Int := 1 - 2 * (total.fdiv 16).fmod 2
noncomputable def twoOf (total : Int) : Int := 1 - 2 * (total.fdiv 32).fmod 2
theorem sgn_of (x : Int) : 1 - 2 * x.fmod 2 = 1 ∨ 1 - 2 * x.fmod 2 = -1 := by
  have h0 := Int.fmod_nonneg_of_pos x (show (0 : Int) < 2 by decide)
  have h1 := Int.fmod_lt_of_pos x (show (0 : Int) < 2 by decide)
  (first | lia | omega)
theorem oneOf_cases (total : Int) : oneOf total = 1 ∨ oneOf total = -1 := sgn_of _
theorem twoOf_cases (total : Int) : twoOf total = 1 ∨ twoOf total = -1 := sgn_of _
theorem sgn_bits {x : Int} (h : x = 1 ∨ x = -1) : Builtin.Int.intBits x ≤ 64 := by
  rcases h with e | e <;> rw [e] <;> decide
noncomputable def divd (a : Alpha) (total : Int) (T : Str → Int) (wd : Nat) : Int := oneOf total * dsum wd (a.words.map (leftOf a.words T))
noncomputable def divr (a : Alpha) (total : Int) (T : Str → Int) (wd : Nat) : Int := twoOf total * dsum wd (a.words.map T)
noncomputable def base27 (a : Alpha) (cells : List Int) (total : Int) (T : Str → Int) (wd : Nat) : List (Str × V) := ("divisor", .int (divr a total T wd)) :: ("dividend", .int (divd a total T wd)) :: ("two", .int (twoOf total)) :: ("one", .int (oneOf total)) :: base20 a cells total T wd
theorem law_left (G : Prog X) (N8 : Nest X 8 0 qn8 c8 P8) (ok : Ok A (n + 59) 90) (K : AOk a) {T : Str → Int} {wd B : Nat} {tv : Option V} (ht : tv = some (tabD a.words T)) (hB : ∀ w ∈ a.words, Builtin.Int.intBits (leftOf a.words T w) ≤ B) (hwd : 1 ≤ wd) (hz : B + wd * 64 ≤ 2 ^ 27)
    (m : List (Str × V)) (hm : subNs m (base20 a cells total T wd))
    (next : ∀ m lv, subNs m (base27 a cells total T wd) → JxN X A (envL L f cl cw ct cs cd) ((defAt 30).body.drop 27) (HL L cl cw ct cs P7 P8 a.size hs m lv (some (.int (wd : Int))) tv) (Back Q)) :
    JxN X A (envL L f cl cw ct cs cd) ((defAt 30).body.drop 22) (HL L cl cw ct cs P7 P8 a.size hs m none (some (.int (wd : Int))) tv) (Back Q) := by
  have hh := ok.1
  have hsh := K.short
  have next := fun lv => next (base27 a cells total T wd) lv ⟨rfl, rfl, rfl, rfl, rfl, rfl, rfl, rfl, rfl, rfl, rfl, rfl, rfl, rfl, trivial⟩
  refine JxN_cons ?_
  refine J.ns (m' := base20 a cells total T wd) hm ?_
  unfold base27 base20 base16 divr divd at next
  unfold base20 base16
  repeat back_in
  refine B_fdiv (by decide) (noPylong (by decide)) ?_
  repeat back_in
  refine B_fmod (by decide) ?_
  refine B_mul (.of_left (by decide)) ?_
  repeat back_in
  refine JxN_cons ?_
  repeat back_in
  refine B_fdiv (by decide) (noPylong (by decide)) ?_
  repeat back_in
  refine B_fmod (by decide) ?_
  refine B_mul (.of_left (by decide)) ?_
  repeat back_in
  refine JxN_cons ?_
  subst ht
  repeat back_in
  refine spec_left (n := n) G ok.down hsh K.nodup K.left ?_
  repeat back_in
  refine JxN_cons ?_
  repeat back_in
  refine J_LC (tg := false) G.T hh ?_
  refine Src_val ?_
  repeat back_in
  refine ⟨_, Itb_lst, ?_⟩
  intro C
  refine CT_flat (rest := HL L cl cw ct cs P7 P8 a.size hs (("two", .int (twoOf total)) :: ("one", .int (oneOf total)) :: base20 a cells total T wd) (some (tabD a.words (leftOf a.words T))) (some (.int (wd : Int))) (some (tabD a.words T))) [] (fun b => [V.int (leftOf a.words T (strV b))]) (by
    rw [List.nil_append, row_V, intsOf, List.length_map, List.length_map]
    exact Nat.le_trans (Nat.le_of_lt hsh) (by decide)) trivial ?_ ?_
  · intro b hb m ys K' hsz hm hK
    refine Classical.byContradiction fun hno => ?_
    obtain ⟨w, hw, rfl⟩ := List.mem_map.mp hb
    refine hno ?_
    clear hno
    repeat back_in
    refine Jifs_nil ?_
    rw [if_pos rfl]
    refine eltOf_in ?_
    refine J.ns (m' := [("word", .str w)]) ⟨rfl, trivial⟩ ?_
    repeat back_in
    refine G_tabD (.inl rfl) hw ⟨?_, hK _ trivial⟩
    rw [List.length_append] at hsz; (first | lia | omega)
  · intro m' hm'
    refine ⟨_, m', _, _, rfl, rfl, .refl _, ?_⟩
    rw [List.nil_append, row_V]
    unfold base20 base16
    repeat back_in
    refine JC.swap perm8 (fun b => b = .int (dsum wd (a.words.map (leftOf a.words T)))) ?_ ?_
    · refine spec_digits2int (k := n) (f := 6) (B := B) G N8 (ok.le (by lia)) hwd ?_ ?_ ?_ ?_ ⟨rfl, rfl⟩
      · intro d hd
        refine Classical.byContradiction fun hno => ?_
        obtain ⟨w, hw, rfl⟩ := List.mem_map.mp hd
        refine hno ?_
        clear hno
        exact hB w hw
      · rw [List.length_map]
        have := Nat.mul_le_mul_left wd (Nat.le_of_lt hsh)
        (first | lia | omega)
      · rw [List.length_map]; (first | lia | omega)
      · rw [List.length_map]; (first | lia | omega)
    rintro _ rfl
    repeat back_in
    refine spec_mul (n := n) G ok.down (.of_left (sgn_bits (sgn_of _))) ?_
    repeat back_in
    refine JxN_cons ?_
    repeat back_in
    refine spec_mul (n := n) G ok.down (.of_left (sgn_bits (twoOf_cases _))) ?_
    repeat back_in
    exact next _
end
end
end
section
section
variable {X : Fx} {A : Around} {hs : HS}
section
variable {n : Nat} {L f cl cw ct cs P7 P8 : Addr} {c7 c8 : Addr} {cd : Value} {Q : V → HS → Prop} {a : Alpha} {cells : List Int} {total : Int}
theorem sgn2_bits {x y : Int} (h : x = 1 ∨ x = -1) (h' : y = 1 ∨ y = -1) : Builtin.Int.intBits (x * y) ≤ 64 := by
  rcases h with e | e <;> rcases h' with e' | e' <;> rw [e, e'] <;> decide
theorem quo_mul {x y : Int} (hy : y ≠ 0) (F : DivFit x y) : IntMulOk (quo x y) y := by
  have hq := quo_rest (a := x) hy
  have hb1 : 1 ≤ Builtin.Int.intBits y := bits_pos hy
  have hle : (quo x y).natAbs ≤ x.natAbs + 1 := by
    have e1 := hq.1
    have key : ∀ q r z : Int, q * y + r = z → r.natAbs < y.natAbs → q.natAbs ≤ z.natAbs + 1 := fun q r z e h => by
      have hm : (q * y).natAbs = q.natAbs * y.natAbs := Int.natAbs_mul q y
      have h1 : (q * y).natAbs ≤ z.natAbs + r.natAbs := by
        rw [show q * y = z - r by omega]
        exact Int.natAbs_sub_le z r
      rw [hm] at h1
      have hy1 : 1 ≤ y.natAbs := by (first | lia | omega)
      rcases Nat.lt_or_ge q.natAbs (z.natAbs + 2) with g | g
      · (first | lia | omega)
      · exfalso
        have : (z.natAbs + 2) * y.natAbs ≤ q.natAbs * y.natAbs := Nat.mul_le_mul_right _ g
        have : z.natAbs * 1 ≤ z.natAbs * y.natAbs := Nat.mul_le_mul_left _ hy1
        rw [Nat.add_mul] at *
        (first | lia | omega)
    exact key _ _ _ e1 (by
      rcases hq.2 with ⟨a1, a2⟩ | ⟨a1, a2⟩
      · exact Int.natAbs_lt_natAbs_of_nonneg_of_lt a1 a2
      · have := Int.natAbs_lt_natAbs_of_nonneg_of_lt (Int.neg_nonneg_of_nonpos a2) (Int.neg_lt_neg a1)
        rwa [Int.natAbs_neg, Int.natAbs_neg] at this)
  have hb : Builtin.Int.intBits (quo x y) ≤ Builtin.Int.intBits x + 1 := intBits_le_iff.mpr (by
    have := (intBits_le_iff (x := x) (m := Builtin.Int.intBits x)).mp (Nat.le_refl _)
    rw [Nat.pow_succ]
    have := Nat.one_le_two_pow (n := Builtin.Int.intBits x)
    (first | lia | omega))
  have := F.z
  unfold IntMulOk Builtin.Int.intTooBig
  intro h
  simp only [Bool.and_eq_true, decide_eq_true_eq] at h
  have hl : (bitsLine : Int) = 2 ^ 27 := by decide
  (first | lia | omega)
theorem law_end (G : Prog X) (N7 : Nest X 7 1 qn7 c7 P7) (N8 : Nest X 8 0 qn8 c8 P8) (ok : Ok A (n + 59) 90) (hfr : A.frames = some [envL L f cl cw ct cs cd]) (K : AOk a) {T : Str → Int} {wd : Nat} {lv wv tv : Option V}
    (f0 : divr a total T wd = 0 ↔ a.words.map T = List.replicate a.words.length 0)
    (fd : divr a total T wd ≠ 0 → DivFit (divd a total T wd) (divr a total T wd))
    (f6 : divr a total T wd ≠ 0 → (decide ([quo (divd a total T wd) (divr a total T wd), rest (divd a total T wd) (divr a total T wd)] = [oneOf total * twoOf total * (a.size : Int), 0]) == (strayN total == 0)) = true)
    (m : List (Str × V)) (hm : subNs m (base27 a cells total T wd))
    (h : Q (.bool true) ((P7, .tab (posAt 7 1) qn7) :: (P8, .tab (posAt 8 0) qn8) :: hs)) :
    JxN X A (envL L f cl cw ct cs cd) ((defAt 30).body.drop 27) (HL L cl cw ct cs P7 P8 a.size hs m lv wv tv) (Back Q) := by
  have hh := ok.1
  have hsh := K.short
  have fin : ∀ m lv wv tv, Back Q (.ret (.bool true)) (HL L cl cw ct cs P7 P8 a.size hs m lv wv tv) := fun m lv wv tv => ⟨_, .cons _ (.cons _ (.cons _ (.cons _ (.cons _ (.refl _))))), h⟩
  refine JxN_cons ?_
  refine J.ns (m' := base27 a cells total T wd) hm ?_
  by_cases e : divr a total T wd = 0
  · unfold base27 base20 base16
    rw [e]
    repeat back_in
    refine spec_goes_zero (n := n) G ok.down hfr ?_ ?_
    · intro env he
      rw [List.mem_singleton.mp he]
      exact ⟨(fun x => ScopeKind.noConfusion x), L, _, rfl, .head _⟩
    repeat back_in
    refine JxN_cons ?_
    repeat (first | ((with_reducible show Je _ _ _ (Expr.BinOp (Expr.List _ _) Operator.Mult _ _) _ _); refine J_MulDisp ?_) | back_in)
    refine ⟨Nat.le_of_ble_eq_true rfl, ?_⟩
    repeat back_in
    refine N_len_lst (by rw [List.length_map]; (first | lia | omega)) ?_
    rw [List.length_map]
    refine ⟨_, rfl, by simp, by (first | lia | omega), by (first | lia | omega), ?_, .inl ?_⟩
    · rw [Int.toNat_natCast]; simp only [List.length_cons, List.length_nil]; (first | lia | omega)
    rw [repL_int]
    refine C_eq_ints (n := n) ok.base ?_
    rw [decide_eq_true (f0.mp e)]
    repeat back_in
    rw [if_pos rfl]
    repeat back_in
    refine C_eqt ?_
    exact fin _ _ _ _
  · have hq := quo_rest (a := divd a total T wd) e
    have fd := fd e
    have f6 := f6 e
    have hmul := quo_mul e fd
    unfold base27 base20 base16
    repeat back_in
    refine JC.swap perm78 (fun b => b = .tup [.int (quo (divd a total T wd) (divr a total T wd)), .int (rest (divd a total T wd) (divr a total T wd))]) ?_ ?_
    · exact spec_goes (k := n) G N7 N8 (ok.le (by lia)) e fd ⟨rfl, rfl⟩
    rintro _ rfl
    generalize divr a total T wd = y at *
    generalize divd a total T wd = x at *
    generalize hquo : quo x y = q at *
    generalize hrest : rest x y = r at *
    repeat back_in
    refine JxN_cons ?_
    repeat (first | ((with_reducible show Je _ _ _ (Expr.BinOp (Expr.List _ _) Operator.Mult _ _) _ _); refine J_MulDisp ?_) | back_in)
    refine ⟨Nat.le_of_ble_eq_true rfl, ?_⟩
    repeat back_in
    refine N_len_lst (by rw [List.length_map]; (first | lia | omega)) ?_
    rw [List.length_map]
    refine ⟨_, rfl, by simp, by (first | lia | omega), by (first | lia | omega), ?_, .inl ?_⟩
    · rw [Int.toNat_natCast]; simp only [List.length_cons, List.length_nil]; (first | lia | omega)
    rw [repL_int]
    refine C_eq_ints (n := n) ok.base ?_
    rw [decide_eq_false (fun hc => e (f0.mpr hc))]
    repeat back_in
    rw [if_neg (by decide)]
    refine J_nil ?_
    have last : JxN X A (envL L f cl cw ct cs cd) ((defAt 30).body.drop 30) (HL L cl cw ct cs P7 P8 a.size hs [("told", .tup [.int q, .int r]), ("two", .int (twoOf total)), ("one", .int (oneOf total)), ("clean", .bool (strayN total == 0))] lv wv tv) (Back Q) := by
      refine JxN_cons ?_
      repeat back_in
      refine B_mul (.of_left (sgn_bits (oneOf_cases total))) ?_
      repeat back_in
      refine B_mul (.of_left (sgn2_bits (oneOf_cases total) (twoOf_cases total))) ?_
      repeat back_in
      refine ⟨Nat.le_of_ble_eq_true rfl, ?_⟩
      refine C_eq_tints (n := n) (as := [q, r]) (bs := [oneOf total * twoOf total * (a.size : Int), 0]) ok.base ?_
      repeat back_in
      refine C_eqb ?_
      rw [f6]
      exact fin _ _ _ _
    refine JxN_cons ?_
    repeat back_in
    refine G_tup (b := .int q) (by decide) (by decide) rfl ?_
    repeat back_in
    refine B_mul hmul ?_
    repeat back_in
    refine G_tup (b := .int r) (by decide) (by decide) rfl ?_
    repeat back_in
    rw [if_neg (by simp [hq.1])]
    repeat back_in
    refine J_tCmp2 ?_
    repeat back_in
    refine G_tup (b := .int r) (by decide) (by decide) rfl ?_
    repeat back_in
    by_cases h0 : 0 ≤ r
    · rw [if_pos (decide_eq_true h0)]
      repeat back_in
      by_cases h1 : r < y
      · rw [if_pos (decide_eq_true h1), if_neg (by decide)]
        repeat back_in
        rw [if_neg (by decide)]
        refine J_nil ?_
        refine JxN.shift (Shift.ns .here ?_) last; exact ⟨rfl, rfl, rfl, rfl, trivial⟩
      · rw [if_neg (by simp [h1])]
        refine J_or_cons ?_
        refine J_tCmp2 ?_
        repeat back_in
        refine G_tup (b := .int r) (by decide) (by decide) rfl ?_
        repeat back_in
        rw [if_pos (decide_eq_true (by (first | lia | omega)))]
        repeat back_in
        rw [if_pos (decide_eq_true (by (first | lia | omega))), if_neg (by decide)]
        repeat back_in
        rw [if_neg (by decide)]
        refine J_nil ?_
        refine JxN.shift (Shift.ns .here ?_) last; exact ⟨rfl, rfl, rfl, rfl, trivial⟩
    · rw [if_neg (by simp [h0]), if_neg (by decide)]
      refine J_or_cons ?_
      refine J_tCmp2 ?_
      repeat back_in
      refine G_tup (b := .int r) (by decide) (by decide) rfl ?_
      repeat back_in
      rw [if_pos (decide_eq_true (by (first | lia | omega)))]
      repeat back_in
      rw [if_pos (decide_eq_true (by (first | lia | omega))), if_neg (by decide)]
      repeat back_in
      rw [if_neg (by decide)]
      refine J_nil ?_
      refine JxN.shift (Shift.ns .here ?_) last; exact ⟨rfl, rfl, rfl, rfl, trivial⟩
end
end
end
section
section
variable {X : Fx} {A : Around} {hs : HS}
noncomputable def LawOk (a : Alpha) (cells : List Int) (total : Int) : Prop :=
  (decide (∀ w ∈ a.words, (read1 a cells total).2 w = 0) = (strayN total == 0)) ∧
  (strayN total = 0 → (read1 a cells total).1 = sharesOf a cells) ∧
  (decide (∀ c ∈ cutsOf a.size, ∀ w ∈ a.words, pairing (tableOf a cells total) c w = 0) = (strayN total == 0)) ∧
  (∀ w ∈ a.words, tableOf a cells total (revS w) - mirrorOf a * tableOf a cells total w = strayN total * ((if (w == revS (strayW a total)) = true then (1 : Int) else 0) - mirrorOf a * if (w == strayW a total) = true then (1 : Int) else 0)) ∧
  (sharesOf a cells ≠ []) ∧
  (∀ B k : Nat, (∀ s ∈ sharesOf a cells, Builtin.Int.intBits s ≤ B) → (∃ s ∈ sharesOf a cells, Builtin.Int.intBits s = B) → k < 16 →
    (12 + B + k) * 66 ≤ 2 ^ 27 ∧ (∀ w ∈ a.words, -2 ^ (12 + B + k - 1) < tableOf a cells total w ∧ tableOf a cells total w < 2 ^ (12 + B + k - 1)) ∧ (∀ w ∈ a.words, Builtin.Int.intBits (leftOf a.words (tableOf a cells total) w) ≤ B + 20) ∧
    (divr a total (tableOf a cells total) (12 + B + k) = 0 ↔ a.words.map (tableOf a cells total) = List.replicate a.words.length 0) ∧
    (divr a total (tableOf a cells total) (12 + B + k) ≠ 0 → DivFit (divd a total (tableOf a cells total) (12 + B + k)) (divr a total (tableOf a cells total) (12 + B + k))) ∧
    (divr a total (tableOf a cells total) (12 + B + k) ≠ 0 → (decide ([quo (divd a total (tableOf a cells total) (12 + B + k)) (divr a total (tableOf a cells total) (12 + B + k)), rest (divd a total (tableOf a cells total) (12 + B + k)) (divr a total (tableOf a cells total) (12 + B + k))] = [oneOf total * twoOf total * (a.size : Int), 0]) == (strayN total == 0)) = true))
section
variable {n : Nat} {L f cl cw ct cs P7 P8 : Addr} {c7 c8 : Addr} {cd : Value} {Q : V → HS → Prop} {a : Alpha} {cells : List Int} {total : Int}
theorem law_rest (G : Prog X) (N7 : Nest X 7 1 qn7 c7 P7) (N8 : Nest X 8 0 qn8 c8 P8) (ok : Ok A (n + 59) 90) (hg : A.guards = some []) (hfr : A.frames = some [envL L f cl cw ct cs cd]) (K : AOk a) (T : TurnOk a) (R : RevOk a) (F : LawOk a cells total) (hcl : cells.length = 8)
    (m : List (Str × V)) (hm : subNs m [("letters", .str a.letters), ("total", .int total), ("cells", .lst (intsOf cells))])
    (h : Q (.bool true) ((P7, .tab (posAt 7 1) qn7) :: (P8, .tab (posAt 8 0) qn8) :: hs)) :
    JxN X A (envL L f cl cw ct cs cd) ((defAt 30).body.drop 3) (HL L cl cw ct cs P7 P8 a.size hs m none none none) (Back Q) := by
  have hlen : (turnedOf a).length ≤ 2 ^ 20 := by
    have e : ∀ (l : List Nat) (c : List UInt8), (l.foldl (fun c blk => swapBlk (octA a) a.size blk c) c).length = c.length := by
      intro l
      induction l with
      | nil => intro c; rfl
      | cons b l ih => intro c; rw [List.foldl_cons, ih]; exact swapBlk_len _ _ _ _ _
    unfold turnedOf swapAll
    rw [e, List.length_replicate, octA, bytesOf, List.length_map, T.len]
    have := Nat.mul_le_mul (Nat.le_of_lt K.short) K.size2
    (first | lia | omega)
  refine law_words (n := n) G ok K m hm fun m hm => ?_
  refine law_primes (n := n) G ok K (fun w hw => (K.asc w hw).2) m hm fun m hm => ?_
  refine law_brackets (n := n) G ok K m hm fun m hm => ?_
  refine law_shares (n := n) G ok K hcl m hm fun m hm => ?_
  refine law_table (n := n) G ok K hcl m hm fun m hm => ?_
  refine law_read (n := n) G ok K F.1 F.2.1 F.2.2.1 m hm fun m hm => ?_
  refine law_turned (n := n) G ok hg K T m hm fun m hm => ?_
  refine law_mirror (n := n) G ok K R _ hlen F.2.2.2.1 m hm fun m hm => ?_
  refine law_width (n := n) G ok K F.2.2.2.2.1 m hm fun m B k hm h1 h2 h3 => ?_
  refine Classical.byContradiction fun hno => ?_
  obtain ⟨w1, w2, w3, w4, w5, w6⟩ := F.2.2.2.2.2 B k h1 h2 h3
  refine hno ?_
  clear hno
  refine law_number (n := n) (B := 12 + B + k) G N8 ok K (fun w hw => ?_) (by (first | lia | omega)) (by (first | lia | omega)) m hm fun m hm => ?_
  · obtain ⟨e1, e2⟩ := w2 w hw
    refine intBits_le_iff.mpr ?_
    have : ((tableOf a cells total w).natAbs : Int) < ((2 ^ (12 + B + k) : Nat) : Int) := by
      have e3 : (2 : Int) ^ (12 + B + k) = 2 ^ (12 + B + k - 1) * 2 := by rw [← Int.pow_succ]; congr 1; (first | lia | omega)
      rw [Int.natCast_pow]
      show _ < (2 : Int) ^ _
      rw [e3]
      (first | lia | omega)
    exact_mod_cast this
  refine law_figures (n := n) G N7 N8 ok K w2 (by (first | lia | omega)) w1 m hm fun m hm => ?_
  refine law_left (n := n) (B := B + 20) G N8 ok K rfl w3 (by (first | lia | omega)) (by (first | lia | omega)) m hm fun m lv hm => ?_
  exact law_end (n := n) G N7 N8 ok hfr K w4 w5 w6 m hm h
end
theorem spec_law {n : Nat} {ns : List Int} {c7 P7 c8 P8 : Addr} {Q : V → HS → Prop} (G : Prog X) (N7 : Nest X 7 1 qn7 c7 P7) (N8 : Nest X 8 0 qn8 c8 P8) (ok : Ok A (n + 60) 1) (hg : A.guards = some []) (hfr : A.frames = some []) (hz : ns.length ≤ 63)
    (T4 : TurnOk alpha4) (R4 : RevOk alpha4) (T3 : TurnOk alpha3) (R3 : RevOk alpha3) (F4 : LawOk alpha4 (cellsOf ns) (cellsOf ns).sum) (F3 : LawOk alpha3 (cellsOf ns) (cellsOf ns).sum) (hcl : (cellsOf ns).length = 8)
    (h : Q (.bool true) ((P7, .tab (posAt 7 1) qn7) :: (P8, .tab (posAt 8 0) qn8) :: hs)) : JCN X A (.fn "law") [.lst (intsOf ns)] ((P7, .tab (posAt 7 1) qn7) :: (P8, .tab (posAt 8 0) qn8) :: hs) Q := by
  refine JCN_def (d := defAt 30) (names := ["script"]) (n := n + 59) (u := 0) G.T (G.fn "law" 30 rfl).1 ok rfl (bind1 fun _ _ _ _ => rfl) (by rfl) (by decide) ?_
  intro L f cd cl cw ct cs
  have ok' := ok.deeper (n := n + 59) (envF (defAt 30) L f [("left", cl), ("width", cw), ("table", ct), ("size", cs)] cd)
  have hh := ok'.1
  show JxN X (A.deeper (envF (defAt 30) L f [("left", cl), ("width", cw), ("table", ct), ("size", cs)] cd)) _ _ _ _
  have hfr' : (A.deeper (envF (defAt 30) L f [("left", cl), ("width", cw), ("table", ct), ("size", cs)] cd)).frames = some [envF (defAt 30) L f [("left", cl), ("width", cw), ("table", ct), ("size", cs)] cd] := by show A.frames.map _ = _; rw [hfr]; rfl
  have hg' : (A.deeper (envF (defAt 30) L f [("left", cl), ("width", cw), ("table", ct), ("size", cs)] cd)).guards = some [] := hg
  generalize A.deeper (envF (defAt 30) L f [("left", cl), ("width", cw), ("table", ct), ("size", cs)] cd) = A' at ok' hg' hfr' hh ⊢
  refine JxN_cons ?_
  repeat back_in
  refine spec_cells (n := n) G ok'.down (Nat.le_trans hz (by decide)) ?_
  repeat back_in
  refine JxN_cons ?_
  repeat back_in
  refine N_sum (n := n) ok'.base ?_
  repeat back_in
  refine JxN_cons ?_
  refine J_Assign_Tup ?_
  repeat back_in
  refine B_fdiv (by decide) (noPylong (by decide)) ?_
  repeat back_in
  refine B_fmod (by decide) ?_
  repeat back_in
  cases e : ((((cellsOf ns).sum.fdiv 4).fmod 2) == 1) with
  | true =>
    rw [if_pos rfl]
    repeat back_in
    refine ⟨Nat.le_of_ble_eq_true rfl, ?_⟩
    repeat back_in
    exact law_rest (a := alpha4) (n := n) G N7 N8 ok' hg' hfr' aok4 T4 R4 F4 hcl _ ⟨rfl, rfl, rfl, trivial⟩ h
  | false =>
    rw [if_neg (by decide)]
    repeat back_in
    refine ⟨Nat.le_of_ble_eq_true rfl, ?_⟩
    repeat back_in
    exact law_rest (a := alpha3) (n := n) G N7 N8 ok' hg' hfr' aok3 T3 R3 F3 hcl _ ⟨rfl, rfl, rfl, trivial⟩ h
end
end
section
noncomputable def Lin (Φ : (Str → Int) → Int) : Prop := ∀ f g t, Φ (fun w => f w + t * g w) = Φ f + t * Φ g
theorem Lin.zero {Φ : (Str → Int) → Int} (h : Lin Φ) : Φ (fun _ => 0) = 0 := by
  have := h (fun _ => 0) (fun _ => 0) (-1)
  simp only [Int.mul_zero, Int.add_zero] at this
  (first | lia | omega)
noncomputable def cmb (l : List (List (Str × Int) × Int)) (w : Str) : Int := (l.map fun p => p.2 * cf p.1 w).sum
theorem Lin.combo {Φ : (Str → Int) → Int} (h : Lin Φ) : ∀ l : List (List (Str × Int) × Int), Φ (cmb l) = (l.map fun p => p.2 * Φ (cf p.1)).sum
  | [] => h.zero
  | p :: l => by
    have e : cmb (p :: l) = fun w => cmb l w + p.2 * cf p.1 w := by
      funext w
      simp only [cmb, List.map_cons, List.sum_cons]
      (first | lia | omega)
    rw [e, h, Lin.combo h l, List.map_cons, List.sum_cons]
    (first | lia | omega)
theorem Lin.combo0 {Φ : (Str → Int) → Int} (h : Lin Φ) {l : List (List (Str × Int) × Int)} (hl : ∀ p ∈ l, Φ (cf p.1) = 0) : Φ (cmb l) = 0 := by
  rw [h.combo]
  induction l with
  | nil => rfl
  | cons p l ih =>
    rw [List.map_cons, List.sum_cons, hl p List.mem_cons_self, ih fun q hq => hl q (List.mem_cons_of_mem _ hq)]
    (first | lia | omega)
theorem layAll_cmb : ∀ (l : List (List (Str × Int) × Int)) (f : Str → Int), layAll l f = fun w => f w + cmb l w
  | [], f => by funext w; simp [layAll, cmb]
  | p :: l, f => by
    rw [layAll, layAll_cmb l]
    funext w
    simp only [cmb, List.map_cons, List.sum_cons]
    (first | lia | omega)
noncomputable def delta (s : Str) : Str → Int := cf [(s, 1)]
theorem delta_at (s w : Str) : delta s w = if s = w then 1 else 0 := by
  simp [delta, cf]
theorem table_eq {a : Alpha} {cells : List Int} {total : Int} (hl : (sharesOf a cells).length = a.brackets.length) :
    tableOf a cells total = fun w => cmb (a.brackets.zip (sharesOf a cells)) w + strayN total * delta (strayW a total) w := by
  unfold tableOf namedOf
  rw [List.zip_append hl.symm, layAll_cmb]
  funext w
  simp only [cmb, List.map_append, List.sum_append, List.zip_cons_cons, List.zip_nil_right, List.map_cons, List.map_nil, List.sum_cons, List.sum_nil, delta]
  (first | lia | omega)
theorem Lin.table {Φ : (Str → Int) → Int} (h : Lin Φ) {a : Alpha} {cells : List Int} {total : Int} (hl : (sharesOf a cells).length = a.brackets.length) (hb : ∀ b ∈ a.brackets, Φ (cf b) = 0) : Φ (tableOf a cells total) = strayN total * Φ (delta (strayW a total)) := by
  rw [table_eq hl, h, h.combo0 (fun p hp => hb p.1 (List.of_mem_zip hp).1)]
  (first | lia | omega)
theorem lin_pairing (c : Nat) (w : Str) : Lin fun f => pairing f c w := fun f g t => by
  unfold pairing
  induction rifs c w with
  | nil => simp
  | cons x l ih =>
    simp only [List.map_cons, List.sum_cons] at ih ⊢
    rw [ih, Int.mul_add]
    (first | lia | omega)
theorem lin_at (w : Str) : Lin fun f => f w := fun f g t => rfl
theorem Lin.sub {Φ Ψ : (Str → Int) → Int} (h : Lin Φ) (h' : Lin Ψ) (c : Int) : Lin fun f => Φ f - c * Ψ f := fun f g t => by
  show Φ _ - c * Ψ _ = Φ f - c * Ψ f + t * (Φ g - c * Ψ g)
  rw [h, h', Int.mul_sub, Int.mul_add, ← Int.mul_assoc, ← Int.mul_assoc, Int.mul_comm c t]
  (first | lia | omega)
noncomputable def leftC (w v : Str) : Int := cf (leftRows w 1) v
theorem cf_scale (t : Int) (v : Str) : ∀ l : List (Str × Int), cf (l.map fun p => (p.1, p.2 * t)) v = t * cf l v
  | [] => by simp [cf]
  | p :: l => by
    have ih := cf_scale t v l
    simp only [cf, List.map_cons, List.sum_cons] at ih ⊢
    rw [ih, Int.mul_add]
    split
    · rw [Int.mul_comm]
    · simp
theorem leftOf_sum (ws : List Str) (f : Str → Int) (v : Str) : leftOf ws f v = (ws.map fun w => f w * leftC w v).sum := by
  unfold leftOf leftC
  congr 1
  refine List.map_congr_left fun w _ => ?_
  rw [leftRows_scale, cf_scale]
theorem lin_left (ws : List Str) (v : Str) : Lin fun f => leftOf ws f v := fun f g t => by
  show leftOf ws _ v = leftOf ws f v + t * leftOf ws g v
  simp only [leftOf_sum]
  induction ws with
  | nil => simp
  | cons w ws ih =>
    simp only [List.map_cons, List.sum_cons]
    rw [ih, Int.mul_add, Int.add_mul, Int.mul_assoc]
    (first | lia | omega)
theorem sum_pick (x : Str) (c : Int) (L : Str → Int) : ∀ ws : List Str, ws.Nodup → x ∈ ws → (ws.map fun w => (if x = w then c else 0) * L w).sum = c * L x
  | [], _, h => nomatch h
  | w :: ws, hn, h => by
    have hn' := List.nodup_cons.mp hn
    simp only [List.map_cons, List.sum_cons]
    by_cases e : x = w
    · subst e
      have z : ∀ ws : List Str, x ∉ ws → (ws.map fun w => (if x = w then c else 0) * L w).sum = 0 := by
        intro ws
        induction ws with
        | nil => intro _; rfl
        | cons y ws ih =>
          intro hy
          rw [List.mem_cons, not_or] at hy
          simp only [List.map_cons, List.sum_cons]
          rw [if_neg hy.1, ih hy.2]
          (first | lia | omega)
      rw [if_pos rfl, z ws hn'.1]
      (first | lia | omega)
    · rw [if_neg e, sum_pick x c L ws hn'.2 (by rcases List.mem_cons.mp h with q | q; exact absurd q e; exact q)]
      (first | lia | omega)
theorem left_cf {ws : List Str} (hn : ws.Nodup) (v : Str) : ∀ b : List (Str × Int), (∀ p ∈ b, p.1 ∈ ws) → leftOf ws (cf b) v = (b.map fun p => p.2 * leftC p.1 v).sum
  | [], _ => by
    rw [leftOf_sum]
    have : ∀ ws : List Str, (ws.map fun w => cf [] w * leftC w v).sum = 0 := by
      intro ws
      induction ws with
      | nil => rfl
      | cons y ws ih =>
        simp only [List.map_cons, List.sum_cons] at ih ⊢
        rw [ih]
        simp [cf]
    rw [this]; rfl
  | p :: b, h => by
    have e : cf (p :: b) = fun w => cf b w + 1 * (if p.1 = w then p.2 else 0) := by
      funext w
      simp only [cf, List.map_cons, List.sum_cons]
      (first | lia | omega)
    have e2 : leftOf ws (fun w => cf b w + 1 * if p.1 = w then p.2 else 0) v = leftOf ws (cf b) v + 1 * leftOf ws (fun w => if p.1 = w then p.2 else 0) v := lin_left ws v (cf b) (fun w => if p.1 = w then p.2 else 0) 1
    rw [e, e2, left_cf hn v b fun q hq => h q (List.mem_cons_of_mem _ hq), leftOf_sum, sum_pick p.1 p.2 (fun w => leftC w v) ws hn (h p List.mem_cons_self), List.map_cons, List.sum_cons]
    (first | lia | omega)
noncomputable def tri : List (Str × List (Str × Int)) → Bool
  | [] => true
  | p :: r => cf p.2 p.1 == 1 && r.all (fun q => cf q.2 p.1 == 0) && tri r
theorem read_cmb : ∀ {l : List (Str × List (Str × Int))} {ss : List Int}, tri l = true → ss.length = l.length → readOff l (cmb ((l.map (·.2)).zip ss)) = (ss, fun _ => 0)
  | [], [], _, _ => rfl
  | p :: r, s :: ss, h, hl => by
    simp only [tri, Bool.and_eq_true, beq_iff_eq, List.all_eq_true] at h
    obtain ⟨⟨h1, h2⟩, h3⟩ := h
    have e0 : cmb (((p :: r).map (·.2)).zip (s :: ss)) p.1 = s := by
      simp only [cmb, List.map_cons, List.zip_cons_cons, List.sum_cons]
      have z : ∀ (r : List (Str × List (Str × Int))) (ss : List Int), (∀ q ∈ r, cf q.2 p.1 = 0) → (((r.map (·.2)).zip ss).map fun q => q.2 * cf q.1 p.1).sum = 0 := by
        intro r
        induction r with
        | nil => intro ss _; rfl
        | cons q r ih =>
          intro ss hq
          cases ss with
          | nil => rfl
          | cons s ss =>
            simp only [List.map_cons, List.zip_cons_cons, List.sum_cons]
            rw [hq q List.mem_cons_self, ih ss fun x hx => hq x (List.mem_cons_of_mem _ hx)]
            (first | lia | omega)
      rw [h1, z r ss h2]
      (first | lia | omega)
    rw [readOff]
    simp only [e0]
    rw [show (fun w => cmb (((p :: r).map (·.2)).zip (s :: ss)) w + -s * cf p.2 w) = cmb ((r.map (·.2)).zip ss) by
      funext w
      simp only [cmb, List.map_cons, List.zip_cons_cons, List.sum_cons]
      rw [Int.neg_mul]
      (first | lia | omega)]
    rw [read_cmb h3 (by simpa using hl)]
theorem read_id : ∀ (l : List (Str × List (Str × Int))) (f : Str → Int) (w : Str), f w = cmb ((l.map (·.2)).zip (readOff l f).1) w + (readOff l f).2 w
  | [], f, w => by simp [readOff, cmb]
  | p :: r, f, w => by
    have ih := read_id r (fun w => f w + (- f p.1) * cf p.2 w) w
    simp only [readOff, cmb, List.map_cons, List.zip_cons_cons, List.sum_cons] at ih ⊢
    rw [Int.neg_mul] at ih
    (first | lia | omega)
end
section
set_option maxRecDepth 1000000
noncomputable def Alpha.fA (a : Alpha) : Bool := tri (a.primes.zip a.brackets)
noncomputable def Alpha.fB (a : Alpha) : Bool := a.brackets.all fun b => (cutsOf a.size).all fun c => a.words.all fun w => pairing (cf b) c w == 0
noncomputable def Alpha.fC (a : Alpha) : Bool := a.words.all fun s => (cutsOf a.size).any fun c => a.words.any fun w => pairing (delta s) c w != 0
noncomputable def Alpha.fD (a : Alpha) : Bool := a.brackets.all fun b => a.words.all fun v => (b.map fun p => p.2 * leftC p.1 v).sum == (a.size : Int) * cf b v
noncomputable def Alpha.fE (a : Alpha) : Bool := a.words.all fun s => a.words.all fun v => decide ((leftC s v - (a.size : Int) * delta s v).natAbs < 2 ^ 9)
noncomputable def Alpha.fF (a : Alpha) : Bool := a.words.all fun s => a.words.any fun v => leftC s v - (a.size : Int) * delta s v != 0
noncomputable def Alpha.fG (a : Alpha) : Bool := a.brackets.all fun b => a.words.all fun w => cf b (revS w) == mirrorOf a * cf b w
noncomputable def Alpha.fH (a : Alpha) : Bool := a.words.all fun w => decide ((a.brackets.map fun b => (cf b w).natAbs).sum ≤ 2 ^ 6)
noncomputable def Alpha.fI (a : Alpha) : Bool := decide (a.words.length ≤ 27) && decide (a.primes.length ≤ 8) && decide (1 ≤ a.primes.length)
noncomputable def Alpha.fJ (a : Alpha) : Bool := a.words.all fun v => leftC (a.words.headD ⟨#[]⟩) v == 0
theorem fA3 : alpha3.fA = true := by decide +kernel
theorem fB3 : alpha3.fB = true := by decide +kernel
theorem fC3 : alpha3.fC = true := by decide +kernel
theorem fD3 : alpha3.fD = true := by decide +kernel
theorem fE3 : alpha3.fE = true := by decide +kernel
theorem fF3 : alpha3.fF = true := by decide +kernel
theorem fG3 : alpha3.fG = true := by decide +kernel
theorem fH3 : alpha3.fH = true := by decide +kernel
theorem fI3 : alpha3.fI = true := by decide +kernel
theorem fJ3 : alpha3.fJ = true := by decide +kernel
theorem fA4 : alpha4.fA = true := by decide +kernel
theorem fB4 : alpha4.fB = true := by decide +kernel
theorem fC4 : alpha4.fC = true := by decide +kernel
theorem fD4 : alpha4.fD = true := by decide +kernel
theorem fE4 : alpha4.fE = true := by decide +kernel
theorem fF4 : alpha4.fF = true := by decide +kernel
theorem fG4 : alpha4.fG = true := by decide +kernel
theorem fH4 : alpha4.fH = true := by decide +kernel
theorem fI4 : alpha4.fI = true := by decide +kernel
theorem fJ4 : alpha4.fJ = true := by decide +kernel
end
section
set_option maxRecDepth 1000000
noncomputable def Alpha.turnB (a : Alpha) : Bool := ((cpsOf a.words).length == a.words.length * a.size) && ((cpsOf a.words).all fun i => decide (0 ≤ i ∧ i < 256)) && Builtin.Range.small 0 ((octA a).length : Int) (a.size : Int) && (Builtin.Range.rangeSize 0 ((octA a).length : Int) (a.size : Int) == (a.words.length : Int))
theorem TurnOk.of {a : Alpha} (h : a.turnB = true) : TurnOk a := by
  simp only [Alpha.turnB, Bool.and_eq_true, beq_iff_eq, List.all_eq_true, decide_eq_true_eq] at h
  exact ⟨h.1.1.1, h.1.1.2, h.1.2, h.2⟩
theorem turn3 : TurnOk alpha3 := .of (by decide +kernel)
theorem turn4 : TurnOk alpha4 := .of (by decide +kernel)
noncomputable def chrsAt (t : List UInt8) (p n : Nat) : List Str := (cutL t (some ((p : Int) * (n : Int))) (some ((p : Int) * (n : Int) + (n : Int)))).map fun o => ⟨#[o.toNat]⟩
noncomputable def Alpha.revB (a : Alpha) (t : List UInt8) : Bool := (a.words.zipIdx.all fun q => JoinOk (Str.ofString "") (chrsAt t q.2 a.size) && (Txt.join (Str.ofString "") (chrsAt t q.2 a.size) == revS q.1)) && a.words.all fun w => a.words.contains (revS w)
theorem RevOk.of {a : Alpha} {t : List UInt8} (e : turnedOf a = t) (h : a.revB t = true) : RevOk a := by
  subst e
  simp only [Alpha.revB, Bool.and_eq_true, beq_iff_eq, List.all_eq_true, List.contains_iff_mem] at h
  exact ⟨fun p w hw => h.1 (w, p) (List.mem_zipIdx_iff_getElem?.mpr hw), h.2⟩
theorem rev3 : RevOk alpha3 := .of (t := turnedOf alpha3) rfl (by decide +kernel)
theorem rev4 : RevOk alpha4 := .of (t := turnedOf alpha4) rfl (by decide +kernel)
end
section
structure Fin8 (a : Alpha) : Prop where
  A : tri (a.primes.zip a.brackets) = true
  B : ∀ b ∈ a.brackets, ∀ c ∈ cutsOf a.size, ∀ w ∈ a.words, pairing (cf b) c w = 0
  C : ∀ s ∈ a.words, ∃ c ∈ cutsOf a.size, ∃ w ∈ a.words, pairing (delta s) c w ≠ 0
  D : ∀ b ∈ a.brackets, ∀ v ∈ a.words, (b.map fun p => p.2 * leftC p.1 v).sum = (a.size : Int) * cf b v
  E : ∀ s ∈ a.words, ∀ v ∈ a.words, (leftC s v - (a.size : Int) * delta s v).natAbs < 2 ^ 9
  F : ∀ s ∈ a.words, ∃ v ∈ a.words, leftC s v - (a.size : Int) * delta s v ≠ 0
  G : ∀ b ∈ a.brackets, ∀ w ∈ a.words, cf b (revS w) = mirrorOf a * cf b w
  H : ∀ w ∈ a.words, (a.brackets.map fun b => (cf b w).natAbs).sum ≤ 2 ^ 6
  I : a.words.length ≤ 27 ∧ a.primes.length ≤ 8 ∧ 1 ≤ a.primes.length
  J : ∀ v ∈ a.words, leftC (a.words.headD ⟨#[]⟩) v = 0
theorem Fin8.of {a : Alpha} (A : a.fA = true) (B : a.fB = true) (C : a.fC = true) (D : a.fD = true) (E : a.fE = true) (F : a.fF = true) (G : a.fG = true) (H : a.fH = true) (I : a.fI = true) (J : a.fJ = true) : Fin8 a := by
  simp only [Alpha.fA, Alpha.fB, Alpha.fC, Alpha.fD, Alpha.fE, Alpha.fF, Alpha.fG, Alpha.fH, Alpha.fI, Alpha.fJ, List.all_eq_true, List.any_eq_true, beq_iff_eq, bne_iff_ne, decide_eq_true_eq, Bool.and_eq_true] at *
  exact ⟨A, B, C, D, E, F, G, H, ⟨I.1.1, I.1.2, I.2⟩, J⟩
theorem fin3 : Fin8 alpha3 := .of fA3 fB3 fC3 fD3 fE3 fF3 fG3 fH3 fI3 fJ3
theorem fin4 : Fin8 alpha4 := .of fA4 fB4 fC4 fD4 fE4 fF4 fG4 fH4 fI4 fJ4
section
variable {a : Alpha} {cells : List Int} {total : Int}
theorem brackets_len (a : Alpha) : a.brackets.length = a.primes.length := by rw [Alpha.brackets, List.length_map]
theorem shares_len (X : Fin8 a) (hc : cells.length = 8) : (sharesOf a cells).length = a.brackets.length := by
  rw [brackets_len, sharesOf, List.length_take, hc]
  have := X.I.2.1
  (first | lia | omega)
theorem zip_snd (a : Alpha) : (a.primes.zip a.brackets).map (·.2) = a.brackets := by
  rw [← List.unzip_snd, List.unzip_zip_right (by rw [brackets_len]; exact Nat.le_refl _)]
theorem rifs_in (K : AOk a) {c : Nat} (hc : c ∈ cutsOf a.size) {w : Str} (hw : w ∈ a.words) : ∀ r ∈ rifs c w, r ∈ a.words := by
  have h := K.canc
  unfold cancOk at h
  have h1 := List.all_eq_true.mp (List.all_eq_true.mp h c hc) w hw
  simp only [Bool.and_eq_true, List.all_eq_true, List.contains_iff_mem] at h1
  exact h1.2
theorem pairing_congr {f g : Str → Int} {c : Nat} {w : Str} (h : ∀ r ∈ rifs c w, f r = g r) : pairing f c w = pairing g c w := by
  unfold pairing
  rw [List.map_congr_left h]
theorem table_pure (X : Fin8 a) (hc : cells.length = 8) (h0 : strayN total = 0) : tableOf a cells total = cmb (a.brackets.zip (sharesOf a cells)) := by
  rw [table_eq (shares_len X hc), h0]
  funext w
  (first | lia | omega)
theorem pair_table (X : Fin8 a) (hc : cells.length = 8) {c : Nat} (h1 : c ∈ cutsOf a.size) {w : Str} (hw : w ∈ a.words) : pairing (tableOf a cells total) c w = strayN total * pairing (delta (strayW a total)) c w :=
  (lin_pairing c w).table (shares_len X hc) fun b hb => X.B b hb c h1 w hw
theorem read_pure (X : Fin8 a) (hc : cells.length = 8) (h0 : strayN total = 0) : read1 a cells total = (sharesOf a cells, fun _ => 0) := by
  have := read_cmb (ss := sharesOf a cells) X.A (by rw [shares_len X hc, List.length_zip, brackets_len, Nat.min_self])
  rw [zip_snd] at this
  rw [read1, table_pure X hc h0, this]
theorem plain1 (X : Fin8 a) (K : AOk a) (hc : cells.length = 8) : decide (∀ w ∈ a.words, (read1 a cells total).2 w = 0) = (strayN total == 0) := by
  by_cases h0 : strayN total = 0
  · rw [read_pure X hc h0, h0]
    simp
  · rw [show (strayN total == 0) = false by simpa using h0]
    refine decide_eq_false fun hall => ?_
    obtain ⟨c, h1, w, hw, hne⟩ := X.C _ (strayW_mem (total := total) K.some)
    have e1 := pair_table (cells := cells) (total := total) X hc h1 hw
    have e2 : pairing (tableOf a cells total) c w = 0 := by
      rw [pairing_congr (g := cmb (a.brackets.zip (read1 a cells total).1)) fun r hr => ?_]
      · exact Lin.combo0 (lin_pairing c w) fun p hp => X.B p.1 (List.of_mem_zip hp).1 c h1 w hw
      · have := read_id (a.primes.zip a.brackets) (tableOf a cells total) r
        rw [zip_snd] at this
        have hz : (readOff (a.primes.zip a.brackets) (tableOf a cells total)).2 r = 0 := hall r (rifs_in K h1 hw r hr)
        rw [hz] at this
        rw [this]
        show _ + 0 = cmb (a.brackets.zip (readOff (a.primes.zip a.brackets) (tableOf a cells total)).1) r
        (first | lia | omega)
    rw [e2] at e1
    rcases Int.mul_eq_zero.mp e1.symm with q | q
    · exact h0 q
    · exact hne q
theorem plain3 (X : Fin8 a) (K : AOk a) (hc : cells.length = 8) : decide (∀ c ∈ cutsOf a.size, ∀ w ∈ a.words, pairing (tableOf a cells total) c w = 0) = (strayN total == 0) := by
  by_cases h0 : strayN total = 0
  · rw [show (strayN total == 0) = true by simpa using h0]
    refine decide_eq_true fun c h1 w hw => ?_
    rw [pair_table X hc h1 hw, h0]
    (first | lia | omega)
  · rw [show (strayN total == 0) = false by simpa using h0]
    refine decide_eq_false fun hall => ?_
    obtain ⟨c, h1, w, hw, hne⟩ := X.C _ (strayW_mem (total := total) K.some)
    have e1 := pair_table (cells := cells) (total := total) X hc h1 hw
    rw [hall c h1 w hw] at e1
    rcases Int.mul_eq_zero.mp e1.symm with q | q
    · exact h0 q
    · exact hne q
theorem rev_rev (w : Str) : revS (revS w) = w := by
  unfold revS
  simp
theorem plain4 (X : Fin8 a) (K : AOk a) (hc : cells.length = 8) : ∀ w ∈ a.words, tableOf a cells total (revS w) - mirrorOf a * tableOf a cells total w = strayN total * ((if (w == revS (strayW a total)) = true then (1 : Int) else 0) - mirrorOf a * if (w == strayW a total) = true then (1 : Int) else 0) := by
  intro w hw
  have := ((lin_at (revS w)).sub (lin_at w) (mirrorOf a)).table (cells := cells) (total := total) (shares_len X hc) fun b hb => by rw [X.G b hb w hw]; (first | lia | omega)
  rw [this, delta_at, delta_at]
  congr 2
  · simp only [beq_iff_eq]
    by_cases e : strayW a total = revS w
    · rw [if_pos e, if_pos (by rw [e, rev_rev])]
    · rw [if_neg e, if_neg fun q => e (by rw [q, rev_rev])]
  · simp only [beq_iff_eq]
    by_cases e : strayW a total = w
    · rw [if_pos e, if_pos e.symm]
    · rw [if_neg e, if_neg fun q => e q.symm]
end
end
section
theorem dsum_zeros (n : Nat) : ∀ k : Nat, dsum n (List.replicate k 0) = 0
  | 0 => rfl
  | k + 1 => by rw [List.replicate_succ, dsum, dsum_zeros n k]; (first | lia | omega)
theorem dsum_mul {α : Type} (n : Nat) (g : α → Int) (c : Int) : ∀ l : List α, dsum n (l.map fun x => c * g x) = c * dsum n (l.map g)
  | [] => by simp [dsum]
  | x :: l => by
    simp only [List.map_cons, dsum, dsum_mul n g c l]
    rw [Int.mul_add, ← Int.mul_assoc, ← Int.mul_assoc, Int.mul_comm c (2 ^ n)]
theorem quo_exact {x y c : Int} (hy : y ≠ 0) (h : x = c * y) : quo x y = c ∧ rest x y = 0 := by
  subst h
  unfold quo rest
  split
  · exact ⟨Int.mul_ediv_cancel _ hy, Int.mul_emod_left _ _⟩
  · have hn : -y ≠ 0 := by (first | lia | omega)
    rw [show -(c * y) = c * -y by rw [Int.mul_neg]]
    exact ⟨Int.mul_ediv_cancel _ hn, by rw [Int.mul_emod_left]; rfl⟩
theorem cmb_abs (w : Str) {C : Nat} : ∀ (bs : List (List (Str × Int))) (ss : List Int), (∀ s ∈ ss, s.natAbs ≤ C) → (cmb (bs.zip ss) w).natAbs ≤ C * (bs.map fun b => (cf b w).natAbs).sum
  | [], ss, _ => by simp [cmb]
  | b :: bs, [], _ => by simp [cmb]
  | b :: bs, s :: ss, h => by
    have ih := cmb_abs w bs ss fun x hx => h x (List.mem_cons_of_mem _ hx)
    have hs := h s List.mem_cons_self
    simp only [cmb, List.zip_cons_cons, List.map_cons, List.sum_cons] at ih ⊢
    rw [Nat.mul_add]
    have h1 := Int.natAbs_add_le (s * cf b w) ((bs.zip ss).map fun p => p.2 * cf p.1 w).sum
    have h2 : (s * cf b w).natAbs ≤ C * (cf b w).natAbs := by rw [Int.natAbs_mul]; exact Nat.mul_le_mul_right _ hs
    (first | lia | omega)
theorem bits_of {x : Int} {n : Nat} (h : x.natAbs < 2 ^ n) : Builtin.Int.intBits x ≤ n := intBits_le_iff.mpr h
section
variable {a : Alpha} {cells : List Int} {total : Int}
theorem delta_abs (s w : Str) : (delta s w).natAbs ≤ 1 := by
  rw [delta_at]; split <;> decide
theorem strayN_abs (total : Int) : (strayN total).natAbs ≤ 2 := by
  rcases strayN_cases total with e | e | e <;> rw [e] <;> decide
theorem table_abs (X : Fin8 a) (hc : cells.length = 8) {B : Nat} (hB : ∀ s ∈ sharesOf a cells, Builtin.Int.intBits s ≤ B) {w : Str} (hw : w ∈ a.words) : (tableOf a cells total w).natAbs ≤ 2 ^ B * 64 + 2 := by
  rw [table_eq (shares_len X hc)]
  have h1 := cmb_abs w (C := 2 ^ B) a.brackets (sharesOf a cells) fun s hs => Nat.le_of_lt (intBits_le_iff.mp (hB s hs))
  have h2 := X.H w hw
  have h3 := Int.natAbs_add_le (cmb (a.brackets.zip (sharesOf a cells)) w) (strayN total * delta (strayW a total) w)
  have h4 : (strayN total * delta (strayW a total) w).natAbs ≤ 2 * 1 := by rw [Int.natAbs_mul]; exact Nat.mul_le_mul (strayN_abs _) (delta_abs _ _)
  have h5 := Nat.mul_le_mul_left (2 ^ B) h2
  show (cmb (a.brackets.zip (sharesOf a cells)) w + strayN total * delta (strayW a total) w).natAbs ≤ _
  (first | lia | omega)
noncomputable def offBy (a : Alpha) (total : Int) (v : Str) : Int := leftC (strayW a total) v - (a.size : Int) * delta (strayW a total) v
theorem left_table (X : Fin8 a) (K : AOk a) (hc : cells.length = 8) {v : Str} (hv : v ∈ a.words) : leftOf a.words (tableOf a cells total) v = (a.size : Int) * tableOf a cells total v + strayN total * offBy a total v := by
  have h := ((lin_left a.words v).sub (lin_at v) (a.size : Int)).table (cells := cells) (total := total) (shares_len X hc) fun b hb => by
    rw [left_cf K.nodup v b fun p hp => (K.named b hb p hp).1, X.D b hb v hv]
    (first | lia | omega)
  have e : leftOf a.words (delta (strayW a total)) v = leftC (strayW a total) v := by
    unfold delta
    rw [left_cf K.nodup v [(strayW a total, 1)] fun p hp => by rw [List.mem_singleton.mp hp]; exact strayW_mem K.some]
    simp
  rw [e] at h
  unfold offBy
  (first | lia | omega)
theorem left_abs (X : Fin8 a) (K : AOk a) (hc : cells.length = 8) {B : Nat} (hB : ∀ s ∈ sharesOf a cells, Builtin.Int.intBits s ≤ B) {v : Str} (hv : v ∈ a.words) : Builtin.Int.intBits (leftOf a.words (tableOf a cells total) v) ≤ B + 20 := by
  apply bits_of
  rw [left_table X K hc hv]
  have h1 := table_abs (total := total) X hc hB hv
  have h2 := X.E _ (strayW_mem (total := total) K.some) v hv
  have h3 := Int.natAbs_add_le ((a.size : Int) * tableOf a cells total v) (strayN total * offBy a total v)
  have h4 : (strayN total * offBy a total v).natAbs ≤ 2 * 512 := by rw [Int.natAbs_mul]; exact Nat.mul_le_mul (strayN_abs _) (Nat.le_of_lt h2)
  have h5 : ((a.size : Int) * tableOf a cells total v).natAbs ≤ 4 * (2 ^ B * 64 + 2) := by rw [Int.natAbs_mul, Int.natAbs_natCast]; exact Nat.mul_le_mul K.size2 h1
  rw [Nat.pow_add]
  have := Nat.one_le_two_pow (n := B)
  (first | lia | omega)
theorem left_sum (X : Fin8 a) (K : AOk a) (hc : cells.length = 8) (wd : Nat) : dsum wd (a.words.map (leftOf a.words (tableOf a cells total))) = (a.size : Int) * dsum wd (a.words.map (tableOf a cells total)) + strayN total * dsum wd (a.words.map (offBy a total)) := by
  rw [← dsum_mul, ← dsum_map]
  congr 1
  exact List.map_congr_left fun v hv => left_table X K hc hv
end
end
section
section
variable {a : Alpha} {cells : List Int} {total : Int}
theorem sgn_mul {x y : Int} (h : x = 1 ∨ x = -1) : x * y = 0 ↔ y = 0 := by
  rcases h with e | e <;> rw [e] <;> (first | lia | omega)
theorem sgn_natAbs {x y : Int} (h : x = 1 ∨ x = -1) : (x * y).natAbs = y.natAbs := by
  rcases h with e | e <;> rw [e]
  · rw [Int.one_mul]
  · rw [Int.neg_one_mul, Int.natAbs_neg]
theorem table_small (X : Fin8 a) (hc : cells.length = 8) {B k : Nat} (hB : ∀ s ∈ sharesOf a cells, Builtin.Int.intBits s ≤ B) {w : Str} (hw : w ∈ a.words) : (tableOf a cells total w).natAbs < 2 ^ (12 + B + k - 1) := by
  have h1 := table_abs (total := total) X hc hB hw
  have h2 : 2 ^ (11 + B) ≤ 2 ^ (12 + B + k - 1) := Nat.pow_le_pow_right (by decide) (by (first | lia | omega))
  rw [Nat.pow_add] at h2
  have := Nat.one_le_two_pow (n := B)
  (first | lia | omega)
theorem small_int {x : Int} {n : Nat} (h : x.natAbs < 2 ^ n) : -(2 : Int) ^ n < x ∧ x < 2 ^ n := by
  have h1 : (x.natAbs : Int) < 2 ^ n := by exact_mod_cast h
  (first | lia | omega)
theorem two_half {n : Nat} (h : 1 ≤ n) : 2 * (2 : Int) ^ (n - 1) = 2 ^ n := by
  rw [← Int.pow_succ']; congr 1; (first | lia | omega)
theorem number_zero (X : Fin8 a) (hc : cells.length = 8) {B k : Nat} (hB : ∀ s ∈ sharesOf a cells, Builtin.Int.intBits s ≤ B) :
    dsum (12 + B + k) (a.words.map (tableOf a cells total)) = 0 ↔ a.words.map (tableOf a cells total) = List.replicate a.words.length 0 := by
  constructor
  · intro h
    refine dsum_inj (n := 12 + B + k) (h := 2 ^ (12 + B + k - 1)) (Int.le_of_eq (two_half (by (first | lia | omega)))) (by rw [List.length_map, List.length_replicate]) (fun d hd => ?_) (fun d hd => ?_) (by rw [h, dsum_zeros])
    · refine Classical.byContradiction fun hno => ?_
      obtain ⟨w, hw, rfl⟩ := List.mem_map.mp hd
      refine hno ?_
      clear hno
      have := small_int (table_small (total := total) (k := k) X hc hB hw)
      exact ⟨Int.le_of_lt this.1, this.2⟩
    · rw [(List.mem_replicate.mp hd).2]
      have := pow_pos2 (12 + B + k - 1)
      (first | lia | omega)
  · intro h
    rw [h, dsum_zeros]
theorem zip_own (f L : Str → Int) : ∀ ws : List Str, (ws.map fun w => f w * L w) = (ws.zip (ws.map f)).map fun p => p.2 * L p.1
  | [] => rfl
  | w :: ws => by rw [List.map_cons, List.map_cons, List.zip_cons_cons, List.map_cons, zip_own f L ws]
theorem head_split {ws : List Str} (h : ws ≠ []) : ∃ r, ws = ws.headD ⟨#[]⟩ :: r := by
  cases ws with
  | nil => exact absurd rfl h
  | cons x r => exact ⟨r, rfl⟩
theorem one_bit (X : Fin8 a) (K : AOk a) (hc : cells.length = 8) {B k : Nat} (hB : ∀ s ∈ sharesOf a cells, Builtin.Int.intBits s ≤ B) {D : Int} (hD : D.natAbs ≤ 1) (h : dsum (12 + B + k) (a.words.map (tableOf a cells total)) = D) :
    dsum (12 + B + k) (a.words.map (leftOf a.words (tableOf a cells total))) = 0 := by
  obtain ⟨r, hr⟩ := head_split K.some
  have hp : (2 : Int) ≤ 2 ^ (12 + B + k - 1) := by
    have : (2 : Nat) ^ 1 ≤ 2 ^ (12 + B + k - 1) := Nat.pow_le_pow_right (by decide) (by (first | lia | omega))
    exact_mod_cast this
  have e : a.words.map (tableOf a cells total) = D :: List.replicate r.length 0 := by
    refine dsum_inj (n := 12 + B + k) (h := 2 ^ (12 + B + k - 1)) (Int.le_of_eq (two_half (by (first | lia | omega)))) (by rw [List.length_map, hr]; simp) (fun d hd => ?_) (fun d hd => ?_) (by rw [h, dsum, dsum_zeros]; (first | lia | omega))
    · refine Classical.byContradiction fun hno => ?_
      obtain ⟨w, hw, rfl⟩ := List.mem_map.mp hd
      refine hno ?_
      clear hno
      have := small_int (table_small (total := total) (k := k) X hc hB hw)
      exact ⟨Int.le_of_lt this.1, this.2⟩
    · rcases List.mem_cons.mp hd with rfl | hd
      · (first | lia | omega)
      · rw [(List.mem_replicate.mp hd).2]; (first | lia | omega)
  have z : a.words.map (leftOf a.words (tableOf a cells total)) = List.replicate a.words.length 0 := by
    rw [List.eq_replicate_iff]
    refine ⟨List.length_map .., fun d hd => ?_⟩
    refine Classical.byContradiction fun hno => ?_
    obtain ⟨v, hv, rfl⟩ := List.mem_map.mp hd
    refine hno ?_
    clear hno
    rw [leftOf_sum]
    have e1 : a.words.map (fun w => tableOf a cells total w * leftC w v) = (a.words.zip (a.words.map (tableOf a cells total))).map fun p => p.2 * leftC p.1 v := by
      exact zip_own _ _ _
    have hJ := X.J v hv
    rw [e1, e, hr, List.zip_cons_cons, List.map_cons, List.sum_cons, hJ]
    have : ∀ (r : List Str) (k : Nat), ((r.zip (List.replicate k (0 : Int))).map fun p => p.2 * leftC p.1 v).sum = 0 := by
      intro r
      induction r with
      | nil => intro k; simp
      | cons x r ih =>
        intro k
        cases k with
        | zero => simp
        | succ k => rw [List.replicate_succ, List.zip_cons_cons, List.map_cons, List.sum_cons, ih]; (first | lia | omega)
    rw [this]
    (first | lia | omega)
  rw [z, dsum_zeros]
theorem plain_wd (X : Fin8 a) (K : AOk a) (hc : cells.length = 8) {M : Nat} (hM : ∀ c ∈ cells, Builtin.Int.intBits c ≤ M) (hMz : M ≤ 2 ^ 20 + 10) (B k : Nat) (hB : ∀ s ∈ sharesOf a cells, Builtin.Int.intBits s ≤ B) (hEx : ∃ s ∈ sharesOf a cells, Builtin.Int.intBits s = B) (hk : k < 16) :
    (12 + B + k) * 66 ≤ 2 ^ 27 ∧ (∀ w ∈ a.words, -2 ^ (12 + B + k - 1) < tableOf a cells total w ∧ tableOf a cells total w < 2 ^ (12 + B + k - 1)) ∧ (∀ w ∈ a.words, Builtin.Int.intBits (leftOf a.words (tableOf a cells total) w) ≤ B + 20) ∧
    (divr a total (tableOf a cells total) (12 + B + k) = 0 ↔ a.words.map (tableOf a cells total) = List.replicate a.words.length 0) ∧
    (divr a total (tableOf a cells total) (12 + B + k) ≠ 0 → DivFit (divd a total (tableOf a cells total) (12 + B + k)) (divr a total (tableOf a cells total) (12 + B + k))) ∧
    (divr a total (tableOf a cells total) (12 + B + k) ≠ 0 → (decide ([quo (divd a total (tableOf a cells total) (12 + B + k)) (divr a total (tableOf a cells total) (12 + B + k)), rest (divd a total (tableOf a cells total) (12 + B + k)) (divr a total (tableOf a cells total) (12 + B + k))] = [oneOf total * twoOf total * (a.size : Int), 0]) == (strayN total == 0)) = true) := by
  have hBz : B ≤ 2 ^ 20 + 10 := by
    refine Classical.byContradiction fun hno => ?_
    obtain ⟨s, hs, e⟩ := hEx
    refine hno ?_
    clear hno
    have := hM s (List.mem_of_mem_take hs)
    (first | lia | omega)
  have hone := oneOf_cases total
  have htwo := twoOf_cases total
  have hlen := X.I.1
  have hsmall : ∀ w ∈ a.words, -2 ^ (12 + B + k - 1) < tableOf a cells total w ∧ tableOf a cells total w < 2 ^ (12 + B + k - 1) := fun w hw => small_int (table_small X hc hB hw)
  have hleft : ∀ w ∈ a.words, Builtin.Int.intBits (leftOf a.words (tableOf a cells total) w) ≤ B + 20 := fun w hw => left_abs X K hc hB hw
  have hz := number_zero (total := total) (k := k) X hc hB
  have hone' := fun D => one_bit (total := total) (k := k) (D := D) X K hc hB
  have hsum := left_sum (total := total) X K hc (12 + B + k)
  have hbx : Builtin.Int.intBits (dsum (12 + B + k) (a.words.map (leftOf a.words (tableOf a cells total)))) ≤ (B + 20) + (12 + B + k) * 27 := by
    refine Nat.le_trans (dsum_bits (by (first | lia | omega)) (B := B + 20) fun d hd => ?_) ?_
    · refine Classical.byContradiction fun hno => ?_
      obtain ⟨w, hw, rfl⟩ := List.mem_map.mp hd
      refine hno ?_
      clear hno
      exact hleft w hw
    · rw [List.length_map]
      have := Nat.mul_le_mul_left (12 + B + k) hlen
      (first | lia | omega)
  have hby : Builtin.Int.intBits (dsum (12 + B + k) (a.words.map (tableOf a cells total))) ≤ (12 + B + k) + (12 + B + k) * 27 := by
    refine Nat.le_trans (dsum_bits (by (first | lia | omega)) (B := 12 + B + k) fun d hd => ?_) ?_
    · refine Classical.byContradiction fun hno => ?_
      obtain ⟨w, hw, rfl⟩ := List.mem_map.mp hd
      refine hno ?_
      clear hno
      refine bits_of (Nat.lt_of_lt_of_le (table_small (total := total) (k := k) X hc hB hw) (Nat.pow_le_pow_right (by decide) (by (first | lia | omega))))
    · rw [List.length_map]
      have := Nat.mul_le_mul_left (12 + B + k) hlen
      (first | lia | omega)
  have hoff : dsum (12 + B + k) (a.words.map (offBy a total)) ≠ 0 := by
    intro h
    have e : a.words.map (offBy a total) = List.replicate a.words.length 0 := by
      refine dsum_inj (n := 12 + B + k) (h := 2 ^ 9) ?_ (by rw [List.length_map, List.length_replicate]) (fun d hd => ?_) (fun d hd => ?_) (by rw [h, dsum_zeros])
      · have : (2 : Nat) ^ 10 ≤ 2 ^ (12 + B + k) := Nat.pow_le_pow_right (by decide) (by (first | lia | omega))
        have : ((2 ^ 10 : Nat) : Int) ≤ ((2 ^ (12 + B + k) : Nat) : Int) := Int.ofNat_le.mpr this
        rw [Int.natCast_pow, Int.natCast_pow] at this
        exact this
      · refine Classical.byContradiction fun hno => ?_
        obtain ⟨w, hw, rfl⟩ := List.mem_map.mp hd
        refine hno ?_
        clear hno
        have := small_int (X.E _ (strayW_mem (total := total) K.some) w hw)
        exact ⟨Int.le_of_lt this.1, this.2⟩
      · rw [(List.mem_replicate.mp hd).2]; decide
    refine Classical.byContradiction fun hno => ?_
    obtain ⟨v, hv, hne⟩ := X.F _ (strayW_mem (total := total) K.some)
    refine hno ?_
    clear hno
    have := (List.eq_replicate_iff.mp e).2 _ (List.mem_map.mpr ⟨v, hv, rfl⟩)
    exact hne this
  refine ⟨by (first | lia | omega), hsmall, hleft, ?_, ?_, ?_⟩
  · unfold divr
    rw [sgn_mul htwo]
    exact hz
  · unfold divr divd
    intro hne
    have ex : Builtin.Int.intBits (oneOf total * dsum (12 + B + k) (a.words.map (leftOf a.words (tableOf a cells total)))) ≤ (B + 20) + (12 + B + k) * 27 := Nat.le_trans (bits_mono (Nat.le_of_eq (sgn_natAbs hone))) hbx
    have ey : Builtin.Int.intBits (twoOf total * dsum (12 + B + k) (a.words.map (tableOf a cells total))) ≤ (12 + B + k) + (12 + B + k) * 27 := Nat.le_trans (bits_mono (Nat.le_of_eq (sgn_natAbs htwo))) hby
    have hb1 := bits_pos hne
    refine ⟨by (first | lia | omega), by (first | lia | omega), by (first | lia | omega), ?_⟩
    rcases Nat.lt_or_ge (Builtin.Int.intBits (twoOf total * dsum (12 + B + k) (a.words.map (tableOf a cells total)))) 2 with h1 | h1
    · have e1 := intBits_le_iff.mp (show Builtin.Int.intBits (twoOf total * dsum (12 + B + k) (a.words.map (tableOf a cells total))) ≤ 1 by (first | lia | omega))
      rw [sgn_natAbs htwo] at e1
      rw [hone' _ (by (first | lia | omega)) rfl, Int.mul_zero, bits_zero]
      generalize Builtin.Int.intBits (twoOf total * dsum (12 + B + k) (a.words.map (tableOf a cells total))) = y at *
      have : y = 1 := by (first | lia | omega)
      subst this
      decide
    · generalize Builtin.Int.intBits (twoOf total * dsum (12 + B + k) (a.words.map (tableOf a cells total))) = y at *
      generalize Builtin.Int.intBits (oneOf total * dsum (12 + B + k) (a.words.map (leftOf a.words (tableOf a cells total)))) = x at *
      apply Nat.le_of_lt_succ
      rw [Nat.div_lt_iff_lt_mul (by (first | lia | omega))]
      show x + y - 1 < (2 ^ 24 + 1) * y
      (first | lia | omega)
  · unfold divr divd
    intro hne
    have key : ∀ P E : Int, dsum (12 + B + k) (a.words.map (leftOf a.words (tableOf a cells total))) = P → (a.size : Int) * dsum (12 + B + k) (a.words.map (tableOf a cells total)) = P - E → oneOf total * P = oneOf total * twoOf total * (a.size : Int) * (twoOf total * dsum (12 + B + k) (a.words.map (tableOf a cells total))) + oneOf total * E := fun P E _ e => by
      have e2 : oneOf total * twoOf total * (a.size : Int) * (twoOf total * dsum (12 + B + k) (a.words.map (tableOf a cells total))) = oneOf total * ((a.size : Int) * dsum (12 + B + k) (a.words.map (tableOf a cells total))) := by
        rcases hone with e1 | e1 <;> rcases htwo with e2 | e2 <;> rw [e1, e2] <;> simp [Int.neg_mul, Int.mul_neg]
      rw [e2, e, Int.mul_sub]
      (first | lia | omega)
    have hk := key _ (strayN total * dsum (12 + B + k) (a.words.map (offBy a total))) rfl (by rw [hsum]; (first | lia | omega))
    by_cases h0 : strayN total = 0
    · rw [h0, Int.zero_mul, Int.mul_zero, Int.add_zero] at hk
      obtain ⟨e1, e2⟩ := quo_exact hne hk
      rw [e1, e2, h0]
      simp
    · rw [show (strayN total == 0) = false by simpa using h0]
      refine beq_iff_eq.mpr (decide_eq_false fun hc2 => ?_)
      simp only [List.cons.injEq] at hc2
      refine Classical.byContradiction fun hno => ?_
      obtain ⟨e1, e2, -⟩ := hc2
      refine hno ?_
      clear hno
      have hq := (quo_rest (a := oneOf total * dsum (12 + B + k) (a.words.map (leftOf a.words (tableOf a cells total)))) hne).1
      rw [e1, e2, hk] at hq
      have : oneOf total * (strayN total * dsum (12 + B + k) (a.words.map (offBy a total))) = 0 := by (first | lia | omega)
      rw [sgn_mul hone] at this
      rcases Int.mul_eq_zero.mp this with q | q
      · exact h0 q
      · exact hoff q
theorem lawOk (X : Fin8 a) (K : AOk a) (hc : cells.length = 8) {M : Nat} (hM : ∀ c ∈ cells, Builtin.Int.intBits c ≤ M) (hMz : M ≤ 2 ^ 20 + 10) : LawOk a cells total := by
  refine ⟨plain1 X K hc, fun h0 => by rw [read_pure X hc h0], plain3 X K hc, plain4 X K hc, fun h => ?_, fun B k h1 h2 h3 => plain_wd X K hc hM hMz B k h1 h2 h3⟩
  have h1 := shares_len X hc
  rw [h, brackets_len] at h1
  exact absurd X.I.2.2 (by rw [← h1]; decide)
end
end
section
theorem cells_len : ∀ (zs : List Int) (p : Nat) (cs : List Int), cs.length = 8 → (cellsGo p zs cs).length = 8
  | [], _, _, h => h
  | z :: zs, p, cs, h => cells_len zs (p + 1) _ (by rw [List.length_set]; exact h)
theorem cells_abs {N : Nat} : ∀ (zs : List Int) (p C : Nat) (cs : List Int), cs.length = 8 → (∀ z ∈ zs, z.natAbs ≤ N) → (∀ c ∈ cs, c.natAbs ≤ C) → ∀ c ∈ cellsGo p zs cs, c.natAbs ≤ C + zs.length * N
  | [], _, C, cs, _, _, h, c, hc => Nat.le_trans (h c hc) (Nat.le_add_right _ _)
  | z :: zs, p, C, cs, hl, hz, h, c, hc => by
    have h1 := cells_abs zs (p + 1) (C + N) (cs.set (p % 8) (cs.getD (p % 8) 0 + z)) (by rw [List.length_set]; exact hl) (fun x hx => hz x (List.mem_cons_of_mem _ hx)) (fun x hx => by
      rcases List.mem_or_eq_of_mem_set hx with hx | rfl
      · exact Nat.le_trans (h x hx) (Nat.le_add_right _ _)
      · have h2 := Int.natAbs_add_le (cs.getD (p % 8) 0) z
        have h3 := hz z List.mem_cons_self
        have hlt : p % 8 < cs.length := by omega
        have h4 := h (cs.getD (p % 8) 0) (by rw [getD_lt hlt]; exact List.getElem_mem hlt)
        omega) c hc
    rw [List.length_cons, Nat.succ_mul]
    omega
theorem plain_all (ns : List Int) (hl : ns.length ≤ 63) (hB : ∀ n ∈ ns, Builtin.Int.intBits n ≤ 2 ^ 20) : LawOk alpha4 (cellsOf ns) (cellsOf ns).sum ∧ LawOk alpha3 (cellsOf ns) (cellsOf ns).sum ∧ (cellsOf ns).length = 8 := by
  have hc : (cellsOf ns).length = 8 := cells_len _ _ _ rfl
  generalize hM : 2 ^ 20 = M at hB
  have hM : M ≤ 2 ^ 20 := Nat.le_of_eq hM.symm
  have hcb : ∀ c ∈ cellsOf ns, Builtin.Int.intBits c ≤ M + 7 := fun c hcm => by
    apply bits_of
    have h1 := cells_abs (N := 2 ^ M) (ns.take 60) 0 8 cells0 rfl (fun z hz => Nat.le_of_lt (intBits_le_iff.mp (hB z (List.mem_of_mem_take hz)))) (by decide) c hcm
    have h2 : (ns.take 60).length ≤ 60 := List.length_take_le _ _
    have h3 := Nat.mul_le_mul_right (2 ^ M) h2
    have h4 := Nat.one_le_two_pow (n := M)
    rw [Nat.pow_add]
    omega
  exact ⟨lawOk fin4 aok4 hc hcb (by omega), lawOk fin3 aok3 hc hcb (by omega), hc⟩
end
end Mine
end
section
open PySem PySem.W PySem.Calls PySem.Spec PyProof.Rows
namespace Mine
noncomputable abbrev callCtx : PySem.Ctx := ⟨.builtin "claim.caller" {}, none, none, [], none⟩
theorem call_clean : Clean callCtx := ⟨by decide, fun _ h => (List.not_mem_nil h).elim⟩
theorem endsN {prog : Program} {w : World} {t : Sem Fin} {s : Shared} {R : Result → Shared → Prop} (hz : s.asleep)
    (h : wpN (model prog w) callerA t (fun fin s' => ∃ f, fin = .done f ∧ R (.ok f) s' ∧ leftWithCleanup s'.gens = false) (fun e s' => R (.error e) s' ∧ leftWithCleanup s'.gens = false) s) :
    ∃ n r s' s'', runN (denote table) prog w n s ⟨t, .builtin "claim.caller" {}, default, []⟩ = .halted (outcomeOf r) s' ∧
      schedN (denote table) prog w n (.single s ⟨t, .builtin "claim.caller" {}, default, []⟩) = .halted (outcomeOf r) s' ∧ s'.forget = s''.forget ∧ R r s'' := by
  have h1 := Sem.wp_mono (model prog w) callCtx t (post' := Sem.finPost (model prog w) callCtx fun r s' => R r s' ∧ leftWithCleanup s'.gens = false) (fun fin p s' ⟨f, e, hf⟩ => by subst e; exact hf) (fun _ _ _ x => x) default s (h callCtx default caller_in call_clean)
  refine Classical.byContradiction fun hno => ?_
  obtain ⟨n, r, s1, s2, a, b, c, d⟩ := wp_halts_full (M := model prog w) (R := R) hz h1
  refine hno ?_
  clear hno
  exact ⟨n, r, s2, s1, b, a, c, d⟩

noncomputable abbrev WalkP (q : Program) (loose : List Str) (XP : (Str → Option Value) → Heap → Prop) {α : Type} (Yf : Shared → α) (Ya : World → α) (r : RowW) (nm : Str) : Prop :=
  ∀ (w : World) (s₀ s₁ : Shared) (mb : Str → Option Value), Ground q loose r.records XP w s₀ (s₀.heap.nsMap mainGlobals) mb s₁.heap → Yf s₀ = Ya w → s₀.toks ≤ s₁.toks → (∀ b o, s₀.heap.get? b = some o → s₁.heap.get? b = some o) → s₁.gens = #[] →
    ∀ (f : Value), s₀.heap.nsMap mainGlobals nm = some f → ∀ (args : List WData) (vs : List Value) (as : List Addr), r.claim.pre args = true → WData.layableAll args = true → ReadsAllW r.records (classAt s₀.heap) s₁.heap vs args as →
      wpN (model r.prog w) callerA (call f vs) (fun v s' => GoodWG r.claim (classAt s₀.heap) (ExcName.means s₀.heap) args s₁ (.ok (.ret v)) s') (fun _ _ => False) s₁
theorem holds_of {r : OpenRow} {q : Program} {loose : List Str} {Xt : Shared → Bool} {XP : (Str → Option Value) → Heap → Prop} {α : Type} {Yf : Shared → α} {Ya : World → α} {d : DefRec} {kwd : List (Str × Expr)} {N : Nat}
    (left : LeftO r.prog q loose Xt Yf Ya N) (hX : ∀ s, Xt s = true → XP (s.heap.nsMap mainGlobals) s.heap) (hXk : ∀ mg h h', XP mg h → (∀ b o, h.get? b = some o → h'.get? b = some o) → XP mg h')
    (hdef : defOf q r.name = some (d, kwd)) (hp : r.prog.theDef r.name = some (d.params, d.body, d.scope)) (hk : kwWritten? d.params.kwonlyargs d.params.kw_defaults = some kwd) (hRf : ∀ s, Xt s = true → RecFacts r.records s.heap) (hwr : (!r.writes || r.records.isEmpty) = true)
    (k1 : r.wellSaid = true) (ok : (chainsOk q && opensWell r.prog && (frees r.toRowW && r.within.isEmpty)) = true) (hb : r.prog.bare) (hw : r.toRowW.promised)
    (walk : WalkP q loose XP Yf Ya r.toRowW r.name) : r.Holds := by
  simp only [Bool.and_eq_true] at ok
  refine Classical.byContradiction fun hno => ?_
  obtain ⟨⟨hch, o1⟩, k5, k6⟩ := ok
  refine hno ?_
  clear hno
  refine Classical.byContradiction fun hno => ?_
  obtain ⟨hsame, hu, ha, hap, hm⟩ := frees_parts k5
  refine hno ?_
  clear hno
  refine ⟨k1, hw, ⟨hb, o1, by show r.makers.map _ = []; rw [hm]; rfl⟩, hw.witness, fun w => ⟨(left.behind hX hch w).1, fun s' hs' => ?_⟩⟩
  refine Classical.byContradiction fun hno => ?_
  obtain ⟨s₀, hf, hg0, s, hT, hz, hgens, hg, G2, y⟩ := (left.behind (XP := fun mg h => XP mg h ∧ RecFacts r.records h) (fun s hs => ⟨hX s hs, hRf s hs⟩) hch w).2 s' hs'
  refine hno ?_
  clear hno
  have G0 : Ground q loose [] XP w s (s.heap.nsMap mainGlobals) (s.heap.nsMap builtinsNs) s.heap := ⟨G2.T, G2.B, G2.D, G2.TE, G2.TD, G2.W, G2.X.1, G2.cls, G2.has, G2.apart, G2.once, G2.K⟩
  have RF := G2.X.2
  have G : Ground q loose r.records XP w s _ _ s.heap := RF.ground G0
  have hgens : s.gens = #[] := Array.eq_empty_of_size_eq_zero (beq_iff_eq.mp hgens)
  refine ⟨s₀, hf, hg0, s, hT, fun n hn => ?_, RF.1, RF.2.1, fun args hpre hlay ord hord => ?_⟩
  · have e : n = r.name := by
      cases hpn : r.pinned with
      | true => rw [hpn] at hn; exact List.mem_singleton.mp hn
      | false => rw [hpn] at hn; exact (List.not_mem_nil hn).elim
    rw [e]
    exact pinned_of_view hg G0 hdef hp hk
  refine Classical.byContradiction fun hno => ?_
  obtain ⟨⟨vs, s₁⟩, hlaid⟩ := Option.isSome_iff_exists.mp (layAllW_isSome (P := w.params) (ord := ord) G.has args r.args s (pre_splitW hpre).1)
  refine hno ?_
  clear hno
  have grows := layAllW_grows _ _ _ hlaid
  have hal := layAllW_rest _ _ _ hlaid
  refine Classical.byContradiction fun hno => ?_
  obtain ⟨as, hrd, hin, hold⟩ := reads_layAllW hord _ _ _ hlaid hlay s₁.heap (fun _ _ e => e)
  refine hno ?_
  clear hno
  have L : Laid r.records w s s₁ args vs as := ⟨⟨ord, hord, hlaid⟩, hrd, hin, hold, layAllW_keeps _ _ _ hlaid, hal.1.trans hgens, hal.2.2.1⟩
  have G1 := G.keeps hXk L.keeps
  refine Classical.byContradiction fun hno => ?_
  obtain ⟨a, o, pm, cd, doc, dV, kV, h1, -⟩ := G1.fn hdef
  refine hno ?_
  clear hno
  have hcall := walk w s s₁ _ G1 y grows.toks L.keeps L.gens _ h1 args vs as hpre hlay hrd
  have hi := ident_freeW hu ha hap
  have hwi : r.toRowW.claim.within = [] := List.isEmpty_iff.mp k6
  have htree : wpN (model r.prog w) callerA (do match ← nsGet mainNs r.name with
      | some f => do ret (← PySem.call f vs)
      | none => unsupported "claim.caller:no-such-global") (fun fin s' => ∃ f, fin = .done f ∧ ((r.toRowW.claim.Ends s args vs s₁ (.ok f) s' ∧ s'.os = s.os) ∧ OldK s₁.heap s'.heap) ∧ leftWithCleanup s'.gens = false)
      (fun e s' => ((r.toRowW.claim.Ends s args vs s₁ (.error e) s' ∧ s'.os = s.os) ∧ OldK s₁.heap s'.heap) ∧ leftWithCleanup s'.gens = false) s₁ := by
    refine wpN_bind (wpN.any (wpAny_nsGet G1.T.g ?_))
    rw [show s.heap.nsMap mainGlobals r.name = some (Value.ref a) from h1]
    refine wpN_bind (wpN_mono hcall (fun v s' g => wpN_pure ?_) (fun _ _ x => x.elim))
    refine Classical.byContradiction fun hno => ?_
    obtain ⟨z1, z2, z3⟩ := g.laid (c := r.toRowW.claim) hsame hwi hi L
    refine hno ?_
    clear hno
    exact ⟨_, rfl, ⟨⟨z1, z2⟩, g.2.1⟩, leftWithCleanup_false_of_bare z3⟩
  refine Classical.byContradiction fun hno => ?_
  obtain ⟨k, res, sr, se, hrun, hsched, hfo, ⟨hcase, hos⟩, hold'⟩ := endsN (R := fun res s' => (r.toRowW.claim.Ends s args vs s₁ res s' ∧ s'.os = s.os) ∧ OldK s₁.heap s'.heap) (Shared.asleep_of_life hal.2.2.2 hz) htree
  refine hno ?_
  clear hno
  refine Classical.byContradiction fun hno => ?_
  obtain ⟨eh, _, _, eo, _⟩ := Shared.forget_eq hfo
  refine hno ?_
  clear hno
  have hcase := hcase.congr eh
  rw [← eo] at hos
  rw [← eh] at hold'
  have hlife : sr.heap.life = s.heap.life := (runN_life _ _ _ hrun).trans hal.2.2.2
  refine ⟨vs, s₁, hlaid, k, _, sr, hsched, ?_, (fun _ i x hx => by rw [hgens] at hx; cases hx), (fun q => ⟨namesKept_of hT hg r.keeps L.keeps hold'.old, noTable hwr q⟩), by rw [hlife], Shared.rest_eq hos⟩
  rcases hcase with ⟨v, rfl, d⟩ | ⟨e, ob, cls, rfl, d⟩
  · exact .inl ⟨v, rfl, d.imp_right (And.imp_right (And.imp_right (And.imp_left fun d4 b o y _ => d4 b o y)))⟩
  · exact .inr ⟨e, ob, cls, rfl, d.imp_right (And.imp_right (And.imp_right (And.imp_right fun d5 b o y _ => d5 b o y)))⟩
end Mine
end
section
open PySem PySem.W PySem.Calls PyProof.Rows
namespace Mine
noncomputable def viewM : Program := view PySem.Challenge.pw_wy0023_01 [1, 2, 4, 5, 6, 7, 8, 9, 10, 12, 13, 14, 15, 16, 18, 20, 21, 22, 23, 24, 25, 26, 27, 28, 29, 30]
noncomputable def codeB (h : Heap) (c P : Addr) : Bool := match h.get? c with
  | some o => codeHdIn [(c, o)] c P
  | none => false
noncomputable def codeOf (h : Heap) (x : Str) : Option Value := match h.nsMap mainGlobals x with
  | some (.ref a) => (match h.get? a with
    | some o => (match o.data with
      | .func fd => some fd.code
      | _ => none)
    | none => none)
  | _ => none
noncomputable def seenM (s : Shared) : (Bool × Bool × Bool) × (Option Obj × Option Obj) × (Bool × Bool) × Option Value × Option Value :=
  ((decide (0 < s.toks), s.heap.isNs cStatics, (s.heap.nsMap cStatics sharingNotToldKey).isNone), (s.heap.get? 44, s.heap.get? 51), (codeB s.heap 48 44, codeB s.heap 55 51), codeOf s.heap "_int2digits", codeOf s.heap "_digits2int")
noncomputable def wantM : (Bool × Bool × Bool) × (Option Obj × Option Obj) × (Bool × Bool) × Option Value × Option Value :=
  ((true, true, true), (some (tabObj #[]), some (tabObj #[])), (true, true), some (.ref 48), some (.ref 55))
set_option maxRecDepth 1000000 in
set_option maxHeartbeats 0 in
theorem leftM : LeftO PySem.Challenge.pw_wy0023_01 viewM [] (fun s => recOk [] s) seenM (fun _ => wantM) 1750 := fun w => by kernel_rfl
end Mine
namespace Mine
noncomputable def nestedOf (x : Str) : Option Def := if x = qn7 then some (innerAt 7 1) else if x = qn8 then some (innerAt 8 0) else none
noncomputable def partsOf (d : DefRec) : Def := ⟨d.name, d.params, d.body, d.scope⟩
noncomputable def freeB (x : Str) : Bool := !(startupNames.contains x || (looseW viewM []).contains x || ((recsOf viewM).map (·.name)).contains x || ((litsOf viewM).map (·.1)).contains x || ((clssOf viewM (looseW viewM [])).map (·.name)).contains x)
theorem recs_eq : (recsOf viewM).map partsOf = fnTab.map fun p => defAt p.2 := by kernel_rfl
theorem bi_free : biTab.all (fun p => freeB p.1) = true := by kernel_rfl
theorem lim_val : valOf viewM "_DIV_LIMIT" = some (.int 4000) := by kernel_rfl
theorem fn_names : fnTab.all (fun p => (defAt p.2).name == p.1) = true := by kernel_rfl
theorem bi_boots : biTab.all (fun p => match p.2, bootBuiltins p.1 with | .builtin a, some (.builtin b) => a == b | .type a, some (.type b) => a == b | _, _ => false) = true := by kernel_rfl
theorem lookup_memT {α : Type} {x : Str} {y : α} : ∀ {l : List (Str × α)}, l.lookup x = some y → (x, y) ∈ l
  | [], h => by cases h
  | (a, b) :: l, h => by
    rw [List.lookup_cons] at h
    cases e : x == a with
    | true => rw [e] at h; cases h; rw [eq_of_beq e]; exact .head _
    | false => rw [e] at h; exact .tail _ (lookup_memT h)
noncomputable abbrev tabsM : List (Addr × Addr) := [(48, 44), (55, 51)]
section
variable {w : World} {s₀ s₁ : Shared} {mb : Str → Option Value} {R : WRecords} {XP : (Str → Option Value) → Heap → Prop}
noncomputable abbrev fxOf (w : World) (s₀ s₁ : Shared) : Fx := ⟨PySem.Challenge.pw_wy0023_01, w, s₀.heap.nsMap mainGlobals, nestedOf, ghostOf s₁.heap tabsM, s₁.os⟩
theorem codeB_hd {h : Heap} {c P : Addr} (e : codeB h c P = true) : CodeHd h c P := by
  unfold codeB at e
  split at e
  · rename_i o ho
    refine codeHd_of_K (K := [(c, o)]) (fun a o' h' => ?_) e
    rw [List.lookup_cons] at h'
    cases q : a == c with
    | true => rw [q] at h'; cases h'; rw [eq_of_beq q]; exact ho
    | false => rw [q] at h'; cases h'
  · cases e
theorem tabs_at (keeps : ∀ b o, s₀.heap.get? b = some o → s₁.heap.get? b = some o) (y : seenM s₀ = wantM) : TabsAt tabsM s₁.heap := fun p hp => by
  have y2 := congrArg (·.2.1) y
  have y3 := congrArg (·.2.2.1) y
  have k : ∀ {c P}, CodeHd s₀.heap c P → CodeHd s₁.heap c P := fun ⟨o, vs, file, tf, flags, tg, inF, text, tt, e1, r⟩ => ⟨o, vs, file, tf, flags, tg, inF, text, tt, keeps _ _ e1, r⟩
  rcases List.mem_cons.mp hp with rfl | hp
  · exact ⟨k (codeB_hd (congrArg (·.1) y3)), keeps _ _ (congrArg (·.1) y2)⟩
  · rw [List.mem_singleton.mp hp]
    exact ⟨k (codeB_hd (congrArg (·.2) y3)), keeps _ _ (congrArg (·.2) y2)⟩
theorem codeRec_ghost {h₁ : Heap} {tabs : List (Addr × Addr)} {cd : Value} {n : Str} (hT : TabsAt tabs h₁) (x : h₁.CodeRec cd n) : (ghostOf h₁ tabs).CodeRec cd n := by
  refine Classical.byContradiction fun hno => ?_
  obtain ⟨c, o, vs, t, e, g, hd, hv⟩ := x
  refine hno ?_
  clear hno
  refine ⟨c, o, vs, t, e, ghost_get hT g fun q => ?_, hd, hv⟩
  subst q
  cases hd
  cases hv
theorem prog_of (G : Ground viewM [] R XP w s₀ (s₀.heap.nsMap mainGlobals) mb s₁.heap) (keeps : ∀ b o, s₀.heap.get? b = some o → s₁.heap.get? b = some o) (y : seenM s₀ = wantM) (hT : TabsAt tabsM s₁.heap) : Prog (fxOf w s₀ s₁) where
  T := {
    g := ghost_ns hT G.T.g
    b := ⟨mb, ghost_ns hT G.T.b, G.T.builtins⟩
    nolimit := let ⟨mc, a, r⟩ := G.T.nolimit; ⟨mc, ghost_ns hT a, r⟩
    nodigits := let ⟨mc, a, r⟩ := G.T.nodigits; ⟨mc, ghost_ns hT a, r⟩
    booked := ⟨_, ghost_ns hT ((Heap.Ns.of_isNs (congrArg (·.1.2.1) y)).keeps keeps), Option.isNone_iff_eq_none.mp (congrArg (·.1.2.2) y)⟩
    bmain := let ⟨bm, ob, a1, a2, a3, a4, r⟩ := G.T.bmain; ⟨bm, ob, a1, a2, ghost_get hT a3 (fun q => by rw [q] at a4; cases a4), a4, r⟩ }
  fn := fun x i h => by
    have hm := lookup_memT h
    have e1 := List.all_eq_true.mp fn_names _ hm
    obtain ⟨d, hd, ed⟩ := List.mem_map.mp (show defAt i ∈ (recsOf viewM).map partsOf by rw [recs_eq]; exact List.mem_map.mpr ⟨(x, i), hm, rfl⟩)
    refine Classical.byContradiction fun hno => ?_
    obtain ⟨a, o, pm, code, doc, h1, h2, h3, h4⟩ := G.T.fn d hd
    refine hno ?_
    clear hno
    dsimp only at e1
    rw [← ed] at e1 ⊢
    exact ⟨⟨a, o, pm, code, doc, h1, ghost_get hT h2 (fun q => by rw [q] at h3; cases h3), h3, codeRec_ghost hT h4⟩, eq_of_beq e1⟩
  bi := fun x v h => by
    have hm := lookup_memT h
    have e1 := List.all_eq_true.mp bi_free _ hm
    have e2 := List.all_eq_true.mp bi_boots _ hm
    refine ⟨?_, ?_⟩
    · simp only [freeB, Bool.not_eq_true', Bool.or_eq_false_iff] at e1
      have nc : ∀ {l : List Str}, l.contains x = false → x ∉ l := fun q m => by rw [List.contains_iff_mem.mpr m] at q; cases q
      exact G.T.free x (nc e1.1.1.1.1) (nc e1.1.1.1.2) (nc e1.1.1.2) (nc e1.1.2) (nc e1.2)
    · dsimp only at e2
      split at e2
      · rename_i a b e3; rw [e3, eq_of_beq e2]
      · rename_i a b e3; rw [e3, eq_of_beq e2]
      · cases e2
  lim := by
    refine Classical.byContradiction fun hno => ?_
    obtain ⟨v, h1, h2⟩ := G.T.const _ _ lim_val
    refine hno ?_
    clear hno
    cases h2 default with
    | int _ t => exact ⟨t, h1⟩
theorem nest_at (keeps : ∀ b o, s₀.heap.get? b = some o → s₁.heap.get? b = some o) (hT : TabsAt tabsM s₁.heap) (G' : Prog (fxOf w s₀ s₁)) {x : Str} {i j : Nat} {qn : Str} {c P : Addr} (hx : fnTab.lookup x = some i)
    (ht : codeOf s₀.heap x = some (.ref c)) (hm : (c, P) ∈ tabsM) (hn : nestedOf qn = some (innerAt i j)) : Nest (fxOf w s₀ s₁) i j qn c P where
  F := by
    refine Classical.byContradiction fun hno => ?_
    obtain ⟨⟨a, o, pm, code, doc, h1, h2, h3, h4⟩, e⟩ := G'.fn x i hx
    refine hno ?_
    clear hno
    have hg : s₁.heap.get? a = some o := of_hideAll _ h2
    rw [e] at h1
    have h1' : s₀.heap.nsMap mainGlobals x = some (.ref a) := h1
    have e2 : code = .ref c := by
      unfold codeOf at ht
      rw [h1'] at ht
      dsimp only at ht
      split at ht
      · rename_i o' ho'
        rw [keeps _ _ ho'] at hg
        cases hg
        rw [h3] at ht
        cases ht
        rfl
      · cases ht
    subst e2
    exact ⟨a, o, pm, doc, by rw [e]; exact h1, h2, h3, h4⟩
  C := by
    refine Classical.byContradiction fun hno => ?_
    obtain ⟨o, vs, file, tf, flags, tg, inF, text, tt, e1, r1, r2⟩ := (hT _ hm).1
    refine hno ?_
    clear hno
    exact ⟨o, vs, file, tf, flags, tg, inF, text, tt, ghost_get hT e1 (fun q => by rw [q] at r1; cases r1), r1, r2⟩
  nd := hn
end
end Mine
namespace Mine
theorem items_of {R : WRecords} {cl : Str → Option Addr} {h : Heap} {N : Nat} : ∀ {xs : List WData} {ws : List Value} {as : List Addr}, WShape.hasItems R xs .int = true → ReadsAllW R cl h ws xs as → WData.weightAll xs ≤ N →
    ∃ ns : List Int, xs = ns.map .int ∧ (∀ (X : Fx) (W : Wd), IsL X W ws (intsOf ns)) ∧ ∀ n ∈ ns, Builtin.Int.intBits n ≤ N
  | [], ws, as, _, r, _ => by
    obtain ⟨rfl, -⟩ := readsAllW_nil_inv r
    exact ⟨[], rfl, fun X W => IsL.nil, fun n hn => (List.not_mem_nil hn).elim⟩
  | x :: xs, ws, as, hi, r, hw => by
    simp only [WShape.hasItems, Bool.and_eq_true] at hi
    obtain ⟨i, rfl⟩ := hasW_int hi.1
    refine Classical.byContradiction fun hno => ?_
    obtain ⟨v, vs', as1, as2, rfl, rfl, r1, r2⟩ := readsAllW_cons_inv r
    refine hno ?_
    clear hno
    simp only [WData.weightAll] at hw
    refine Classical.byContradiction fun hno => ?_
    obtain ⟨ns, rfl, h1, h2⟩ := items_of (N := N) hi.2 r2 (by (first | lia | omega))
    refine hno ?_
    clear hno
    refine ⟨i :: ns, rfl, fun X W => IsL.cons ?_ (h1 X W), fun n hn => ?_⟩
    · cases r1 with
      | int _ t => simp only [Is]; exact ⟨t, rfl⟩
    · rcases List.mem_cons.mp hn with rfl | hn
      · have : WData.weight (.int n) ≤ N := by (first | lia | omega)
        exact this
      · exact h2 n hn
section
variable {XP : (Str → Option Value) → Heap → Prop}
theorem args_of {r : RowW} (hr : r.args = [.list .int]) {args : List WData} {vs : List Value} {as : List Addr} {cl : Str → Option Addr} {h : Heap} (hpre : r.claim.pre args = true) (hlay : WData.layableAll args = true) (hrd : ReadsAllW r.records cl h vs args as) :
    ∃ (ns : List Int) (l : Addr) (o : Obj) (ws : Array Value) (n : Nat), args = [.list (ns.map .int)] ∧ vs = [.ref l] ∧ h.get? l = some o ∧ o.cls = .type "list" ∧ o.data = .seq ws n ∧ (∀ (X : Fx) (W : Wd), IsL X W ws.toList (intsOf ns)) ∧ ∀ n ∈ ns, Builtin.Int.intBits n ≤ 2 ^ 20 := by
  have h1 := (pre_splitW hpre).1
  rw [hr] at h1
  refine Classical.byContradiction fun hno => ?_
  obtain ⟨d, rest, rfl, hd, hrest⟩ := hasAllW_cons h1
  refine hno ?_
  clear hno
  obtain rfl := hasAllW_nil hrest
  refine Classical.byContradiction fun hno => ?_
  obtain ⟨xs, rfl, hit⟩ := hasW_list hd
  refine hno ?_
  clear hno
  refine Classical.byContradiction fun hno => ?_
  obtain ⟨v, vs', as1, as2, rfl, rfl, r1, r2⟩ := readsAllW_cons_inv hrd
  refine hno ?_
  clear hno
  obtain ⟨rfl, -⟩ := readsAllW_nil_inv r2
  refine Classical.byContradiction fun hno => ?_
  obtain ⟨l, ws, as', rfl, ⟨o, ho, hc, n, hdt⟩, ri, -⟩ := readsW_list_inv r1
  refine hno ?_
  clear hno
  have hl : WData.layable (.list xs) = true := by
    simpa [WData.layableAll] using hlay
  have hw : WData.weight (.list xs) ≤ 2 ^ 20 := by
    unfold WData.layable at hl
    simp only [Bool.and_eq_true, decide_eq_true_eq] at hl
    exact hl.2
  have hw : WData.weightAll xs ≤ 2 ^ 20 := hw
  refine Classical.byContradiction fun hno => ?_
  obtain ⟨ns, rfl, h2, h3⟩ := items_of hit ri hw
  refine hno ?_
  clear hno
  exact ⟨ns, l, o, ws, n, rfl, rfl, ho, hc, hdt, h2, h3⟩
theorem walk_of {r : RowW} (hr : r.args = [.list .int]) (hrp : r.prog = PySem.Challenge.pw_wy0023_01) (hrr : r.records = []) (hra : ∀ a x, r.claim.raises a x = false) (hpo : ∀ args, r.claim.pre args = true → r.claim.post args (.bool true) args = true) (hln : ∀ ns : List Int, r.claim.pre [.list (ns.map .int)] = true → ns.length ≤ 63) :
    WalkP viewM [] XP seenM (fun _ => wantM) r "law" := by
  intro w s₀ s₁ mb G y htk keeps hgens f hf args vs as' hpre hlay hrd
  have hpos : 0 < s₁.toks := Nat.lt_of_lt_of_le (of_decide_eq_true (congrArg (·.1.1) y)) htk
  have hT := tabs_at keeps y
  have G' := prog_of G keeps y hT
  have N7 : Nest (fxOf w s₀ s₁) 7 1 qn7 48 44 := nest_at keeps hT G' (x := "_int2digits") rfl (congrArg (·.2.2.2.1) y) (.head _) (by unfold nestedOf; rw [if_pos rfl])
  have N8 : Nest (fxOf w s₀ s₁) 8 0 qn8 55 51 := nest_at keeps hT G' (x := "_digits2int") rfl (congrArg (·.2.2.2.2) y) (.tail _ (.head _)) (by unfold nestedOf; rw [if_neg (by decide +kernel), if_pos rfl])
  refine Classical.byContradiction fun hno => ?_
  obtain ⟨ns, l, o, ws, n, rfl, rfl, ho, hc, hdt, hI, hB⟩ := args_of hr hpre hlay hrd
  refine hno ?_
  clear hno
  have hlen := hln ns hpre
  refine Classical.byContradiction fun hno => ?_
  obtain ⟨F4, F3, hcl⟩ := plain_all ns hlen hB
  refine hno ?_
  clear hno
  have hlg : (ghostOf s₁.heap tabsM).get? l = some o := ghost_get hT ho (fun q => by rw [q] at hc; cases hc)
  have law := spec_law (X := fxOf w s₀ s₁) (A := callerA) (hs := []) (n := 0) (Q := fun b h => b = .bool true ∧ h = [(44, .tab (posAt 7 1) qn7), (51, .tab (posAt 8 0) qn8)]) G' N7 N8 ⟨rfl, by decide, by decide⟩ rfl rfl hlen turn4 rev4 turn3 rev3 F4 F3 hcl ⟨rfl, rfl⟩
  have rel : Rel (fxOf w s₀ s₁) (ghostOf s₁.heap tabsM).get? ⟨fun a => if a = l then some o else none, fun _ => none⟩ [(44, .tab (posAt 7 1) qn7), (51, .tab (posAt 8 0) qn8)] s₁ := by
    have nP : ∀ P ∈ [44, 51], (ghostOf s₁.heap tabsM).get? P = none := fun P hP => hideAll_none _ hP
    have lP : ∀ P ∈ [44, 51], P ≠ l := fun P hP e => by
      have := nP P hP
      rw [e, hlg] at this
      cases this
    have at8 : ∀ p ∈ [(44, AO.tab (posAt 7 1) qn7), (51, AO.tab (posAt 8 0) qn8)], p.1 ∈ [44, 51] := fun p hp => by
      rcases List.mem_cons.mp hp with rfl | hp
      · exact .head _
      · rw [List.mem_singleton.mp hp]; exact .tail _ (.head _)
    refine ⟨fun b o e => e, fun b o e => of_hideAll _ e, fun b o e => ?_, fun b o e => ?_, fun a o hm => ?_, ?_, fun a o hm => nP a (at8 _ hm), fun a o hm => if_neg (lP a (at8 _ hm)), fun t x e => (by cases e), hpos, hgens, rfl⟩
    · dsimp only at e
      split at e
      · subst b; cases e; exact ho
      · cases e
    · dsimp only at e
      split at e
      · subst b; cases e; exact .inr hlg
      · cases e
    · rcases List.mem_cons.mp hm with e | hm
      · cases e; exact ⟨#[], (hT _ (.head _)).2, .inl rfl⟩
      · cases List.mem_singleton.mp hm; exact ⟨#[], (hT _ (.tail _ (.head _))).2, .inl rfl⟩
    · refine List.pairwise_cons.mpr ⟨fun p hp => ?_, List.pairwise_singleton _ _⟩
      rw [List.mem_singleton.mp hp]
      show (44 : Nat) ≠ 51
      decide
  rw [hrp]
  refine wpN_mono (law _ _ s₁ f [.ref l] rel ?_ ?_) ?_ (fun _ _ x => x.elim)
  · refine Classical.byContradiction fun hno => ?_
    obtain ⟨⟨a, _, _, _, _, h1, _⟩, e⟩ := G'.fn "law" 30 rfl
    refine hno ?_
    clear hno
    rw [e] at h1
    have h1 : s₀.heap.nsMap mainGlobals "law" = some (.ref a) := h1
    rw [hf] at h1
    cases h1
    simp only [Is]
    exact ⟨a, rfl, hf⟩
  · refine IsL.cons ?_ IsL.nil
    simp only [Is]
    exact ⟨l, o, ws, n, rfl, if_pos rfl, hc, hdt, hI _ _⟩
  · rintro v s' ⟨W', b, h2, le, hv, rel', rfl, rfl⟩
    simp only [Is] at hv
    subst hv
    have grown : ∀ b ∈ tabsM.map (·.2), isCodeTable s₁.heap b ∧ s₁.heap.get? b = some (tabObj #[]) ∧ ∃ ps, s'.heap.get? b = some (tabObj ps) := fun b hb => by
      refine Classical.byContradiction fun hno => ?_
      obtain ⟨p, hp, rfl⟩ := List.mem_map.mp hb
      refine hno ?_
      clear hno
      refine ⟨((hT p hp).1.tab (hT p hp).2).isCodeTable, (hT p hp).2, ?_⟩
      rcases List.mem_cons.mp hp with rfl | hp
      · obtain ⟨ps, h, -⟩ := rel'.objs _ _ (.head _); exact ⟨ps, h⟩
      · rw [List.mem_singleton.mp hp]
        obtain ⟨ps, h, -⟩ := rel'.objs _ _ (.tail _ (.head _)); exact ⟨ps, h⟩
    refine ⟨.inl ⟨.bool true, .bool true, [], rfl, fun x => hra _ x, .bool true, hpo _ hpre, fun _ => ⟨.nil, fun a ha => (List.not_mem_nil ha).elim⟩⟩, ⟨fun b o e => ?_, fun b o e => ?_⟩, rel'.os, .of_eq rel'.gens⟩
    · by_cases hb : b ∈ tabsM.map (·.2)
      · refine Classical.byContradiction fun hno => ?_
        obtain ⟨g1, g2, ps, g3⟩ := grown b hb
        refine hno ?_
        clear hno
        rw [e] at g2
        cases g2
        exact .inr (.inl ⟨g1, rfl, #[], ps, rfl, by rw [Array.empty_append]; exact g3⟩)
      · exact .inl (rel'.hbk b o (ghost_ne e hb))
    · by_cases hb : b ∈ tabsM.map (·.2)
      · refine Classical.byContradiction fun hno => ?_
        obtain ⟨_, _, ps, g3⟩ := grown b hb
        refine hno ?_
        clear hno
        exact ⟨_, g3⟩
      · exact ⟨o, rel'.hbk b o (ghost_ne e hb)⟩
end
theorem main : _root_.PySem.Challenge.rw_wy0023_01.Holds := by
  refine ⟨by kernel_rfl, ?_⟩
  refine holds_of (q := viewM) (loose := []) (XP := fun _ _ => True) leftM (fun _ _ => trivial) (fun _ _ _ _ _ => trivial) (by rfl) (by rfl) (by rfl) (fun s e => recFacts_of e) rfl (by kernel_rfl) (by kernel_rfl) ⟨rfl, rfl, rfl, rfl, rfl, by kernel_rfl⟩ ?_ ?_
  · exact ⟨[.list []], by kernel_rfl, by kernel_rfl⟩
  · refine walk_of rfl rfl rfl (fun _ _ => rfl) (fun args h => by wrow_post) (fun ns h => ?_)
    have h := (pre_splitW h).2
    w_cond h
    have hc : ¬ ((63 : Nat) : Int) < ((ns.map WData.int).length : Int) := by assumption
    rw [List.length_map] at hc
    (first | lia | omega)
end Mine
end
theorem PySem.Challenge.cw_wy0023_01_holds : PySem.Challenge.rw_wy0023_01.Holds := by
  exact Mine.main
