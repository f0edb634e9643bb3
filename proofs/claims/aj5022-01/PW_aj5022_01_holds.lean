import PyProof.Rows.All
import Wide.All
import OpenK.AllK
import Wide.FinOn
import PyProof.StrLawsTight
import PyProof.StrLawsReplace
import KE.KIntText
import PySem.Challenge.RW_aj5022_01
-- Hd
open PySem PySem.W PyProof.Rows
set_option Elab.async false
namespace Mine
set_option maxRecDepth 100000 in
set_option maxHeartbeats 8000000 in
open_top hd for PySem.Challenge.rw_aj5022_01
end Mine
open PySem.Calls
set_option maxRecDepth 100000
set_option linter.unusedVariables false
set_option linter.unusedSimpArgs false

-- PyA
section
namespace Mine

abbrev PV := PyData
abbrev PEnv := List (Str × Option PV)
abbrev pg : Program := PySem.Challenge.pw_aj5022_01
noncomputable def KK (w : World) : Frag := hd.heap_39 w.params

mutual
def noDict : PV → Bool
  | .none | .bool _ | .int _ | .str _ => true
  | .list xs | .tuple xs => noDicts xs
  | .dict _ => false
def noDicts : List PV → Bool
  | [] => true
  | x :: r => noDict x && noDicts r
end

def Rep (h : Heap) (v : Value) (d : PV) : Prop := noDict d = true ∧ ∃ as, Reads h v d as
def RepAll (h : Heap) (vs : List Value) (ds : List PV) : Prop := noDicts ds = true ∧ ∃ as, ReadsAll h vs ds as
def Grow (h h' : Heap) : Prop := ∀ b o, h.get? b = some o → h'.get? b = some o
theorem Grow.refl (h : Heap) : Grow h h := fun _ _ e => e
theorem Grow.trans {a b c : Heap} (x : Grow a b) (y : Grow b c) : Grow a c := fun i o e => y i o (x i o e)
theorem Grow.but {h h' : Heap} (x : Grow h h') (L : Addr) : Heap.ExtBut L h h' := fun b o _ e => x b o e
theorem Grow.push (h : Heap) (o : Obj) : Grow h (h.push o) := fun _ _ e => Heap.get?_push_of_some o e

theorem Rep.grow {h h' : Heap} {v : Value} {d : PV} (r : Rep h v d) (g : Grow h h') : Rep h' v d := let ⟨a, as, x⟩ := r; ⟨a, as, PyProof.Rows.Reads.keeps g x⟩
theorem RepAll.grow {h h' : Heap} {v : List Value} {d : List PV} (r : RepAll h v d) (g : Grow h h') : RepAll h' v d := let ⟨a, as, x⟩ := r; ⟨a, as, PyProof.Rows.ReadsAll.keeps g x⟩
theorem RepAll.nil {h : Heap} : RepAll h [] [] := ⟨rfl, _, .nil⟩
theorem RepAll.cons {h : Heap} {v vs d ds} (x : Rep h v d) (y : RepAll h vs ds) : RepAll h (v :: vs) (d :: ds) := by
  obtain ⟨a, as, r⟩ := x; obtain ⟨b, bs, q⟩ := y
  exact ⟨by simp [noDicts, a, b], _, .cons r q⟩
theorem RepAll.uncons {h : Heap} {vs d ds} (x : RepAll h vs (d :: ds)) : ∃ v vr, vs = v :: vr ∧ Rep h v d ∧ RepAll h vr ds := by
  obtain ⟨a, as, r⟩ := x
  cases r with
  | cons r q =>
    simp only [noDicts, Bool.and_eq_true] at a
    exact ⟨_, _, rfl, ⟨a.1, _, r⟩, ⟨a.2, _, q⟩⟩
theorem RepAll.unnil {h : Heap} {vs} (x : RepAll h vs []) : vs = [] := by
  obtain ⟨_, as, r⟩ := x; cases r; rfl
theorem RepAll.length {h : Heap} {vs ds} (x : RepAll h vs ds) : vs.length = ds.length := by
  obtain ⟨_, as, r⟩ := x; exact PySem.SeqAt.ReadsAll.length _ _ _ r

/-- an object that is a dict is read by no value without dicts -/
def DictAt (L : Addr) (h : Heap) : Prop := ∃ o es ep, h.get? L = some o ∧ o.data = .dict es ep
mutual
theorem reads_but {L : Addr} {h h' : Heap} (hL : DictAt L h) (g : Heap.ExtBut L h h') : ∀ {v : Value} {d : PV} {as : List Addr}, noDict d = true → Reads h v d as → Reads h' v d as
  | _, _, _, _, .none => .none
  | _, _, _, _, .bool b => .bool b
  | _, _, _, _, .int i t => .int i t
  | _, _, _, _, .str x t => .str x t
  | _, _, _, hn, .list h1 h2 h3 h4 => .list (g _ _ (by rintro rfl; obtain ⟨o, es, ep, e1, e2⟩ := hL; rw [h1] at e1; cases e1; rw [h3] at e2; cases e2) h1) h2 h3 (readsAll_but hL g (by simpa [noDict] using hn) h4)
  | _, _, _, hn, .tuple h1 h2 h3 h4 => .tuple (g _ _ (by rintro rfl; obtain ⟨o, es, ep, e1, e2⟩ := hL; rw [h1] at e1; cases e1; rw [h3] at e2; cases e2) h1) h2 h3 (readsAll_but hL g (by simpa [noDict] using hn) h4)
  | _, _, _, hn, .dict .. => by simp [noDict] at hn
theorem readsAll_but {L : Addr} {h h' : Heap} (hL : DictAt L h) (g : Heap.ExtBut L h h') : ∀ {vs : List Value} {ds : List PV} {as : List Addr}, noDicts ds = true → ReadsAll h vs ds as → ReadsAll h' vs ds as
  | _, _, _, _, .nil => .nil
  | _, _, _, hn, .cons h1 h2 => by
    simp only [noDicts, Bool.and_eq_true] at hn
    exact .cons (reads_but hL g hn.1 h1) (readsAll_but hL g hn.2 h2)
end
theorem Rep.but {L : Addr} {h h' : Heap} {v d} (r : Rep h v d) (hL : DictAt L h) (g : Heap.ExtBut L h h') : Rep h' v d := let ⟨a, as, x⟩ := r; ⟨a, as, reads_but hL g a x⟩
theorem RepAll.but {L : Addr} {h h' : Heap} {v d} (r : RepAll h v d) (hL : DictAt L h) (g : Heap.ExtBut L h h') : RepAll h' v d := let ⟨a, as, x⟩ := r; ⟨a, as, readsAll_but hL g a x⟩

structure HOk (w : World) (h : Heap) : Prop where
  K : (KK w).In h
  T : ∃ p loose mean mg mb, Top p loose mean mg mb h
theorem HOk.grow {w : World} {h h' : Heap} (x : HOk w h) (g : Grow h h') : HOk w h' := ⟨x.K.keeps g, let ⟨p, l, m, a, b, t⟩ := x.T; ⟨p, l, m, a, b, t.keeps g⟩⟩

structure Room (n : Nat) (A : Around) : Prop where
  d : A.depth + n < recursionLimit
  u : A.units + 8 * n + 400 < cLine
  hd : A.handled = none
theorem Room.le {n k : Nat} {A : Around} (x : Room n A) (h : k ≤ n) : Room k A := ⟨by have := x.d; omega, by have := x.u; omega, x.hd⟩
theorem Room.zero {n : Nat} {A : Around} (x : Room n A) : Room 0 A := x.le (Nat.zero_le _)

structure Inv (w : World) (scope : Scope) (Γ : List Str) (L : Addr) (h₀ h : Heap) (ρ : PEnv) : Prop where
  fr : ∃ m, Fr h₀ L h m ∧ ∀ x d, (x, some d) ∈ ρ → ∃ v, m x = some v ∧ Rep h v d
  hok : HOk w h₀
  kind : scope.kind = .function
  nodup : (ρ.map (·.1)).Nodup
  loc : ∀ x ∈ ρ.map (·.1), scope.names.lookup x = some .local ∧ (x == ("__debug__" : Str)) = false
  glo : ∀ x ∈ Γ, scope.names.lookup x = some .globalImplicit ∧ (x == ("__debug__" : Str)) = false

section
variable {w : World} {scope : Scope} {Γ : List Str} {L : Addr} {h₀ h h' : Heap} {ρ : PEnv}
theorem Inv.dict (I : Inv w scope Γ L h₀ h ρ) : DictAt L h := by
  obtain ⟨m, F, _⟩ := I.fr
  obtain ⟨o, es, ep, a, b, _⟩ := F.ns
  exact ⟨o, es, ep, a, b⟩
theorem Inv.grow (I : Inv w scope Γ L h₀ h ρ) (g : Grow h h') : Inv w scope Γ L h₀ h' ρ where
  fr := by
    obtain ⟨m, F, r⟩ := I.fr
    exact ⟨m, ⟨F.ns.keeps g, fun b o e => g b o (F.keep b o e), F.above⟩, fun x d hx => by obtain ⟨v, a, b⟩ := r x d hx; exact ⟨v, a, b.grow g⟩⟩
  hok := I.hok
  kind := I.kind
  nodup := I.nodup
  loc := I.loc
  glo := I.glo
theorem Inv.here (I : Inv w scope Γ L h₀ h ρ) : HOk w h := by
  obtain ⟨m, F, _⟩ := I.fr
  exact I.hok.grow F.keep
end

/-- the value d is stored under x -/
inductive Upd (x : Str) (d : PV) : PEnv → PEnv → Prop
  | head {o ρ} : Upd x d ((x, o) :: ρ) ((x, some d) :: ρ)
  | tail {p ρ ρ'} : Upd x d ρ ρ' → Upd x d (p :: ρ) (p :: ρ')
theorem Upd.names {x d ρ ρ'} (u : Upd x d ρ ρ') : ρ'.map (·.1) = ρ.map (·.1) := by
  induction u with
  | head => rfl
  | tail _ ih => simp [ih]
theorem Upd.mem {x d ρ ρ'} (u : Upd x d ρ ρ') : x ∈ ρ.map (·.1) := by
  induction u with
  | head => simp
  | tail _ ih => simp only [List.map_cons]; exact .tail _ ih
theorem Upd.look {x d ρ ρ'} (u : Upd x d ρ ρ') (hn : (ρ.map (·.1)).Nodup) : ∀ y e, (y, some e) ∈ ρ' → (y = x ∧ e = d) ∨ (y ≠ x ∧ (y, some e) ∈ ρ) := by
  induction u with
  | head =>
    intro y e hm
    simp only [List.map_cons, List.nodup_cons] at hn
    rcases List.mem_cons.mp hm with q | q
    · cases q; exact .inl ⟨rfl, rfl⟩
    · refine .inr ⟨?_, .tail _ q⟩
      rintro rfl
      exact hn.1 (List.mem_map_of_mem (f := (·.1)) q)
  | tail u ih =>
    intro y e hm
    simp only [List.map_cons, List.nodup_cons] at hn
    rcases List.mem_cons.mp hm with q | q
    · subst q
      refine .inr ⟨?_, .head _⟩
      rintro rfl
      exact hn.1 u.mem
    · rcases ih hn.2 y e q with r | r
      · exact .inl r
      · exact .inr ⟨r.1, .tail _ r.2⟩

theorem Inv.set {w : World} {scope : Scope} {Γ : List Str} {L : Addr} {h₀ h h' : Heap} {ρ ρ' : PEnv} {x : Str} {d : PV} {v : Value} (I : Inv w scope Γ L h₀ h ρ) (u : Upd x d ρ ρ') (r : Rep h v d)
    {m : Str → Option Value} (F : Fr h₀ L h m) (hr : ∀ x d, (x, some d) ∈ ρ → ∃ v, m x = some v ∧ Rep h v d)
    (F' : Fr h₀ L h' (fun y => if y = x then some v else m y)) (hs : Heap.ExtBut L h h') : Inv w scope Γ L h₀ h' ρ' where
  fr := by
    refine ⟨_, F', fun y e hy => ?_⟩
    rcases u.look I.nodup y e hy with ⟨rfl, rfl⟩ | ⟨hn, hm⟩
    · exact ⟨v, by simp, r.but I.dict hs⟩
    · obtain ⟨v', a, b⟩ := hr y e hm
      exact ⟨v', by simp [hn, a], b.but I.dict hs⟩
  hok := I.hok
  kind := I.kind
  nodup := by rw [u.names]; exact I.nodup
  loc := by rw [u.names]; exact I.loc
  glo := I.glo

theorem withToks {α : Type} {M : Model} {A : Around} {t : Sem α} {Q : α → Shared → Prop} {E : Value → Shared → Prop} {s : Shared} (hp : 0 < s.toks)
    (h : wpAny M A t (fun a s' => 0 < s'.toks → Q a s') E s) : wpAny M A t Q E s :=
  wpAny_with_toks (n := 1) hp (wpAny_mono h (fun _ _ x => x) (fun _ _ x _ => x))

/-! ## judgements -/
structure EvE (w : World) (n : Nat) (Γ : List Str) (ρ : PEnv) (e : Expr) (d : PV) (ρ' : PEnv) : Prop where
  run : ∀ (nm : Str) (scope : Scope) (L a : Addr) (cd : Value) (A : Around) (h₀ : Heap) (s : Shared) (Q : Value → Shared → Prop) (E : Value → Shared → Prop),
    Inv w scope Γ L h₀ s.heap ρ → Room n A → 0 < s.toks →
    (∀ v h' tk, 0 < tk → Inv w scope Γ L h₀ h' ρ' → Heap.ExtBut L s.heap h' → Rep h' v d → Q v { s with heap := h', toks := tk }) →
    wpAny (model pg w) A (eval e (envOf nm scope L a cd)) Q E s

structure EvL (w : World) (n : Nat) (Γ : List Str) (ρ : PEnv) (es : List Expr) (ds : List PV) (ρ' : PEnv) : Prop where
  len : es.length = ds.length
  run : ∀ (nm : Str) (scope : Scope) (L a : Addr) (cd : Value) (A : Around) (h₀ : Heap) (s : Shared) (pos : Pos) (Q : List Value → Shared → Prop) (E : Value → Shared → Prop),
    Inv w scope Γ L h₀ s.heap ρ → Room n A → 0 < s.toks →
    (∀ vs h' tk, 0 < tk → Inv w scope Γ L h₀ h' ρ' → Heap.ExtBut L s.heap h' → RepAll h' vs ds → Q vs { s with heap := h', toks := tk }) →
    wpAny (model pg w) A (spliced (backTo pos (starEach es (envOf nm scope L a cd)))) Q E s

structure EvT (w : World) (n : Nat) (Γ : List Str) (ρ : PEnv) (e : Expr) (b : Bool) (ρ' : PEnv) : Prop where
  run : ∀ (nm : Str) (scope : Scope) (L a : Addr) (cd : Value) (A : Around) (h₀ : Heap) (s : Shared) (Q : Bool → Shared → Prop) (E : Value → Shared → Prop),
    Inv w scope Γ L h₀ s.heap ρ → Room n A → 0 < s.toks →
    (∀ h' tk, 0 < tk → Inv w scope Γ L h₀ h' ρ' → Heap.ExtBut L s.heap h' → Q b { s with heap := h', toks := tk }) →
    wpAny (model pg w) A (isTrue e (envOf nm scope L a cd) (eval e (envOf nm scope L a cd))) Q E s

structure BinV (op : Operator) (a b c : PV) : Prop where
  run : ∀ (w : World) (A : Around) (s : Shared) (va vb : Value) (Q : Value → Shared → Prop) (E : Value → Shared → Prop),
    Room 0 A → Rep s.heap va a → Rep s.heap vb b → (∀ v h' tk, Grow s.heap h' → Rep h' v c → Q v { s with heap := h', toks := tk }) → wpAny (model pg w) A (binaryOp op va vb) Q E s
structure CmpV (op : CmpOp) (a b : PV) (c : Bool) : Prop where
  run : ∀ (w : World) (A : Around) (s : Shared) (va vb : Value) (Q : Value → Shared → Prop) (E : Value → Shared → Prop),
    Room 0 A → Rep s.heap va a → Rep s.heap vb b → (∀ h' tk, Grow s.heap h' → Q (.bool c) { s with heap := h', toks := tk }) → wpAny (model pg w) A (compareOp op va vb) Q E s
structure UnV (op : UnaryOp) (a c : PV) : Prop where
  run : ∀ (w : World) (A : Around) (s : Shared) (va : Value) (Q : Value → Shared → Prop) (E : Value → Shared → Prop),
    Room 0 A → Rep s.heap va a → (∀ v h' tk, Grow s.heap h' → Rep h' v c → Q v { s with heap := h', toks := tk }) → wpAny (model pg w) A (unaryOp op va) Q E s
structure TruV (a : PV) (b : Bool) : Prop where
  run : ∀ (w : World) (A : Around) (s : Shared) (va : Value) (Q : Bool → Shared → Prop) (E : Value → Shared → Prop),
    Room 0 A → Rep s.heap va a → (∀ h' tk, Grow s.heap h' → Q b { s with heap := h', toks := tk }) → wpAny (model pg w) A (truthy va) Q E s

def FnSpec (w : World) (n : Nat) (f : Str) (args : List PV) (r : PV) (kw : List (Str × PV) := []) : Prop :=
  ∃ a, nsIn (KK w) mainGlobals f = some (some (.ref a)) ∧ keepIn (KK w) (.ref a) = true ∧
    ∀ (A : Around) (s : Shared) (vs ks : List Value) (Q : Value → Shared → Prop) (E : Value → Shared → Prop),
      HOk w s.heap → Room n A → 0 < s.toks → RepAll s.heap vs args → RepAll s.heap ks (kw.map (·.2)) →
      (∀ v h' tk, 0 < tk → Grow s.heap h' → Rep h' v r → Q v { s with heap := h', toks := tk }) → wpAny (model pg w) A (call (.ref a) vs ((kw.map (·.1)).zip ks)) Q E s

section
variable {w : World} {n : Nat} {Γ : List Str} {ρ ρ' ρ₁ ρ₂ ρ₃ : PEnv} {e l r : Expr} {d a b c : PV} {p : Pos}

theorem E_name {x : Str} (hx : (x, some d) ∈ ρ) : EvE w n Γ ρ (.Name x p) d ρ := by
  constructor; intro nm scope L ad cd A h₀ s Q E I R hp h
  obtain ⟨m, F, r⟩ := I.fr
  obtain ⟨v, a, b⟩ := r x d hx
  have hl := I.loc x (List.mem_map_of_mem (f := (·.1)) hx)
  exact PyProof.Rows.ld F a (h v s.heap s.toks hp I (Heap.ExtBut.refl _ _) b) I.kind (by exact hl.1) hl.2
theorem rep_int {h : Heap} {i : Int} {t : Tok} : Rep h (.int i t) (.int i) := ⟨rfl, _, .int i t⟩
theorem rep_str {h : Heap} {i : Str} {t : Tok} : Rep h (.str i t) (.str i) := ⟨rfl, _, .str i t⟩
theorem rep_bool {h : Heap} {i : Bool} : Rep h (.bool i) (.bool i) := ⟨rfl, _, .bool i⟩
theorem rep_none {h : Heap} : Rep h .none .none := ⟨rfl, _, .none⟩
theorem Rep.int {h : Heap} {v} {i : Int} (x : Rep h v (.int i)) : ∃ t, v = .int i t := by obtain ⟨_, as, r⟩ := x; cases r; exact ⟨_, rfl⟩
theorem Rep.str {h : Heap} {v} {i : Str} (x : Rep h v (.str i)) : ∃ t, v = .str i t := by obtain ⟨_, as, r⟩ := x; cases r; exact ⟨_, rfl⟩
theorem Rep.bool {h : Heap} {v} {i : Bool} (x : Rep h v (.bool i)) : v = .bool i := by obtain ⟨_, as, r⟩ := x; cases r; rfl
theorem Rep.none {h : Heap} {v} (x : Rep h v .none) : v = .none := by obtain ⟨_, as, r⟩ := x; cases r; rfl
theorem Rep.tup {h : Heap} {v} {ds : List PV} (x : Rep h v (.tuple ds)) : ∃ a vs, v = .ref a ∧ IsTup h a vs.toArray ∧ RepAll h vs ds := by
  obtain ⟨hn, as, r⟩ := x
  cases r with
  | tuple h1 h2 h3 h4 =>
    rename_i a o vs nn
    exact ⟨a, vs.toList, rfl, ⟨o, h1, h2, nn, by simpa using h3⟩, by simpa [noDict] using hn, _, h4⟩
theorem Rep.list {h : Heap} {v} {ds : List PV} (x : Rep h v (.list ds)) : ∃ a vs, v = .ref a ∧ h.IsList a vs.toArray ∧ RepAll h vs ds := by
  obtain ⟨hn, as, r⟩ := x
  cases r with
  | list h1 h2 h3 h4 =>
    rename_i a o vs nn as
    exact ⟨a, vs.toList, rfl, ⟨o, h1, h2, nn, by simpa using h3⟩, by simpa [noDict] using hn, _, h4⟩
theorem rep_tup {h : Heap} {a : Addr} {vs : List Value} {ds : List PV} (t : IsTup h a vs.toArray) (r : RepAll h vs ds) : Rep h (.ref a) (.tuple ds) := by
  obtain ⟨o, h1, h2, nn, h3⟩ := t
  obtain ⟨hn, as, q⟩ := r
  exact ⟨by simpa [noDict] using hn, as, .tuple h1 h2 h3 (by simpa using q)⟩
theorem rep_list {h : Heap} {a : Addr} {vs : List Value} {ds : List PV} (t : h.IsList a vs.toArray) (r : RepAll h vs ds) : Rep h (.ref a) (.list ds) := by
  obtain ⟨o, h1, h2, nn, h3⟩ := t
  obtain ⟨hn, as, q⟩ := r
  exact ⟨by simpa [noDict] using hn, _, .list h1 h2 h3 (by simpa using q)⟩

theorem E_int {i : Int} {k : Nat} : EvE w n Γ ρ (.Constant (.int i) k p) (.int i) ρ := by
  constructor; intro nm scope L ad cd A h₀ s Q E I R hp h
  exact wpAny_Constant_int (h _ s.heap _ (Nat.succ_pos _) I (Heap.ExtBut.refl _ _) rep_int)
theorem E_str {i : Str} {k : Nat} : EvE w n Γ ρ (.Constant (.str i) k p) (.str i) ρ := by
  constructor; intro nm scope L ad cd A h₀ s Q E I R hp h
  exact wpAny_Constant_str (h _ s.heap _ (Nat.succ_pos _) I (Heap.ExtBut.refl _ _) rep_str)
theorem E_bool {i : Bool} {k : Nat} : EvE w n Γ ρ (.Constant (.bool i) k p) (.bool i) ρ := by
  constructor; intro nm scope L ad cd A h₀ s Q E I R hp h
  exact wpAny_Constant_bool (h _ s.heap s.toks hp I (Heap.ExtBut.refl _ _) rep_bool)
theorem E_none {k : Nat} : EvE w n Γ ρ (.Constant .none k p) .none ρ := by
  constructor; intro nm scope L ad cd A h₀ s Q E I R hp h
  exact wpAny_Constant_none (h _ s.heap s.toks hp I (Heap.ExtBut.refl _ _) rep_none)

theorem E_bin {op : Operator} (h1 : EvE w n Γ ρ l a ρ₁) (h2 : EvE w n Γ ρ₁ r b ρ₂) (hv : BinV op a b c) : EvE w n Γ ρ (.BinOp l op r p) c ρ₂ := by
  constructor; intro nm scope L ad cd A h₀ s Q E I R hp h
  refine withToks hp ?_
  refine wpAny_BinOp (h1.run nm scope L ad cd A h₀ s _ E I R hp fun va h' tk hp' I' g r1 => ?_)
  refine h2.run nm scope L ad cd A h₀ _ _ E I' R hp' fun vb h'' tk' hp'' I'' g' r2 => ?_
  refine hv.run w A _ va vb _ E R.zero (r1.but I'.dict g') r2 fun v h3 tk3 g3 r3 => ?_
  exact fun hp3 => h v h3 tk3 hp3 (I''.grow g3) ((g.trans g').trans (g3.but L)) r3
theorem E_un {op : UnaryOp} (h1 : EvE w n Γ ρ l a ρ₁) (hv : UnV op a c) : EvE w n Γ ρ (.UnaryOp op l p) c ρ₁ := by
  constructor; intro nm scope L ad cd A h₀ s Q E I R hp h
  refine withToks hp ?_
  refine wpAny_UnaryOp (h1.run nm scope L ad cd A h₀ s _ E I R hp fun va h' tk hp' I' g r1 => ?_)
  exact hv.run w A _ va _ E R.zero r1 fun v h3 tk3 g3 r3 => fun hp3 => h v h3 tk3 hp3 (I'.grow g3) (g.trans (g3.but L)) r3
theorem E_cmp {op : CmpOp} {c : Bool} (h1 : EvE w n Γ ρ l a ρ₁) (h2 : EvE w n Γ ρ₁ r b ρ₂) (hv : CmpV op a b c) (hm : behindInMarks op r = false := by with_unfolding_all rfl) :
    EvE w n Γ ρ (.Compare l [op] [r] p) (.bool c) ρ₂ := by
  constructor; intro nm scope L ad cd A h₀ s Q E I R hp h
  refine withToks hp ?_
  refine wpAny_Compare1 (h1.run nm scope L ad cd A h₀ s _ E I R hp fun va h' tk hp' I' g r1 => ?_) hm
  refine h2.run nm scope L ad cd A h₀ _ _ E I' R hp' fun vb h'' tk' hp'' I'' g' r2 => ?_
  refine hv.run w A _ va vb _ E R.zero (r1.but I'.dict g') r2 fun h3 tk3 g3 => ?_
  exact fun hp3 => h _ h3 tk3 hp3 (I''.grow g3) ((g.trans g').trans (g3.but L)) rep_bool
theorem E_ife {t : Expr} {bb : Bool} (h1 : EvT w n Γ ρ t bb ρ₁) (h2 : bb = true → EvE w n Γ ρ₁ l d ρ₁) (h3 : bb = false → EvE w n Γ ρ₁ r d ρ₁) : EvE w n Γ ρ (.IfExp t l r p) d ρ₁ := by
  constructor; intro nm scope L ad cd A h₀ s Q E I R hp h
  refine wpAny_IfExp (h1.run nm scope L ad cd A h₀ s _ E I R hp fun h' tk hp' I' g => ?_)
  cases bb with
  | true => exact (h2 rfl).run nm scope L ad cd A h₀ _ Q E I' R hp' fun v h3 tk3 hp3 I3 g3 r3 => h v h3 tk3 hp3 I3 (g.trans g3) r3
  | false => exact (h3 rfl).run nm scope L ad cd A h₀ _ Q E I' R hp' fun v h3 tk3 hp3 I3 g3 r3 => h v h3 tk3 hp3 I3 (g.trans g3) r3

theorem T_not {bb : Bool} (h1 : EvT w n Γ ρ e bb ρ₁) : EvT w n Γ ρ (.UnaryOp .Not e p) (!bb) ρ₁ := by
  constructor; intro nm scope L ad cd A h₀ s Q E I R hp h
  exact wpAny_isTrue_Not (h1.run nm scope L ad cd A h₀ s _ E I R hp fun h' tk hp' I' g => h h' tk hp' I' g)
theorem T_cmp {op : CmpOp} {c : Bool} (h1 : EvE w n Γ ρ l a ρ₁) (h2 : EvE w n Γ ρ₁ r b ρ₂) (hv : CmpV op a b c) (hm : behindInMarks op r = false := by with_unfolding_all rfl) :
    EvT w n Γ ρ (.Compare l [op] [r] p) c ρ₂ := by
  constructor; intro nm scope L ad cd A h₀ s Q E I R hp h
  refine withToks hp ?_
  refine wpAny_isTrue_Compare1 (h1.run nm scope L ad cd A h₀ s _ E I R hp fun va h' tk hp' I' g r1 => ?_) hm
  refine h2.run nm scope L ad cd A h₀ _ _ E I' R hp' fun vb h'' tk' hp'' I'' g' r2 => ?_
  refine hv.run w A _ va vb _ E R.zero (r1.but I'.dict g') r2 fun h3 tk3 g3 => ?_
  exact wpAny_truthy_bool (fun hp3 => h h3 tk3 hp3 (I''.grow g3) ((g.trans g').trans (g3.but L)))
theorem T_val {bb : Bool} (h1 : EvE w n Γ ρ e d ρ₁) (hv : TruV d bb) (he : ∀ env whole, isTrue e env whole = (do let v ← whole; standAt e.pos; holding [v] (truthy v)) := by intros; with_unfolding_all rfl) : EvT w n Γ ρ e bb ρ₁ := by
  constructor; intro nm scope L ad cd A h₀ s Q E I R hp h
  refine withToks hp ?_
  refine wpAny_isTrue_value (h1.run nm scope L ad cd A h₀ s _ E I R hp fun va h' tk hp' I' g r1 => ?_) (he _ _)
  exact hv.run w A _ va _ E R.zero r1 fun h3 tk3 g3 => fun hp3 => h h3 tk3 hp3 (I'.grow g3) (g.trans (g3.but L))
end
end Mine
end

-- PyB
section
namespace Mine
open PySem.Builtin (bitAnd bitXor)
open PySem.Builtin.Int (intBits)

structure IBinV (op : Operator) (a b c : PV) : Prop where
  run : ∀ (w : World) (A : Around) (s : Shared) (va vb : Value) (Q : Value → Shared → Prop) (E : Value → Shared → Prop),
    Room 0 A → Rep s.heap va a → Rep s.heap vb b → (∀ v h' tk, Grow s.heap h' → Rep h' v c → Q v { s with heap := h', toks := tk }) → wpAny (model pg w) A (inplaceOp op va vb) Q E s

theorem noDicts_append : ∀ {xs ys : List PV}, noDicts xs = true → noDicts ys = true → noDicts (xs ++ ys) = true
  | [], _, _, h => h
  | _ :: _, _, h1, h2 => by
    simp only [noDicts, List.cons_append, Bool.and_eq_true] at h1 ⊢
    exact ⟨h1.1, noDicts_append h1.2 h2⟩
theorem readsAll_append {h : Heap} : ∀ {xs ys : List PV} {vs us : List Value} {as bs : List Addr}, ReadsAll h vs xs as → ReadsAll h us ys bs → ReadsAll h (vs ++ us) (xs ++ ys) (as ++ bs)
  | [], _, _, _, _, _, .nil, r => r
  | _ :: _, _, _, _, _, _, .cons a b, r => by
    rw [List.append_assoc]; exact .cons a (readsAll_append b r)
theorem repAll_append {h : Heap} {xs ys : List PV} {vs us : List Value} {as bs : List Addr} (n1 : noDicts xs = true) (r1 : ReadsAll h vs xs as) (n2 : noDicts ys = true) (r2 : ReadsAll h us ys bs) : RepAll h (vs ++ us) (xs ++ ys) :=
  ⟨noDicts_append n1 n2, _, readsAll_append r1 r2⟩

def pvNone : PV → Bool
  | .none => true
  | _ => false
section
variable {a b : Int} {x y : Str}
theorem B_add : BinV .Add (.int a) (.int b) (.int (a + b)) := by
  constructor; intro w A s va vb Q E R ra rb h
  obtain ⟨t, rfl⟩ := ra.int; obtain ⟨u, rfl⟩ := rb.int
  with_reducible exact PyProof.Rows.add_int (h _ s.heap _ (Grow.refl _) rep_int)
theorem B_sub : BinV .Sub (.int a) (.int b) (.int (a - b)) := by
  constructor; intro w A s va vb Q E R ra rb h
  obtain ⟨t, rfl⟩ := ra.int; obtain ⟨u, rfl⟩ := rb.int
  with_reducible exact PyProof.Rows.sub_int (h _ s.heap _ (Grow.refl _) rep_int)
theorem B_mul (hm : IntMulOk a b) : BinV .Mult (.int a) (.int b) (.int (a * b)) := by
  constructor; intro w A s va vb Q E R ra rb h
  obtain ⟨t, rfl⟩ := ra.int; obtain ⟨u, rfl⟩ := rb.int
  with_reducible exact PyProof.Rows.mul_int (h _ s.heap _ (Grow.refl _) rep_int) hm
theorem B_fdiv (hb : b ≠ 0) (hp : b.natAbs.log2 < 9000) : BinV .FloorDiv (.int a) (.int b) (.int (a.fdiv b)) := by
  constructor; intro w A s va vb Q E R ra rb h
  obtain ⟨t, rfl⟩ := ra.int; obtain ⟨u, rfl⟩ := rb.int
  with_reducible exact PyProof.Rows.floordiv_int hb (h _ s.heap _ (Grow.refl _) rep_int) (Or.inl (PyProof.noPylong_of_log2 hp))
theorem B_mod (hb : b ≠ 0) : BinV .Mod (.int a) (.int b) (.int (a.fmod b)) := by
  constructor; intro w A s va vb Q E R ra rb h
  obtain ⟨t, rfl⟩ := ra.int; obtain ⟨u, rfl⟩ := rb.int
  with_reducible exact PyProof.Rows.mod_int hb (h _ s.heap _ (Grow.refl _) rep_int)
theorem B_shl (hn : 0 ≤ b) (hsz : (intBits a : Int) + b ≤ 2 ^ 27) : BinV .LShift (.int a) (.int b) (.int (a * 2 ^ b.toNat)) := by
  constructor; intro w A s va vb Q E R ra rb h
  obtain ⟨t, rfl⟩ := ra.int; obtain ⟨u, rfl⟩ := rb.int
  with_reducible exact PyProof.Rows.lshift_int hn hsz (h _ s.heap _ (Grow.refl _) rep_int)
theorem B_shr (hn : 0 ≤ b) : BinV .RShift (.int a) (.int b) (.int (a.fdiv (2 ^ b.toNat))) := by
  constructor; intro w A s va vb Q E R ra rb h
  obtain ⟨t, rfl⟩ := ra.int; obtain ⟨u, rfl⟩ := rb.int
  with_reducible exact PyProof.Rows.rshift_int hn (h _ s.heap _ (Grow.refl _) rep_int)
theorem B_pow (hn : 0 ≤ b) (hsz : (intBits a : Int) * b ≤ 2 ^ 27) : BinV .Pow (.int a) (.int b) (.int (a ^ b.toNat)) := by
  constructor; intro w A s va vb Q E R ra rb h
  obtain ⟨t, rfl⟩ := ra.int; obtain ⟨u, rfl⟩ := rb.int
  with_reducible exact PyProof.Rows.pow_int hn hsz (h _ s.heap _ (Grow.refl _) rep_int)
theorem B_and : BinV .BitAnd (.int a) (.int b) (.int (bitAnd a b)) := by
  constructor; intro w A s va vb Q E R ra rb h
  obtain ⟨t, rfl⟩ := ra.int; obtain ⟨u, rfl⟩ := rb.int
  with_reducible exact PyProof.Rows.and_int (h _ s.heap _ (Grow.refl _) rep_int)
theorem B_xor : BinV .BitXor (.int a) (.int b) (.int (bitXor a b)) := by
  constructor; intro w A s va vb Q E R ra rb h
  obtain ⟨t, rfl⟩ := ra.int; obtain ⟨u, rfl⟩ := rb.int
  with_reducible exact PyProof.Rows.xor_int (h _ s.heap _ (Grow.refl _) rep_int)
theorem B_adds (hsz : x.length + y.length ≤ sizeLine) : BinV .Add (.str x) (.str y) (.str (x ++ y)) := by
  constructor; intro w A s va vb Q E R ra rb h
  obtain ⟨t, rfl⟩ := ra.str; obtain ⟨u, rfl⟩ := rb.str
  with_reducible exact PyProof.Rows.add_str (fun t' tk => h _ s.heap tk (Grow.refl _) rep_str) hsz
theorem I_add : IBinV .Add (.int a) (.int b) (.int (a + b)) := by
  constructor; intro w A s va vb Q E R ra rb h
  obtain ⟨t, rfl⟩ := ra.int; obtain ⟨u, rfl⟩ := rb.int
  with_reducible exact PyProof.Rows.iadd_int (h _ s.heap _ (Grow.refl _) rep_int)
theorem I_sub : IBinV .Sub (.int a) (.int b) (.int (a - b)) := by
  constructor; intro w A s va vb Q E R ra rb h
  obtain ⟨t, rfl⟩ := ra.int; obtain ⟨u, rfl⟩ := rb.int
  with_reducible exact PyProof.Rows.isub_int (h _ s.heap _ (Grow.refl _) rep_int)
theorem I_shl (hn : 0 ≤ b) (hsz : (intBits a : Int) + b ≤ 2 ^ 27) : IBinV .LShift (.int a) (.int b) (.int (a * 2 ^ b.toNat)) := by
  constructor; intro w A s va vb Q E R ra rb h
  obtain ⟨t, rfl⟩ := ra.int; obtain ⟨u, rfl⟩ := rb.int
  with_reducible exact PyProof.Rows.ilshift_int hn hsz (h _ s.heap _ (Grow.refl _) rep_int)
theorem I_shr (hn : 0 ≤ b) : IBinV .RShift (.int a) (.int b) (.int (a.fdiv (2 ^ b.toNat))) := by
  constructor; intro w A s va vb Q E R ra rb h
  obtain ⟨t, rfl⟩ := ra.int; obtain ⟨u, rfl⟩ := rb.int
  with_reducible exact PyProof.Rows.irshift_int hn (h _ s.heap _ (Grow.refl _) rep_int)
theorem I_xor : IBinV .BitXor (.int a) (.int b) (.int (bitXor a b)) := by
  constructor; intro w A s va vb Q E R ra rb h
  obtain ⟨t, rfl⟩ := ra.int; obtain ⟨u, rfl⟩ := rb.int
  with_reducible exact PyProof.Rows.ixor_int (h _ s.heap _ (Grow.refl _) rep_int)
theorem I_adds (hsz : x.length + y.length ≤ sizeLine) : IBinV .Add (.str x) (.str y) (.str (x ++ y)) := by
  constructor; intro w A s va vb Q E R ra rb h
  obtain ⟨t, rfl⟩ := ra.str; obtain ⟨u, rfl⟩ := rb.str
  with_reducible exact PyProof.Rows.iadd_str (fun t' tk => h _ s.heap tk (Grow.refl _) rep_str) hsz
/-! comparisons -/
theorem C_eq : CmpV .Eq (.int a) (.int b) (decide (a = b)) := by
  constructor; intro w A s va vb Q E R ra rb h
  obtain ⟨t, rfl⟩ := ra.int; obtain ⟨u, rfl⟩ := rb.int
  exact PyProof.Rows.eq_int (h s.heap s.toks (Grow.refl _))
theorem C_ne : CmpV .NotEq (.int a) (.int b) (!decide (a = b)) := by
  constructor; intro w A s va vb Q E R ra rb h
  obtain ⟨t, rfl⟩ := ra.int; obtain ⟨u, rfl⟩ := rb.int
  exact PyProof.Rows.ne_int (h s.heap s.toks (Grow.refl _))
theorem C_lt : CmpV .Lt (.int a) (.int b) (decide (a < b)) := by
  constructor; intro w A s va vb Q E R ra rb h
  obtain ⟨t, rfl⟩ := ra.int; obtain ⟨u, rfl⟩ := rb.int
  with_reducible exact PyProof.Rows.lt_int (h s.heap s.toks (Grow.refl _))
theorem C_le : CmpV .LtE (.int a) (.int b) (decide (a ≤ b)) := by
  constructor; intro w A s va vb Q E R ra rb h
  obtain ⟨t, rfl⟩ := ra.int; obtain ⟨u, rfl⟩ := rb.int
  with_reducible exact PyProof.Rows.le_int (h s.heap s.toks (Grow.refl _))
theorem C_gt : CmpV .Gt (.int a) (.int b) (decide (b < a)) := by
  constructor; intro w A s va vb Q E R ra rb h
  obtain ⟨t, rfl⟩ := ra.int; obtain ⟨u, rfl⟩ := rb.int
  with_reducible exact PyProof.Rows.gt_int (h s.heap s.toks (Grow.refl _))
theorem C_ge : CmpV .GtE (.int a) (.int b) (decide (b ≤ a)) := by
  constructor; intro w A s va vb Q E R ra rb h
  obtain ⟨t, rfl⟩ := ra.int; obtain ⟨u, rfl⟩ := rb.int
  with_reducible exact PyProof.Rows.ge_int (h s.heap s.toks (Grow.refl _))
theorem C_eqs : CmpV .Eq (.str x) (.str y) (x == y) := by
  constructor; intro w A s va vb Q E R ra rb h
  obtain ⟨t, rfl⟩ := ra.str; obtain ⟨u, rfl⟩ := rb.str
  with_reducible exact PyProof.Rows.eq_str (h s.heap s.toks (Grow.refl _))
theorem C_nes : CmpV .NotEq (.str x) (.str y) (x != y) := by
  constructor; intro w A s va vb Q E R ra rb h
  obtain ⟨t, rfl⟩ := ra.str; obtain ⟨u, rfl⟩ := rb.str
  with_reducible exact PyProof.Rows.ne_str (h s.heap s.toks (Grow.refl _))
theorem C_ins : CmpV .In (.str y) (.str x) (!(Builtin.Str.occurrences x y 0 x.length 1).isEmpty) := by
  constructor; intro w A s va vb Q E R ra rb h
  obtain ⟨t, rfl⟩ := ra.str; obtain ⟨u, rfl⟩ := rb.str
  with_reducible exact PyProof.Rows.in_str (h s.heap s.toks (Grow.refl _))
theorem C_nins : CmpV .NotIn (.str y) (.str x) ((Builtin.Str.occurrences x y 0 x.length 1).isEmpty) := by
  constructor; intro w A s va vb Q E R ra rb h
  obtain ⟨t, rfl⟩ := ra.str; obtain ⟨u, rfl⟩ := rb.str
  with_reducible refine PySem.P.notIn_str ?_
  simpa using h s.heap s.toks (Grow.refl _)
theorem C_eqd {d e : PV} (hd : d.canLay0 = true) (he : e.canLay0 = true) (hk : min d.depth e.depth ≤ 64) : CmpV .Eq d e (PyData.eqv d e) := by
  constructor; intro w A s va vb Q E R ra rb h
  obtain ⟨_, as, r1⟩ := ra; obtain ⟨_, bs, r2⟩ := rb
  with_reducible exact PySem.SeqAt.compareEq_reads r1 r2 hd he (by have := R.u; omega) (h s.heap s.toks (Grow.refl _))
theorem C_ned {d e : PV} (hd : d.canLay0 = true) (he : e.canLay0 = true) (hk : min d.depth e.depth ≤ 64) : CmpV .NotEq d e (!PyData.eqv d e) := by
  constructor; intro w A s va vb Q E R ra rb h
  obtain ⟨_, as, r1⟩ := ra; obtain ⟨_, bs, r2⟩ := rb
  with_reducible exact PySem.SeqAt.compareNe_reads r1 r2 hd he (by have := R.u; omega) (h s.heap s.toks (Grow.refl _))
theorem C_isnone {d : PV} : CmpV .Is d .none (pvNone d) := by
  constructor; intro w A s va vb Q E R ra rb h
  obtain rfl := rb.none
  with_reducible refine is_none ?_
  have e : (va == Value.none) = pvNone d := by
    obtain ⟨_, as, r⟩ := ra
    cases r <;> rfl
  rw [e]
  exact h s.heap s.toks (Grow.refl _)

theorem R_int : TruV (.int a) (a != 0) := by
  constructor; intro w A s va Q E R ra h
  obtain ⟨t, rfl⟩ := ra.int
  with_reducible exact PyProof.Rows.truthy_int (h s.heap s.toks (Grow.refl _))
theorem R_bool {c : Bool} : TruV (.bool c) c := by
  constructor; intro w A s va Q E R ra h
  obtain rfl := ra.bool
  with_reducible exact wpAny_truthy_bool (h s.heap s.toks (Grow.refl _))
theorem R_str (hx : x.length < 2 ^ 62) : TruV (.str x) ((x.length : Int) != 0) := by
  constructor; intro w A s va Q E R ra h
  obtain ⟨t, rfl⟩ := ra.str
  with_reducible exact PySem.P.truthy_str (by omega) (h s.heap _ (Grow.refl _))
theorem U_neg : UnV .USub (.int a) (.int (-a)) := by
  constructor; intro w A s va Q E R ra h
  obtain ⟨t, rfl⟩ := ra.int
  with_reducible exact PyProof.Rows.neg_int (h _ s.heap _ (Grow.refl _) rep_int)
theorem U_not {d : PV} {c : Bool} (ht : TruV d c) : UnV .Not d (.bool (!c)) := by
  constructor; intro w A s va Q E R ra h
  with_reducible exact PyProof.Rows.not_of (ht.run w A s va _ E R ra fun h' tk g => h _ h' tk g rep_bool)
end
end Mine
end

-- PyC
section
namespace Mine

inductive Out where
  | next (ρ : PEnv)
  | ret (d : PV)
  | brk (ρ : PEnv)
  | cont (ρ : PEnv)

def OutOk (w : World) (scope : Scope) (Γ : List Str) (L : Addr) (h₀ h : Heap) (fl : Flow) : Out → Prop
  | .next ρ => fl = .next ∧ Inv w scope Γ L h₀ h ρ
  | .ret d => ∃ v ρ, fl = .ret v ∧ Rep h v d ∧ Inv w scope Γ L h₀ h ρ
  | .brk ρ => fl = .brk ∧ Inv w scope Γ L h₀ h ρ
  | .cont ρ => fl = .cont ∧ Inv w scope Γ L h₀ h ρ

structure Ex (w : World) (n : Nat) (Γ : List Str) (ρ : PEnv) (b : List Stmt) (o : Out) : Prop where
  run : ∀ (nm : Str) (scope : Scope) (L a : Addr) (cd : Value) (A : Around) (h₀ : Heap) (s : Shared) (Q : Flow → Shared → Prop) (E : Value → Shared → Prop),
    Inv w scope Γ L h₀ s.heap ρ → Room n A → 0 < s.toks →
    (∀ fl h' tk, 0 < tk → OutOk w scope Γ L h₀ h' fl o → Heap.ExtBut L s.heap h' → Q fl { s with heap := h', toks := tk }) →
    wpAny (model pg w) A (execs b (envOf nm scope L a cd)) Q E s

/-- a stack of blocks -/
def Exs (w : World) (n : Nat) (Γ : List Str) (ρ : PEnv) (bs : List (List Stmt)) (o : Out) : Prop := Ex w n Γ ρ bs.flatten o

theorem execs_append (env : Env) : ∀ a b : List Stmt, execs (a ++ b) env = (do match ← execs a env with | .next => execs b env | f => pure f)
  | [], b => rfl
  | s :: r, b => by
    rw [List.cons_append, execs_cons, execs_cons, bind_assoc]
    congr 1; funext f
    cases f with
    | next => exact execs_append env r b
    | _ => rfl
theorem execs_If (t : Expr) (b e : List Stmt) (p : Pos) (rest : List Stmt) (env : Env) :
    execs (.If t b e p :: rest) env = (do standAt p; if ← isTrue t env (eval t env) then execs (b ++ rest) env else execs (e ++ rest) env) := by
  rw [execs_cons, exec_If, bind_assoc]
  congr 1; funext _
  rw [bind_assoc]
  congr 1; funext c
  cases c with
  | true => exact (execs_append env b rest).symm
  | false => exact (execs_append env e rest).symm

inductive Weak : PEnv → PEnv → Prop
  | nil : Weak [] []
  | keep {x : Str} {d e : PV} {ρ ρ' : PEnv} : d = e → Weak ρ ρ' → Weak ((x, some d) :: ρ) ((x, some e) :: ρ')
  | same {x : Str} {o : Option PV} {ρ ρ' : PEnv} : Weak ρ ρ' → Weak ((x, o) :: ρ) ((x, o) :: ρ')
  | skip {x : Str} {o : Option PV} {ρ ρ' : PEnv} : Weak ρ ρ' → Weak ((x, o) :: ρ) ((x, none) :: ρ')
theorem Weak.names {ρ ρ' : PEnv} (h : Weak ρ ρ') : ρ'.map (·.1) = ρ.map (·.1) := by
  induction h with
  | nil => rfl
  | keep _ _ ih => simp [ih]
  | same _ ih => simp [ih]
  | skip _ ih => simp [ih]
theorem Weak.mem {ρ ρ' : PEnv} (h : Weak ρ ρ') {x : Str} {d : PV} : (x, some d) ∈ ρ' → (x, some d) ∈ ρ := by
  induction h with
  | nil => exact id
  | keep e _ ih =>
    subst e
    intro hm
    rcases List.mem_cons.mp hm with q | q
    · cases q; exact .head _
    · exact .tail _ (ih q)
  | same _ ih =>
    intro hm
    rcases List.mem_cons.mp hm with q | q
    · rw [q]; exact .head _
    · exact .tail _ (ih q)
  | skip _ ih =>
    intro hm
    rcases List.mem_cons.mp hm with q | q
    · cases q
    · exact .tail _ (ih q)
inductive Names : List Expr → List Str → Prop
  | nil : Names [] []
  | cons {x p es xs} : Names es xs → Names (.Name x p :: es) (x :: xs)
inductive Upds : List Str → List PV → PEnv → PEnv → Prop
  | nil {ρ} : Upds [] [] ρ ρ
  | cons {x xs d ds ρ ρ₁ ρ₂} : Upd x d ρ ρ₁ → Upds xs ds ρ₁ ρ₂ → Upds (x :: xs) (d :: ds) ρ ρ₂

section
variable {w : World} {n : Nat} {Γ : List Str} {ρ ρ' ρ₁ ρ₂ ρ₃ : PEnv} {e t : Expr} {d a b : PV} {p p' : Pos} {rest body els : List Stmt} {bs : List (List Stmt)} {o : Out} {x : Str}

theorem S_pop (h : Exs w n Γ ρ bs o) : Exs w n Γ ρ ([] :: bs) o := h
theorem S_end : Exs w n Γ ρ [] (.next ρ) := by
  constructor; intro nm scope L ad cd A h₀ s Q E I R hp h
  exact wpAny_execs_nil (h _ s.heap s.toks hp ⟨rfl, I⟩ (Heap.ExtBut.refl _ _))
/-- a block that falls through -/
theorem S_block {blk : List Stmt} (h1 : Exs w n Γ ρ [blk] (.next ρ₁)) (h2 : Exs w n Γ ρ₁ bs o) : Exs w n Γ ρ (blk :: bs) o := by
  constructor; intro nm scope L ad cd A h₀ s Q E I R hp h
  show wpAny _ _ (execs (blk ++ bs.flatten) _) _ _ _
  rw [execs_append]
  have h1' : Ex w n Γ ρ blk (.next ρ₁) := by simpa [Exs] using h1
  refine wpAny_bind (h1'.run nm scope L ad cd A h₀ s _ E I R hp fun fl h' tk hp' k g => ?_)
  obtain ⟨rfl, I'⟩ := k
  exact h2.run nm scope L ad cd A h₀ _ Q E I' R hp' fun fl h3 tk3 hp3 k g3 => h fl h3 tk3 hp3 k (g.trans g3)
/-- forgetting, and other words for the same value -/
theorem S_end' (h : Weak ρ ρ') : Exs w n Γ ρ [] (.next ρ') := by
  constructor; intro nm scope L ad cd A h₀ s Q E I R hp k
  refine wpAny_execs_nil (k _ s.heap s.toks hp ⟨rfl, ?_⟩ (Heap.ExtBut.refl _ _))
  obtain ⟨m, F, r⟩ := I.fr
  exact ⟨⟨m, F, fun x d hx => r x d (h.mem hx)⟩, I.hok, I.kind, by rw [h.names]; exact I.nodup, by rw [h.names]; exact I.loc, I.glo⟩
theorem S_weak (h : Weak ρ ρ') (h2 : Exs w n Γ ρ' bs o) : Exs w n Γ ρ bs o := by
  have := S_block (bs := bs) (blk := []) (ρ := ρ) (S_pop (S_end' h)) h2
  exact this
theorem S_if {c : Bool} (h1 : EvT w n Γ ρ t c ρ₁) (h2 : c = true → Exs w n Γ ρ₁ (body :: rest :: bs) o) (h3 : c = false → Exs w n Γ ρ₁ (els :: rest :: bs) o) :
    Exs w n Γ ρ ((.If t body els p :: rest) :: bs) o := by
  constructor; intro nm scope L ad cd A h₀ s Q E I R hp h
  show wpAny _ _ (execs (.If t body els p :: (rest ++ bs.flatten)) _) _ _ _
  rw [execs_If]
  refine wpAny_bind (wpAny_standAt (wpAny_bind (h1.run nm scope L ad cd A h₀ s _ E I R hp fun h' tk hp' I' g => ?_)))
  cases c with
  | true => exact (h2 rfl).run nm scope L ad cd A h₀ _ Q E I' R hp' fun fl h3 tk3 hp3 k g3 => h fl h3 tk3 hp3 k (g.trans g3)
  | false => exact (h3 rfl).run nm scope L ad cd A h₀ _ Q E I' R hp' fun fl h3 tk3 hp3 k g3 => h fl h3 tk3 hp3 k (g.trans g3)
theorem S_ret (h1 : EvE w n Γ ρ e d ρ₁) : Exs w n Γ ρ ((.Return (some e) p :: rest) :: bs) (.ret d) := by
  constructor; intro nm scope L ad cd A h₀ s Q E I R hp h
  refine wpAny_execs_cons ?_
  refine wpAny_Return_some (h1.run nm scope L ad cd A h₀ s _ E I R hp fun v h' tk hp' I' g r => ?_)
  exact h _ h' tk hp' ⟨v, _, rfl, r, I'⟩ g
theorem S_ret' (h1 : EvE w n Γ ρ e d ρ₁) (hd : d = a) : Exs w n Γ ρ ((.Return (some e) p :: rest) :: bs) (.ret a) := hd ▸ S_ret h1
/-- a statement that falls through -/
theorem S_one {st : Stmt} (h1 : Ex w n Γ ρ [st] (.next ρ₁)) (h2 : Exs w n Γ ρ₁ (rest :: bs) o) : Exs w n Γ ρ ((st :: rest) :: bs) o := by
  constructor; intro nm scope L ad cd A h₀ s Q E I R hp h
  show wpAny _ _ (execs ([st] ++ (rest ++ bs.flatten)) _) _ _ _
  rw [execs_append]
  refine wpAny_bind (h1.run nm scope L ad cd A h₀ s _ E I R hp fun fl h' tk hp' k g => ?_)
  obtain ⟨rfl, I'⟩ := k
  exact h2.run nm scope L ad cd A h₀ _ Q E I' R hp' fun fl h3 tk3 hp3 k g3 => h fl h3 tk3 hp3 k (g.trans g3)
theorem S_join {st : Stmt} (h1 : Exs w n Γ ρ [[st]] (.next ρ₁)) (h2 : Exs w n Γ ρ₁ (rest :: bs) o) : Exs w n Γ ρ ((st :: rest) :: bs) o := S_one h1 h2
theorem S_brk : Exs w n Γ ρ ((.Break p :: rest) :: bs) (.brk ρ) := by
  constructor; intro nm scope L ad cd A h₀ s Q E I R hp h
  exact wpAny_execs_cons (wpAny_Break (h _ s.heap s.toks hp ⟨rfl, I⟩ (Heap.ExtBut.refl _ _)))
theorem S_pass (h2 : Exs w n Γ ρ (rest :: bs) o) : Exs w n Γ ρ ((.Pass p :: rest) :: bs) o := by
  refine S_one ?_ h2
  constructor; intro nm scope L ad cd A h₀ s Q E I R hp h
  exact wpAny_execs_cons (wpAny_Pass (wpAny_execs_nil (h _ s.heap s.toks hp ⟨rfl, I⟩ (Heap.ExtBut.refl _ _))))
theorem S_assert {m : Option Expr} (h1 : EvT w n Γ ρ t true ρ₁) (h2 : Exs w n Γ ρ₁ (rest :: bs) o) : Exs w n Γ ρ ((.Assert t m p :: rest) :: bs) o := by
  refine S_one ?_ h2
  constructor; intro nm scope L ad cd A h₀ s Q E I R hp h
  refine wpAny_execs_cons (wpAny_Assert_holds (h1.run nm scope L ad cd A h₀ s _ E I R hp fun h' tk hp' I' g => ⟨rfl, ?_⟩))
  exact wpAny_execs_nil (h _ h' tk hp' ⟨rfl, I'⟩ g)

/-- storing one name -/
theorem store_run {nm : Str} {scope : Scope} {L ad : Addr} {cd : Value} {A : Around} {h₀ : Heap} {s : Shared} {Q : Unit → Shared → Prop} {E : Value → Shared → Prop} {v : Value}
    (I : Inv w scope Γ L h₀ s.heap ρ) (u : Upd x d ρ ρ') (r : Rep s.heap v d)
    (h : ∀ h' tk, Inv w scope Γ L h₀ h' ρ' → Heap.ExtBut L s.heap h' → Q () { s with heap := h', toks := tk }) :
    wpAny (model pg w) A (storeName (envOf nm scope L ad cd) x v) Q E s := by
  obtain ⟨m, F, hr⟩ := I.fr
  have hl := I.loc x u.mem
  refine wpAny_storeName_local (env := envOf nm scope L ad cd) (m := m) hl.1 F.ns (fun h' hn hs => ?_) ?_
  · exact h h' _ (I.set u r F hr (F.set hn hs) hs.extBut) hs.extBut
  · show (scope.kind == .class || (scope.kind == .module && L != mainGlobals)) = false; rw [I.kind]; rfl

theorem S_assign (h1 : EvE w n Γ ρ e d ρ₁) (u : Upd x d ρ₁ ρ₂) (h2 : Exs w n Γ ρ₂ (rest :: bs) o)
    (hs : ∀ t l env, swapsWith e t l env = pure false := by intros; with_unfolding_all rfl) : Exs w n Γ ρ ((.Assign [.Name x p'] e p :: rest) :: bs) o := by
  refine S_one ?_ h2
  constructor; intro nm scope L ad cd A h₀ s Q E I R hp h
  refine wpAny_execs_cons (wpAny_Assign_Name (h1.run nm scope L ad cd A h₀ s _ E I R hp fun v h' tk hp' I' g r => ?_) (hs _ _ _))
  refine withToks hp' (store_run I' u r fun h3 tk3 I3 g3 => ?_)
  exact fun hp3 => wpAny_execs_nil (h _ h3 tk3 hp3 ⟨rfl, I3⟩ (g.trans g3))
theorem S_aug {op : Operator} (hx : (x, some a) ∈ ρ) (h1 : EvE w n Γ ρ e b ρ) (hv : IBinV op a b d) (u : Upd x d ρ ρ₂) (h2 : Exs w n Γ ρ₂ (rest :: bs) o) :
    Exs w n Γ ρ ((.AugAssign (.Name x p') op e p :: rest) :: bs) o := by
  refine S_one ?_ h2
  constructor; intro nm scope L ad cd A h₀ s Q E I R hp h
  obtain ⟨m, F, hr⟩ := I.fr
  obtain ⟨v, hm, rv⟩ := hr x a hx
  have hl := I.loc x (List.mem_map_of_mem (f := (·.1)) hx)
  refine wpAny_execs_cons (wpAny_AugAssign_Name (wpAny_loadName_local (env := envOf nm scope L ad cd) I.kind hl.1 F.ns hm ?_))
  refine h1.run nm scope L ad cd A h₀ s _ E I R hp fun v2 h' tk hp' I' g r => ?_
  refine withToks hp' (hv.run w A _ v v2 _ E R.zero (rv.but I.dict g) r fun v3 h3 tk3 g3 r3 => ?_)
  intro hp3
  refine withToks hp3 (store_run (I'.grow g3) u r3 fun h4 tk4 I4 g4 => ?_)
  exact fun hp4 => wpAny_execs_nil (h _ h4 tk4 hp4 ⟨rfl, I4⟩ ((g.trans (g3.but L)).trans g4))

/-! tuple targets -/
theorem Names.length {es xs} (h : Names es xs) (env : Env) : (assignEach es env).length = xs.length := by
  induction h with
  | nil => rfl
  | cons _ ih => simp only [assignEach, List.length_cons, ih]
theorem Names.star {es xs} (h : Names es xs) (env : Env) : (assignEach es env).findIdx? (·.1) = none := by
  induction h with
  | nil => rfl
  | cons _ ih => simp only [assignEach, List.findIdx?_cons, ih]; rfl
theorem Upds.length {xs ds ρ ρ'} (h : Upds xs ds ρ ρ') : xs.length = ds.length := by
  induction h with
  | nil => rfl
  | cons _ _ ih => simp [ih]
theorem assignAll_run {nm : Str} {scope : Scope} {L ad : Addr} {cd : Value} {A : Around} {h₀ : Heap} {E : Value → Shared → Prop} {es : List Expr} {xs : List Str} (hn : Names es xs) :
    ∀ {ds : List PV} {ρ ρ' : PEnv} {vs : List Value} {s : Shared} {Q : Unit → Shared → Prop}, Upds xs ds ρ ρ' → Inv w scope Γ L h₀ s.heap ρ → RepAll s.heap vs ds →
      (∀ h' tk, Inv w scope Γ L h₀ h' ρ' → Heap.ExtBut L s.heap h' → Q () { s with heap := h', toks := tk }) →
      wpAny (model pg w) A (assignInOrder ((assignEach es (envOf nm scope L ad cd)).map (·.2)) vs) Q E s := by
  induction hn with
  | nil =>
    intro ds ρ ρ' vs s Q u I r h
    cases u
    exact wpAny_pure (h s.heap s.toks I (Heap.ExtBut.refl _ _))
  | cons hn ih =>
    rename_i x p es xs
    intro ds ρ ρ' vs s Q u I r h
    cases u with
    | cons u us =>
      obtain ⟨v, vr, rfl, rv, rr⟩ := r.uncons
      show wpAny _ _ (do holding vr (assign (.Name x p) (envOf nm scope L ad cd) v); assignInOrder ((assignEach es (envOf nm scope L ad cd)).map (·.2)) vr) Q E s
      refine wpAny_bind (wpAny_holding (assign_Name (store_run I u rv fun h' tk I' g => ?_)))
      exact ih us I' (rr.but I.dict g) fun h3 tk3 I3 g3 => h h3 tk3 I3 (g.trans g3)

theorem S_unpack {es : List Expr} {xs : List Str} {ds : List PV} {k : Nat} {tp : Pos} (h1 : EvE w n Γ ρ e (.tuple ds) ρ₁) (hn : Names es xs) (u : Upds xs ds ρ₁ ρ₂) (h2 : Exs w n Γ ρ₂ (rest :: bs) o)
    (hs : ∀ t l env, swapsWith e t l env = pure false := by intros; with_unfolding_all rfl) (hw : ∀ env, swappedStores [.Tuple es k tp] e env = pure none := by intros; with_unfolding_all rfl) :
    Exs w n Γ ρ ((.Assign [.Tuple es k tp] e p :: rest) :: bs) o := by
  refine S_one ?_ h2
  constructor; intro nm scope L ad cd A h₀ s Q E I R hp h
  refine wpAny_execs_cons (Assign_Tuple (h1.run nm scope L ad cd A h₀ s _ E I R hp fun v h' tk hp' I' g r => ?_) (show swapsWith e (some (.Tuple es k tp)) p.line (envOf nm scope L ad cd) = pure false from hs _ _ _) (hw _))
  obtain ⟨t, vs, rfl, ht, rv⟩ := r.tup
  refine assign_Tuple_tuple R.hd ht ?_ (hn.star _) fun h3 g3 => ?_
  · rw [hn.length, u.length, List.size_toArray, rv.length]
  have g3' : Grow h' h3 := fun b o e => g3 b o (Nat.ne_of_lt (Heap.lt_size e)) e
  refine withToks hp' (assignAll_run hn u (I'.grow g3') (rv.grow g3') fun h4 tk4 I4 g4 => ?_)
  exact fun hp4 => wpAny_execs_nil (h _ h4 tk4 hp4 ⟨rfl, I4⟩ ((g.trans (g3'.but L)).trans g4))

theorem swapped2 {env : Env} {x y : Str} {p1 p2 tp vp : Pos} {k k' : Nat} {e1 e2 : Expr} (hb : env.blockKind = .function) (hx : env.kindOf x = some .local) (hy : env.kindOf y = some .local)
    (hl : p2.line = p1.line) (hne : x ≠ y) (h1 : ∀ v p, e1 ≠ .Starred v p) (h1' : ∀ v p, e2 ≠ .Starred v p) (h2 : [e1, e2].all (foldedForSure 8) = false) (h3 : [e1, e2].all (constantsAlone 8) = false) :
    swappedStores [.Tuple [.Name x p1, .Name y p2] k tp] (.Tuple [e1, e2] k' vp) env = pure (some [x, y]) := by
  unfold swappedStores
  simp only [List.length_cons, List.length_nil, hb, h2, h3, List.filterMap_cons, List.filterMap_nil, hx, hy, List.head?_cons, Option.map_some, Option.getD_some, Expr.pos, hl, beq_self_eq_true, Bool.and_self, if_true]
  have e : ([x, y] : List Str).eraseDups.length = 2 := by
    have : (y == x) = false := by simpa using fun h => hne h.symm
    simp [List.eraseDups_cons, this]
  simp only [e]
  rw [if_neg (by decide), if_neg ?_]
  · rfl
  · simp only [List.any_cons, List.any_nil, Bool.or_false, Bool.or_eq_true]
    rintro (h | h) <;> (split at h) <;> first | (cases h; done) | exact absurd rfl (h1 _ _) | exact absurd rfl (h1' _ _)
theorem swapped3 {env : Env} {x y z : Str} {p1 p2 p3 tp vp : Pos} {k k' : Nat} {e1 e2 e3 : Expr} (hb : env.blockKind = .function) (hx : env.kindOf x = some .local) (hy : env.kindOf y = some .local) (hz : env.kindOf z = some .local)
    (hl : p2.line = p1.line) (hl' : p3.line = p1.line) (hne : x ≠ y) (hne2 : x ≠ z) (hne3 : y ≠ z) (h1 : ∀ v p, e1 ≠ .Starred v p) (h1' : ∀ v p, e2 ≠ .Starred v p) (h1'' : ∀ v p, e3 ≠ .Starred v p) (h2 : [e1, e2, e3].all (foldedForSure 8) = false) (h3 : [e1, e2, e3].all (constantsAlone 8) = false) :
    swappedStores [.Tuple [.Name x p1, .Name y p2, .Name z p3] k tp] (.Tuple [e1, e2, e3] k' vp) env = pure (some [x, y, z]) := by
  unfold swappedStores
  simp only [List.length_cons, List.length_nil, hb, h2, h3, List.filterMap_cons, List.filterMap_nil, hx, hy, hz, List.head?_cons, Option.map_some, Option.getD_some, Expr.pos, hl, hl', beq_self_eq_true, Bool.and_self, if_true]
  have e : ([x, y, z] : List Str).eraseDups.length = 3 := by
    have q : (y == x) = false := by simpa using fun h => hne h.symm
    have q2 : (z == x) = false := by simpa using fun h => hne2 h.symm
    have q3 : (z == y) = false := by simpa using fun h => hne3 h.symm
    simp [List.eraseDups_cons, q, q2, q3]
  simp only [e]
  rw [if_neg (by decide), if_neg ?_]
  · rfl
  · simp only [List.any_cons, List.any_nil, Bool.or_false, Bool.or_eq_true]
    rintro (h | h | h) <;> (split at h) <;> first | (cases h; done) | exact absurd rfl (h1 _ _) | exact absurd rfl (h1' _ _) | exact absurd rfl (h1'' _ _)
end
end Mine
end

-- PyD
section
namespace Mine

/-- what a def's scope must be for us -/
def scopeOk (scope : Scope) (Γ loc : List Str) : Bool :=
  scope.kind == .function && !scope.isCoroutine && !scope.isGenerator && scope.names.all (fun x => x.2 != .cell) &&
  loc.all (fun x => scope.names.lookup x == some .local && !(x == ("__debug__" : Str))) && Γ.all (fun x => scope.names.lookup x == some .globalImplicit && !(x == ("__debug__" : Str))) && decide loc.Nodup

def envZip (ps : List Str) (ds : List PV) (ls : List Str) : PEnv := (ps.zip (ds.map some)) ++ ls.map fun x => (x, none)

theorem lookup_rev_zip {ps : List Str} (hn : ps.Nodup) : ∀ {us : List Value} {i : Nat} {x : Str} {v : Value}, ps[i]? = some x → us[i]? = some v → (ps.zip us).reverse.lookup x = some v := by
  intro us i x v hx hv
  have hm : (x, v) ∈ ps.zip us := by
    have : (ps.zip us)[i]? = some (x, v) := by rw [List.getElem?_zip_eq_some]; exact ⟨hx, hv⟩
    exact List.mem_of_getElem? this
  have key : ∀ (l : List (Str × Value)), (l.map (·.1)).Nodup → (x, v) ∈ l → l.lookup x = some v := by
    intro l
    induction l with
    | nil => intro _ h; cases h
    | cons p r ih =>
      intro hd h
      obtain ⟨y, u⟩ := p
      simp only [List.map_cons, List.nodup_cons] at hd
      rcases List.mem_cons.mp h with q | q
      · cases q; simp [List.lookup]
      · have hne : (x == y) = false := by
          rw [beq_eq_false_iff_ne]
          rintro rfl
          exact hd.1 (List.mem_map_of_mem (f := (·.1)) q)
        rw [List.lookup_cons, hne]
        exact ih hd.2 q
  refine key _ ?_ (by simpa using hm)
  rw [List.map_reverse]
  refine (List.reverse_perm _).nodup_iff.mpr ?_
  have : (ps.zip us).map (·.1) = ps.take us.length := by
    clear hx hv hm key hn
    induction ps generalizing us with
    | nil => simp
    | cons a r ih => cases us with
      | nil => simp
      | cons b t => simp [ih]
  rw [this]
  exact hn.sublist (List.take_sublist _ _)

theorem repAll_get {h : Heap} : ∀ {vs : List Value} {ds : List PV} {i : Nat} {d : PV}, RepAll h vs ds → ds[i]? = some d → ∃ v, vs[i]? = some v ∧ Rep h v d
  | vs, [], i, d, r, e => by simp at e
  | vs, d' :: ds, i, d, r, e => by
    obtain ⟨v, vr, rfl, a, b⟩ := r.uncons
    cases i with
    | zero => simp at e; subst e; exact ⟨v, rfl, a⟩
    | succ i => simp at e; obtain ⟨u, q⟩ := repAll_get b e; exact ⟨u, by simpa using q.1, q.2⟩

section
variable {w : World} {n : Nat} {Γ : List Str} {ρ ρ' ρ₁ ρ₂ ρ₃ : PEnv} {e t : Expr} {d a b : PV} {p p' : Pos}

theorem inv_entry {h h₁ : Heap} {scope : Scope} {L : Addr} {ps ls : List Str} {ds : List PV} {us : List Value} (H : HOk w h) (hs : scopeOk scope Γ (ps ++ ls) = true) (hl : ps.length = ds.length) (r : RepAll h us ds)
    (hns : h₁.Ns L (fun x => (ps.zip us).reverse.lookup x)) (hk : Grow h h₁) (hL : L = h.objs.size) : Inv w scope Γ L h h₁ (envZip ps ds ls) := by
  simp only [scopeOk, Bool.and_eq_true, decide_eq_true_eq, List.all_eq_true] at hs
  obtain ⟨⟨⟨⟨⟨⟨k1, _⟩, _⟩, _⟩, k2⟩, k3⟩, k4⟩ := hs
  have hnames : (envZip ps ds ls).map (·.1) = ps ++ ls := by
    unfold envZip
    rw [List.map_append, List.map_map]
    congr 1
    · rw [List.map_fst_zip]; simp [hl]
    · simp [Function.comp_def]
  refine ⟨⟨_, ⟨hns, hk, by rw [hL]; exact Nat.le_refl _⟩, fun x d hx => ?_⟩, H, by simpa using k1, by rw [hnames]; exact k4, fun x hx => ?_, fun x hx => ?_⟩
  · unfold envZip at hx
    rcases List.mem_append.mp hx with q | q
    · obtain ⟨i, hi⟩ := List.getElem?_of_mem q
      rw [List.getElem?_zip_eq_some] at hi
      have h2 : ds[i]? = some d := by
        have := hi.2
        rw [List.getElem?_map] at this
        cases q2 : ds[i]? with
        | none => rw [q2] at this; cases this
        | some y => rw [q2] at this; simp at this; rw [this]
      obtain ⟨v, hv, rv⟩ := repAll_get r h2
      exact ⟨v, lookup_rev_zip (List.nodup_append.mp k4).1 hi.1 hv, rv.grow hk⟩
    · obtain ⟨y, _, hy⟩ := List.mem_map.mp q
      cases hy
  · rw [hnames] at hx
    have := k2 x hx
    simp only [Bool.and_eq_true, beq_iff_eq, Bool.not_eq_true'] at this
    exact this
  · have := k3 x hx
    simp only [Bool.and_eq_true, beq_iff_eq, Bool.not_eq_true'] at this
    exact this

theorem fn_intro {f : Str} {args : List PV} {r : PV} {kw : List (Str × PV)} (fa : Addr) {oc : Value} {od : Option Addr} {name qual : Str} {params : Arguments} {body : List Stmt} {scope : Scope} {dV kV doc pm cdv ct : Value} {an : Option Addr} {osl : Array (Option Value)}
    (hg : nsIn (KK w) mainGlobals f = some (some (.ref fa)))
    (ho : (KK w).lookup fa = some ⟨oc, od, .func (fnOf name qual params body scope dV kV doc pm an cdv ct), osl⟩)
    (hcd : codeIn (KK w) cdv qual = true)
    (ps ls : List Str) (ds : List PV)
    (hs : scopeOk scope Γ (ps ++ ls) = true) (hl : ps.length = ds.length)
    (hb : ∀ (s : Shared) (vs ks : List Value), HOk w s.heap → RepAll s.heap vs args → RepAll s.heap ks (kw.map (·.2)) → ∃ us, BindsTo s (fnOf name qual params body scope dV kV doc pm an cdv ct) ⟨vs, (kw.map (·.1)).zip ks⟩ (ps.zip us) ∧ RepAll s.heap us ds)
    (hbody : ∀ ρ, ρ = envZip ps ds ls → Exs w n Γ ρ [body] (.ret r)) : FnSpec w (n + 1) f args r kw := by
  refine ⟨fa, hg, ?_, fun A s vs ks Q E H R hp ra rk h => ?_⟩
  · unfold keepIn; simp only [ho]
  obtain ⟨us, B, ru⟩ := hb s vs ks H ra rk
  have hs' := hs
  simp only [scopeOk, Bool.and_eq_true, decide_eq_true_eq, List.all_eq_true] at hs'
  obtain ⟨⟨⟨⟨⟨⟨k1, k5⟩, k6⟩, k7⟩, k2⟩, k3⟩, k4⟩ := hs'
  obtain ⟨pp, loose, mean, mg, mb, T⟩ := H.T
  refine wpAny_call (codeAny_call_def (fd := fnOf name qual params body scope dV kV doc pm an cdv ct) (body := body) (binds := ps.zip us) (by have := R.d; omega) (H.K _ _ ho) rfl T.nolimit (codeRec_of H.K hcd) rfl B ?_ ?_ (fun h₁ hns hk => ?_) (by simpa using k5) (by simpa using k6) (by simpa using k1))
  · intro x hx; simpa using k7 x hx
  · intro x hx
    have h1 : x.1 ∈ ps := (List.of_mem_zip hx).1
    have := k2 x.1 (List.mem_append_left _ h1)
    simp only [Bool.and_eq_true, beq_iff_eq] at this
    exact this.1
  · have I := inv_entry H hs hl ru hns hk rfl
    have hbody' : Ex w n Γ (envZip ps ds ls) body (.ret r) := by simpa [Exs] using hbody _ rfl
    refine hbody'.run qual scope s.heap.objs.size fa cdv _ s.heap _ _ _ I ?_ (Nat.lt_of_lt_of_le hp (Nat.le_add_right _ _)) fun fl h' tk hp' k g => ?_
    · exact ⟨by have := R.d; show A.depth + 1 + n < _; omega, by have := R.u; show A.units + 3 + 8 * n + 400 < _; omega, R.hd⟩
    · obtain ⟨v, ρ, rfl, rv, I'⟩ := k
      obtain ⟨m, F, _⟩ := I'.fr
      exact h v h' tk hp' F.keep rv

/-- two ways to call, one body -/
theorem fn_intro2 {P : Prop} {f : Str} {args args' : List PV} {r : PV} {kw kw' : List (Str × PV)} (fa : Addr) {oc : Value} {od : Option Addr} {name qual : Str} {params : Arguments} {body : List Stmt} {scope : Scope} {dV kV doc pm cdv ct : Value} {an : Option Addr} {osl : Array (Option Value)}
    (hg : nsIn (KK w) mainGlobals f = some (some (.ref fa)))
    (ho : (KK w).lookup fa = some ⟨oc, od, .func (fnOf name qual params body scope dV kV doc pm an cdv ct), osl⟩)
    (hcd : codeIn (KK w) cdv qual = true)
    (ps ls : List Str) (ds : List PV)
    (hs : scopeOk scope Γ (ps ++ ls) = true) (hl : ps.length = ds.length)
    (hb : ∀ (s : Shared) (vs ks : List Value), HOk w s.heap → RepAll s.heap vs args → RepAll s.heap ks (kw.map (·.2)) → ∃ us, BindsTo s (fnOf name qual params body scope dV kV doc pm an cdv ct) ⟨vs, (kw.map (·.1)).zip ks⟩ (ps.zip us) ∧ RepAll s.heap us ds)
    (hb' : P → ∀ (s : Shared) (vs ks : List Value), HOk w s.heap → RepAll s.heap vs args' → RepAll s.heap ks (kw'.map (·.2)) → ∃ us, BindsTo s (fnOf name qual params body scope dV kV doc pm an cdv ct) ⟨vs, (kw'.map (·.1)).zip ks⟩ (ps.zip us) ∧ RepAll s.heap us ds)
    (hbody : ∀ ρ, ρ = envZip ps ds ls → Exs w n Γ ρ [body] (.ret r)) : FnSpec w (n + 1) f args r kw ∧ (P → FnSpec w (n + 1) f args' r kw') :=
  ⟨fn_intro fa hg ho hcd ps ls ds hs hl hb hbody, fun hP => fn_intro fa hg ho hcd ps ls ds hs hl (hb' hP) hbody⟩

theorem envZip_cons {x : Str} {ps ls : List Str} {d : PV} {ds : List PV} : envZip (x :: ps) (d :: ds) ls = (x, some d) :: envZip ps ds ls := rfl
theorem envZip_nil {x : Str} {ls : List Str} : envZip [] [] (x :: ls) = (x, none) :: envZip [] [] ls := rfl
theorem envZip_nil' : envZip [] [] [] = [] := rfl

theorem L_nil : EvL w n Γ ρ [] [] ρ := by
  refine ⟨rfl, ?_⟩; intro nm scope L ad cd A h₀ s pos Q E I R hp h
  exact wpAny_items_nil (h _ s.heap s.toks hp I (Heap.ExtBut.refl _ _) .nil)
theorem L_cons {es : List Expr} {ds : List PV} (h1 : EvE w n Γ ρ e d ρ₁) (h2 : EvL w n Γ ρ₁ es ds ρ₂) (hst : ∀ env, starEach (e :: es) env = (false, eval e env) :: starEach es env := by intros; with_unfolding_all rfl) : EvL w n Γ ρ (e :: es) (d :: ds) ρ₂ := by
  refine ⟨by simp [h2.len], ?_⟩; intro nm scope L ad cd A h₀ s pos Q E I R hp h
  refine wpAny_items_cons (h1.run nm scope L ad cd A h₀ s _ E I R hp fun v h' tk hp' I' g r => ?_) (hst _)
  exact h2.run nm scope L ad cd A h₀ _ pos _ E I' R hp' fun vs h3 tk3 hp3 I3 g3 r3 => h _ h3 tk3 hp3 I3 (g.trans g3) (.cons (r.but I'.dict g3) r3)

theorem E_tup {es : List Expr} {ds : List PV} {k : Nat} (h1 : EvL w n Γ ρ es ds ρ₁) (hlen : es.length ≤ 1000 := by with_unfolding_all decide) : EvE w n Γ ρ (.Tuple es k p) (.tuple ds) ρ₁ := by
  constructor; intro nm scope L ad cd A h₀ s Q E I R hp h
  refine Tuple_ (h1.run nm scope L ad cd A h₀ s p _ E I R hp fun vs h' tk hp' I' g r => ?_)
  refine wpAny_newObj_type (T := "tuple") (data := .seq vs.toArray) (dict := none) (h _ _ tk hp' (I'.grow (Grow.push _ _)) (g.trans ((Grow.push _ _).but L)) (rep_tup (vs := vs) ⟨_, Heap.get?_push_size _ rfl, rfl, 0, rfl⟩ (r.grow (Grow.push _ _)))) ?_
  show vs.toArray.size ≤ sizeLine
  rw [List.size_toArray, r.length, ← h1.len]
  exact Nat.le_trans hlen (by decide)

/-- a call of a def, no keywords -/
theorem E_call {f : Str} {es : List Expr} {ds : List PV} {k : Nat} (hf : f ∈ Γ) (h1 : EvL w n Γ ρ (e :: es) ds ρ₁) (F : FnSpec w k f ds d) (hk : k ≤ n := by with_unfolding_all decide)
    (hst : ∀ env, starEach (e :: es) env = (false, eval e env) :: es.map (fun x => (false, eval x env)) := by intros; with_unfolding_all rfl) :
    EvE w n Γ ρ (.Call (.Name f p) (e :: es) [] p') d ρ₁ := by
  constructor; intro nm scope L ad cd A h₀ s Q E I R hp h
  obtain ⟨fa, hg, hkeep, F⟩ := F
  obtain ⟨m, Fr, _⟩ := I.fr
  obtain ⟨pp, loose, mean, mg, mb, T⟩ := I.hok.T
  show wpAny _ _ (do callWith p' (← eval (.Name f p) (envOf nm scope L ad cd)) [] (backTo p' (starEach (e :: es) (envOf nm scope L ad cd))) (backToKw p' (keywordEach [] (envOf nm scope L ad cd)))) Q E s
  refine wpAny_bind (name_K Fr I.hok.K (topRead_of T) hg ?_ I.kind (by exact (I.glo f hf).1) (I.glo f hf).2)
  have hst' := hst (envOf nm scope L ad cd)
  refine callWith_K (h₀ := h₀) I.hok.K hkeep (h1.run nm scope L ad cd A h₀ s p' _ E I R hp fun vs h' tk hp' I' g r => ?_) ?_ ?_
  · refine ⟨I'.here.K, ?_⟩
    exact F A _ vs [] Q E I'.here (R.le hk) hp' r .nil fun v h3 tk3 hp3 g3 r3 => h v h3 tk3 hp3 (I'.grow g3) (g.trans (g3.but L)) r3
  · rw [hst']
    congr 1
    have q : starEach (e :: es) (envOf nm scope L ad cd) = (false, eval e (envOf nm scope L ad cd)) :: starEach es (envOf nm scope L ad cd) := by
      cases e <;> first | rfl | (simp [starEach] at hst')
    rw [q] at hst'
    exact ((List.cons.inj hst').2).symm
  · have q : starEach (e :: es) (envOf nm scope L ad cd) = (false, eval e (envOf nm scope L ad cd)) :: starEach es (envOf nm scope L ad cd) := by
      cases e <;> first | rfl | (simp [starEach] at hst')
    rw [q] at hst'
    rw [(List.cons.inj hst').2]
    simp [backTo]
end
end Mine
end

-- PyE
section
namespace Mine
open PySem.Builtin.Int (intBits)

/-! and, or -/
structure EvA (w : World) (n : Nat) (Γ : List Str) (ρ : PEnv) (op : BoolOp) (es : List Expr) (b : Bool) (ρ' : PEnv) : Prop where
  run : ∀ (nm : Str) (scope : Scope) (L a : Addr) (cd : Value) (A : Around) (h₀ : Heap) (s : Shared) (Q : Bool → Shared → Prop) (E : Value → Shared → Prop),
    Inv w scope Γ L h₀ s.heap ρ → Room n A → 0 < s.toks →
    (∀ h' tk, 0 < tk → Inv w scope Γ L h₀ h' ρ' → Heap.ExtBut L s.heap h' → Q b { s with heap := h', toks := tk }) →
    wpAny (model pg w) A (allTrue op es (envOf nm scope L a cd)) Q E s
structure EvB (w : World) (n : Nat) (Γ : List Str) (ρ : PEnv) (op : BoolOp) (es : List Expr) (d : PV) (ρ' : PEnv) : Prop where
  run : ∀ (nm : Str) (scope : Scope) (L a : Addr) (cd : Value) (A : Around) (h₀ : Heap) (s : Shared) (p : Pos) (Q : Value → Shared → Prop) (E : Value → Shared → Prop),
    Inv w scope Γ L h₀ s.heap ρ → Room n A → 0 < s.toks →
    (∀ v h' tk, 0 < tk → Inv w scope Γ L h₀ h' ρ' → Heap.ExtBut L s.heap h' → Rep h' v d → Q v { s with heap := h', toks := tk }) →
    wpAny (model pg w) A (boolOp p op (evalEach es (envOf nm scope L a cd))) Q E s

section
variable {w : World} {n : Nat} {Γ : List Str} {ρ ρ' ρ₁ ρ₂ ρ₃ : PEnv} {e e₂ l r t : Expr} {d a b c : PV} {p p' : Pos} {es : List Expr} {b₁ b₂ : Bool}
theorem A_and0 : EvA w n Γ ρ .And [] true ρ := by
  constructor; intro nm scope L ad cd A h₀ s Q E I R hp h
  exact wpAny_allTrue_And_nil (h s.heap s.toks hp I (Heap.ExtBut.refl _ _))
theorem A_or0 : EvA w n Γ ρ .Or [] false ρ := by
  constructor; intro nm scope L ad cd A h₀ s Q E I R hp h
  exact wpAny_allTrue_Or_nil (h s.heap s.toks hp I (Heap.ExtBut.refl _ _))
theorem A_and (h1 : EvT w n Γ ρ e b₁ ρ₁) (h2 : b₁ = true → EvA w n Γ ρ₁ .And es b₂ ρ₁) : EvA w n Γ ρ .And (e :: es) (b₁ && b₂) ρ₁ := by
  constructor; intro nm scope L ad cd A h₀ s Q E I R hp h
  refine wpAny_allTrue_And_cons (h1.run nm scope L ad cd A h₀ s _ E I R hp fun h' tk hp' I' g => ?_)
  cases b₁ with
  | true => exact (h2 rfl).run nm scope L ad cd A h₀ _ Q E I' R hp' fun h3 tk3 hp3 I3 g3 => h h3 tk3 hp3 I3 (g.trans g3)
  | false => exact h h' tk hp' I' g
theorem A_or (h1 : EvT w n Γ ρ e b₁ ρ₁) (h2 : b₁ = false → EvA w n Γ ρ₁ .Or es b₂ ρ₁) : EvA w n Γ ρ .Or (e :: es) (b₁ || b₂) ρ₁ := by
  constructor; intro nm scope L ad cd A h₀ s Q E I R hp h
  refine wpAny_allTrue_Or_cons (h1.run nm scope L ad cd A h₀ s _ E I R hp fun h' tk hp' I' g => ?_)
  cases b₁ with
  | false => exact (h2 rfl).run nm scope L ad cd A h₀ _ Q E I' R hp' fun h3 tk3 hp3 I3 g3 => h h3 tk3 hp3 I3 (g.trans g3)
  | true => exact h h' tk hp' I' g
theorem T_bool {op : BoolOp} (h1 : EvA w n Γ ρ op es b₁ ρ₁) : EvT w n Γ ρ (.BoolOp op es p) b₁ ρ₁ := by
  constructor; intro nm scope L ad cd A h₀ s Q E I R hp h
  exact wpAny_isTrue_BoolOp (h1.run nm scope L ad cd A h₀ s Q E I R hp h)
theorem T_eq {x : Expr} (h1 : EvT w n Γ ρ x b₁ ρ₁) (h : b₁ = b₂) : EvT w n Γ ρ x b₂ ρ₁ := h ▸ h1
theorem E_eq {x : Expr} (h1 : EvE w n Γ ρ x a ρ₁) (h : a = b) : EvE w n Γ ρ x b ρ₁ := h ▸ h1

theorem V_one {op : BoolOp} (h1 : EvE w n Γ ρ e d ρ₁) : EvB w n Γ ρ op [e] d ρ₁ := by
  constructor; intro nm scope L ad cd A h₀ s p Q E I R hp h
  exact h1.run nm scope L ad cd A h₀ s Q E I R hp h
theorem V_and (h1 : EvE w n Γ ρ e a ρ₁) (ht : TruV a b₁) (h2 : b₁ = true → EvB w n Γ ρ₁ .And (e₂ :: es) d ρ₁) (h3 : b₁ = false → d = a) : EvB w n Γ ρ .And (e :: e₂ :: es) d ρ₁ := by
  constructor; intro nm scope L ad cd A h₀ s p Q E I R hp h
  show wpAny _ _ (do let v ← eval e (envOf nm scope L ad cd); standAt p; let t ← holding [v] (truthy v); match BoolOp.And, t with | .And, false | .Or, true => pure v | _, _ => boolOp p .And (evalEach (e₂ :: es) (envOf nm scope L ad cd))) _ _ _
  refine wpAny_bind (h1.run nm scope L ad cd A h₀ s _ E I R hp fun v h' tk hp' I' g r => ?_)
  refine wpAny_bind (wpAny_standAt (wpAny_bind (wpAny_holding (withToks hp' (ht.run w A _ v _ E R.zero r fun h3 tk3 g3 => fun hp3 => ?_)))))
  cases b₁ with
  | true => exact (h2 rfl).run nm scope L ad cd A h₀ _ p Q E (I'.grow g3) R hp3 fun v h4 tk4 hp4 I4 g4 r4 => h v h4 tk4 hp4 I4 ((g.trans (g3.but L)).trans g4) r4
  | false => exact wpAny_pure (h v _ _ hp3 (I'.grow g3) (g.trans (g3.but L)) (by rw [h3 rfl]; exact r.grow g3))
theorem V_or (h1 : EvE w n Γ ρ e a ρ₁) (ht : TruV a b₁) (h2 : b₁ = false → EvB w n Γ ρ₁ .Or (e₂ :: es) d ρ₁) (h3 : b₁ = true → d = a) : EvB w n Γ ρ .Or (e :: e₂ :: es) d ρ₁ := by
  constructor; intro nm scope L ad cd A h₀ s p Q E I R hp h
  show wpAny _ _ (do let v ← eval e (envOf nm scope L ad cd); standAt p; let t ← holding [v] (truthy v); match BoolOp.Or, t with | .And, false | .Or, true => pure v | _, _ => boolOp p .Or (evalEach (e₂ :: es) (envOf nm scope L ad cd))) _ _ _
  refine wpAny_bind (h1.run nm scope L ad cd A h₀ s _ E I R hp fun v h' tk hp' I' g r => ?_)
  refine wpAny_bind (wpAny_standAt (wpAny_bind (wpAny_holding (withToks hp' (ht.run w A _ v _ E R.zero r fun h3 tk3 g3 => fun hp3 => ?_)))))
  cases b₁ with
  | false => exact (h2 rfl).run nm scope L ad cd A h₀ _ p Q E (I'.grow g3) R hp3 fun v h4 tk4 hp4 I4 g4 r4 => h v h4 tk4 hp4 I4 ((g.trans (g3.but L)).trans g4) r4
  | true => exact wpAny_pure (h v _ _ hp3 (I'.grow g3) (g.trans (g3.but L)) (by rw [h3 rfl]; exact r.grow g3))
theorem E_boolop {op : BoolOp} (h1 : EvB w n Γ ρ op es d ρ₁) : EvE w n Γ ρ (.BoolOp op es p) d ρ₁ := by
  constructor; intro nm scope L ad cd A h₀ s Q E I R hp h
  exact h1.run nm scope L ad cd A h₀ s p Q E I R hp h
/-- and over bools, as a value -/
theorem V_andb (h1 : EvE w n Γ ρ e (.bool b₁) ρ₁) (h2 : b₁ = true → EvB w n Γ ρ₁ .And (e₂ :: es) (.bool b₂) ρ₁) : EvB w n Γ ρ .And (e :: e₂ :: es) (.bool (b₁ && b₂)) ρ₁ := by
  refine V_and h1 R_bool (fun hb => ?_) (fun hb => ?_)
  · rw [hb]; exact h2 hb
  · rw [hb]; rfl

/-! a chain of two -/
theorem T_chain {op₁ op₂ : CmpOp} (h1 : EvE w n Γ ρ l a ρ) (h2 : EvE w n Γ ρ e b ρ) (hv : CmpV op₁ a b b₁) (h3 : b₁ = true → EvE w n Γ ρ r c ρ) (hv2 : b₁ = true → CmpV op₂ b c b₂)
    (hm2 : behindInMarks op₂ r = false := by with_unfolding_all rfl) : EvT w n Γ ρ (.Compare l [op₁, op₂] [e, r] p) (b₁ && b₂) ρ := by
  constructor; intro nm scope L ad cd A h₀ s Q E I R hp h
  show wpAny _ _ (do testChain p (← eval l (envOf nm scope L ad cd)) [op₁, op₂] [eval e (envOf nm scope L ad cd), markedBehindIn op₂ r (eval r (envOf nm scope L ad cd))]) _ _ _
  rw [markedBehindIn_of_false hm2]
  refine wpAny_bind (h1.run nm scope L ad cd A h₀ s _ E I R hp fun va h' tk hp' I' g r1 => ?_)
  show wpAny _ _ (do
    let rv ← holding [va] (eval e (envOf nm scope L ad cd))
    standAt p
    let c ← holding [va, rv] (compareOp op₁ va rv)
    release [va, rv] [c]
    if ← holding [c, rv] (truthy c) then testChain p rv [op₂] [eval r (envOf nm scope L ad cd)] else pure false) _ _ _
  refine wpAny_bind (wpAny_holding (h2.run nm scope L ad cd A h₀ _ _ E I' R hp' fun vb h'' tk' hp'' I'' g' r2 => ?_))
  refine wpAny_bind (wpAny_standAt (wpAny_bind (wpAny_holding (withToks hp'' (hv.run w A _ va vb _ E R.zero (r1.but I'.dict g') r2 fun h3' tk3 g3 => fun hp3 => ?_)))))
  refine wpAny_bind (wpAny_release (wpAny_bind (wpAny_holding (wpAny_truthy_bool ?_))))
  have G := (g.trans g').trans (g3.but L)
  cases b₁ with
  | false => exact wpAny_pure (h h3' tk3 hp3 (I''.grow g3) G)
  | true =>
    show wpAny _ _ (do
      let rv ← holding [vb] (eval r (envOf nm scope L ad cd))
      standAt p
      let c ← operate [vb, rv] (compareOp op₂ vb rv)
      holding [c] (truthy c)) _ _ _
    refine wpAny_bind (wpAny_holding ((h3 rfl).run nm scope L ad cd A h₀ _ _ E (I''.grow g3) R hp3 fun vc h4 tk4 hp4 I4 g4 r4 => ?_))
    refine wpAny_bind (wpAny_standAt (wpAny_bind (wpAny_operateT (withToks hp4 ((hv2 rfl).run w A _ vb vc _ E R.zero ((r2.grow g3).but (I''.grow g3).dict g4) r4 fun h5 tk5 g5 => fun hp5 => ?_)))))
    exact wpAny_holding (wpAny_truthy_bool (h h5 tk5 hp5 (I4.grow g5) ((G.trans g4).trans (g5.but L))))

/-! NamedExpr -/
theorem E_named {x : Str} (h1 : EvE w n Γ ρ e d ρ₁) (u : Upd x d ρ₁ ρ₂) : EvE w n Γ ρ (.NamedExpr (.Name x p) e p') d ρ₂ := by
  constructor; intro nm scope L ad cd A h₀ s Q E I R hp h
  show wpAny _ _ (do let v ← eval e (envOf nm scope L ad cd); holding [v] (assign (.Name x p) (envOf nm scope L ad cd) v); pure v) _ _ _
  refine wpAny_bind (h1.run nm scope L ad cd A h₀ s _ E I R hp fun v h' tk hp' I' g r => ?_)
  refine wpAny_bind (wpAny_holding (assign_Name (withToks hp' (store_run I' u r fun h3 tk3 I3 g3 => fun hp3 => wpAny_pure ?_))))
  exact h v h3 tk3 hp3 I3 (g.trans g3) (r.but I'.dict g3)

/-! subscripts -/
theorem E_tupitem {ds : List PV} {i : Int} {j : Nat} (h1 : EvE w n Γ ρ l (.tuple ds) ρ₁) (h2 : EvE w n Γ ρ₁ r (.int i) ρ₂) (hlo : -(2 ^ 63) ≤ i) (hhi : i < 2 ^ 63) (hj : seqIndex? i ds.length = some j) (hd : ds[j]? = some d)
    (hs : ∀ o i, subscripted r false o i = operate [o, i] (getItem o i) := by intros; with_unfolding_all rfl) : EvE w n Γ ρ (.Subscript l r p) d ρ₂ := by
  constructor; intro nm scope L ad cd A h₀ s Q E I R hp h
  refine Subscript_ (h1.run nm scope L ad cd A h₀ s _ E I R hp fun va h' tk hp' I' g r1 => ?_)
  refine h2.run nm scope L ad cd A h₀ _ _ E I' R hp' fun vb h'' tk' hp'' I'' g' r2 => ?_
  obtain ⟨t, vs, rfl, ht, rv⟩ := (r1.but I'.dict g').tup
  obtain ⟨u, rfl⟩ := r2.int
  obtain ⟨v, hv, rd⟩ := repAll_get rv hd
  exact item_tupleT (l := vs) ht hlo hhi (by rw [rv.length]; exact hj) hv (h v h'' tk' hp'' I'' (g.trans g') rd) (hs _ _)
theorem E_listitem {ds : List PV} {i : Int} (h1 : EvE w n Γ ρ l (.list ds) ρ₁) (h2 : EvE w n Γ ρ₁ r (.int i) ρ₂) (hlo : 0 ≤ i) (hhi : i < 2 ^ 63) (hd : ds[i.toNat]? = some d)
    (hs : ∀ o i, subscripted r false o i = operate [o, i] (getItem o i) := by intros; with_unfolding_all rfl) : EvE w n Γ ρ (.Subscript l r p) d ρ₂ := by
  constructor; intro nm scope L ad cd A h₀ s Q E I R hp h
  refine Subscript_ (h1.run nm scope L ad cd A h₀ s _ E I R hp fun va h' tk hp' I' g r1 => ?_)
  refine h2.run nm scope L ad cd A h₀ _ _ E I' R hp' fun vb h'' tk' hp'' I'' g' r2 => ?_
  obtain ⟨t, vs, rfl, ht, rv⟩ := (r1.but I'.dict g').list
  obtain ⟨u, rfl⟩ := r2.int
  obtain ⟨v, hv, rd⟩ := repAll_get rv hd
  refine tail_any ht.typeIs slot_list_getitem.lookup (wpAny_getItem_list ht hlo hhi (by simpa using hv) (h v h'' tk' hp'' I'' (g.trans g') rd)) (hs _ _)
theorem E_stritem {x : Str} {i : Int} (h1 : EvE w n Γ ρ l (.str x) ρ₁) (h2 : EvE w n Γ ρ₁ r (.int i) ρ₂) (hr : fitsSsize i = true) (hlo : -(x.length : Int) ≤ i) (hhi : i < x.length)
    (hs : ∀ o i, subscripted r false o i = operate [o, i] (getItem o i) := by intros; with_unfolding_all rfl) (ht : ∀ o t r, letTemporaryGo l (.str o t) r = pure () := by intros; with_unfolding_all rfl) : EvE w n Γ ρ (.Subscript l r p) (.str (Txt.item x i)) ρ₂ := by
  constructor; intro nm scope L ad cd A h₀ s Q E I R hp h
  refine Subscript_ (h1.run nm scope L ad cd A h₀ s _ E I R hp fun va h' tk hp' I' g r1 => ?_)
  refine h2.run nm scope L ad cd A h₀ _ _ E I' R hp' fun vb h'' tk' hp'' I'' g' r2 => ?_
  obtain ⟨t, rfl⟩ := r1.str
  obtain ⟨u, rfl⟩ := r2.int
  refine withToks hp'' (PyProof.Rows.item_str hr hlo hhi (fun _ hp3 => h _ _ _ hp3 I'' (g.trans g') rep_str) (hs _ _) fun r => ht _ _ _)

/-- one bound of a slice -/
structure EvO (w : World) (n : Nat) (Γ : List Str) (ρ : PEnv) (e : Option Expr) (d : Option Int) : Prop where
  run : ∀ (nm : Str) (scope : Scope) (L a : Addr) (cd : Value) (A : Around) (h₀ : Heap) (s : Shared) (Q : Value → Shared → Prop) (E : Value → Shared → Prop),
    Inv w scope Γ L h₀ s.heap ρ → Room n A → 0 < s.toks →
    (∀ v h' tk, 0 < tk → Inv w scope Γ L h₀ h' ρ → Heap.ExtBut L s.heap h' → (match d with | none => v = .none | some i => ∃ u, v = .int i u) → Q v { s with heap := h', toks := tk }) →
    wpAny (model pg w) A (evalPart e (envOf nm scope L a cd)) Q E s
theorem O_none : EvO w n Γ ρ none none := by
  constructor; intro nm scope L ad cd A h₀ s Q E I R hp h
  exact wpAny_pure (h .none s.heap s.toks hp I (Heap.ExtBut.refl _ _) rfl)
theorem O_some {i : Int} (h1 : EvE w n Γ ρ e (.int i) ρ) : EvO w n Γ ρ (some e) (some i) := by
  constructor; intro nm scope L ad cd A h₀ s Q E I R hp h
  exact h1.run nm scope L ad cd A h₀ s Q E I R hp fun v h' tk hp' I' g r => h v h' tk hp' I' g r.int
theorem keptGrow (h₁ : Heap) : KeptH (fun h => Grow h₁ h) := fun h ob g => g.trans (Grow.push _ _)
theorem E_slice {x : Str} {lo hi : Option Expr} {i j : Option Int} (h1 : EvE w n Γ ρ l (.str x) ρ) (h2 : EvO w n Γ ρ lo i) (h3 : EvO w n Γ ρ hi j) (hx : x.length ≤ sizeLine)
    (ht : ∀ o r, letTemporaryGo l o r = pure () := by intros; with_unfolding_all rfl) : EvE w n Γ ρ (.Subscript l (.Slice lo hi none p) p') (.str (Txt.slice x i j)) ρ := by
  constructor; intro nm scope L ad cd A h₀ s Q E I R hp h
  refine withToks hp ?_
  refine PySem.Subscript_Slice (h1.run nm scope L ad cd A h₀ s _ E I R hp fun va h' tk hp' I' g r1 => ?_) ht
  obtain ⟨t, rfl⟩ := r1.str
  refine wpAny_Slice (h2.run nm scope L ad cd A h₀ _ _ E I' R hp' fun vl h2' tk2 hp2 I2 g2 q2 => ?_)
  refine h3.run nm scope L ad cd A h₀ _ _ E I2 R hp2 fun vu h3' tk3 hp3 I3 g3 q3 => ?_
  refine wpAny_pure ?_
  have fin : ∀ h4 t' k, Grow h3' h4 → (0 < k → Q (.str (Txt.slice x i j) t') { s with heap := h4, toks := k }) := fun h4 t' k g4 hp4 =>
    h _ h4 k hp4 (I3.grow g4) (((g.trans g2).trans g3).trans (g4.but L)) rep_str
  cases i with
  | none =>
    subst q2
    cases j with
    | none => subst q3; exact SBH.sliceItem_nn (s := { s with heap := h3', toks := tk3 }) (keptGrow h3') (Grow.refl _) fin hx
    | some j => obtain ⟨u, rfl⟩ := q3; exact SBH.sliceItem_ns (s := { s with heap := h3', toks := tk3 }) (keptGrow h3') (Grow.refl _) fin hx
  | some i =>
    obtain ⟨u2, rfl⟩ := q2
    cases j with
    | none => subst q3; exact SBH.sliceItem_sn (s := { s with heap := h3', toks := tk3 }) (keptGrow h3') (Grow.refl _) fin hx
    | some j => obtain ⟨u, rfl⟩ := q3; exact SBH.sliceItem_ss (s := { s with heap := h3', toks := tk3 }) (keptGrow h3') (Grow.refl _) fin hx
end
end Mine
end

-- PyF
section
namespace Mine
open PySem.Builtin.Int (intBits)

/-- a call of a value that is no def -/
structure CallV (f : Value) (ds : List PV) (r : PV) : Prop where
  run : ∀ (w : World) (A : Around) (s : Shared) (vs : List Value) (Q : Value → Shared → Prop) (E : Value → Shared → Prop),
    Room 0 A → 0 < s.toks → HOk w s.heap → RepAll s.heap vs ds → (∀ v h' tk, Grow s.heap h' → Rep h' v r → Q v { s with heap := h', toks := tk }) → wpAny (model pg w) A (call f vs) Q E s

def isBuiltinV : Value → Bool
  | .builtin _ => true
  | .type _ => true
  | _ => false

section
variable {w : World} {n : Nat} {Γ : List Str} {ρ ρ' ρ₁ ρ₂ ρ₃ : PEnv} {e e₂ l r t : Expr} {d a b c : PV} {p p' : Pos} {es : List Expr} {b₁ b₂ : Bool}

theorem E_callb {f : Str} {bv : Value} {ds : List PV} (hf : f ∈ Γ) (hn : nsIn (KK w) mainGlobals f = some none) (hv : bootBuiltins f = some bv) (hne : f ≠ "__name__") (hb : isBuiltinV bv = true)
    (h1 : EvL w n Γ ρ (e :: es) ds ρ₁) (F : CallV bv ds d)
    (hst : ∀ env, starEach (e :: es) env = (false, eval e env) :: starEach es env := by intros; with_unfolding_all rfl) (hpl : ∀ p env, (backTo p (starEach es env)).any (·.1) = false := by intros; with_unfolding_all rfl) :
    EvE w n Γ ρ (.Call (.Name f p) (e :: es) [] p') d ρ₁ := by
  constructor; intro nm scope L ad cd A h₀ s Q E I R hp h
  obtain ⟨m, Fr, _⟩ := I.fr
  obtain ⟨pp, loose, mean, mg, mb, T⟩ := I.hok.T
  show wpAny _ _ (do callWith p' (← eval (.Name f p) (envOf nm scope L ad cd)) [] (backTo p' (starEach (e :: es) (envOf nm scope L ad cd))) (backToKw p' (keywordEach [] (envOf nm scope L ad cd)))) Q E s
  refine wpAny_bind (name_B Fr I.hok.K (topRead_of T) hn hv hne ?_ I.kind (by exact (I.glo f hf).1) (I.glo f hf).2)
  refine withToks hp ?_
  have main : wpAny (model pg w) A (spliced (backTo p' (starEach (e :: es) (envOf nm scope L ad cd)))) (fun vs s₁ => wpAny (model pg w) A (call bv vs) (fun a s' => 0 < s'.toks → Q a s') E s₁) E s := by
    refine h1.run nm scope L ad cd A h₀ s p' _ E I R hp fun vs h' tk hp' I' g r => ?_
    exact F.run w A _ vs _ E R.zero hp' I'.here r fun v h3 tk3 g3 r3 hp3 => h v h3 tk3 hp3 (I'.grow g3) (g.trans (g3.but L)) r3
  cases bv with
  | builtin id => exact callWith_method1 (first := []) main (hst _) (hpl _ _)
  | type T => exact PyProof.Rows.callWith_type1 main (hst _) (hpl _ _)
  | _ => cases hb

theorem repAll1 {h : Heap} {vs : List Value} (x : RepAll h vs [a]) : ∃ v, vs = [v] ∧ Rep h v a := by
  obtain ⟨v, vr, rfl, r, q⟩ := x.uncons
  obtain rfl := q.unnil
  exact ⟨v, rfl, r⟩
theorem repAll2 {h : Heap} {vs : List Value} (x : RepAll h vs [a, b]) : ∃ v u, vs = [v, u] ∧ Rep h v a ∧ Rep h u b := by
  obtain ⟨v, vr, rfl, r, q⟩ := x.uncons
  obtain ⟨u, rfl, q2⟩ := repAll1 q
  exact ⟨v, u, rfl, r, q2⟩

theorem K_abs {i : Int} : CallV (.builtin "abs") [.int i] (.int (if i < 0 then -i else i)) := by
  constructor; intro w A s vs Q E R hp H ra h
  obtain ⟨v, rfl, r⟩ := repAll1 ra
  obtain ⟨t, rfl⟩ := r.int
  exact PyProof.Rows.call_abs_int fun u tk => h _ s.heap tk (Grow.refl _) rep_int
theorem K_len {x : Str} (hx : x.length ≤ sizeLine) : CallV (.builtin "len") [.str x] (.int x.length) := by
  constructor; intro w A s vs Q E R hp H ra h
  obtain ⟨v, rfl, r⟩ := repAll1 ra
  obtain ⟨t, rfl⟩ := r.str
  refine PyProof.Rows.len_str ?_ (h _ s.heap _ (Grow.refl _) rep_int)
  have : sizeLine = 16777216 := rfl
  omega
theorem K_max {i j : Int} : CallV (.builtin "max") [.int i, .int j] (.int (if i < j then j else i)) := by
  constructor; intro w A s vs Q E R hp H ra h
  obtain ⟨v, u, rfl, r, q⟩ := repAll2 ra
  obtain ⟨t, rfl⟩ := r.int
  obtain ⟨t', rfl⟩ := q.int
  refine max_two_ints R.hd fun h' tk g => ?_
  by_cases hc : j > i
  · rw [if_pos hc]; rw [if_pos hc] at h; exact h _ h' tk g rep_int
  · rw [if_neg hc]; rw [if_neg hc] at h; exact h _ h' tk g rep_int
theorem K_min {i j : Int} : CallV (.builtin "min") [.int i, .int j] (.int (if j < i then j else i)) := by
  constructor; intro w A s vs Q E R hp H ra h
  obtain ⟨v, u, rfl, r, q⟩ := repAll2 ra
  obtain ⟨t, rfl⟩ := r.int
  obtain ⟨t', rfl⟩ := q.int
  refine min_two_ints R.hd fun h' tk g => ?_
  by_cases hc : j < i
  · rw [if_pos hc]; rw [if_pos hc] at h; exact h _ h' tk g rep_int
  · rw [if_neg hc]; rw [if_neg hc] at h; exact h _ h' tk g rep_int
theorem K_divmod {i j : Int} (hb : j ≠ 0) (hl : j.natAbs.log2 < 9000) : CallV (.builtin "divmod") [.int i, .int j] (.tuple [.int (i.fdiv j), .int (i.fmod j)]) := by
  constructor; intro w A s vs Q E R hp H ra h
  obtain ⟨v, u, rfl, r, q⟩ := repAll2 ra
  obtain ⟨t, rfl⟩ := r.int
  obtain ⟨t', rfl⟩ := q.int
  refine divmod_int hb ?_ (Or.inl (PyProof.noPylong_of_log2 hl))
  exact h _ _ _ (Grow.push _ _) (rep_tup (vs := [.int (i.fdiv j) s.toks, .int (i.fmod j) (s.toks + 1)]) ⟨_, Heap.get?_push_size _ rfl, rfl, 0, rfl⟩ (.cons rep_int (.cons rep_int .nil)))
theorem K_int {i : Int} : CallV (.type "int") [.int i] (.int i) := by
  constructor; intro w A s vs Q E R hp H ra h
  obtain ⟨v, rfl, r⟩ := repAll1 ra
  obtain ⟨t, rfl⟩ := r.int
  exact call_int_int (h _ s.heap s.toks (Grow.refl _) rep_int)

/-! methods -/
structure Meth0 (name : Str) (a r : PV) : Prop where
  run : ∀ (w : World) (A : Around) (s : Shared) (va : Value) (pos : Pos) (Q : Value → Shared → Prop) (E : Value → Shared → Prop),
    Room 0 A → Rep s.heap va a → (∀ v h' tk, Grow s.heap h' → Rep h' v r → Q v { s with heap := h', toks := tk }) → MethodOnS pg w A E name va pos [] Q s
structure Meth1 (name : Str) (a b r : PV) : Prop where
  run : ∀ (w : World) (A : Around) (s : Shared) (va : Value) (tree : Sem Value) (pos : Pos) (Q : Value → Shared → Prop) (E : Value → Shared → Prop),
    Room 0 A → Rep s.heap va a →
    wpAny (model pg w) A tree (fun v s₁ => Rep s₁.heap v b ∧ Rep s₁.heap va a ∧ ∀ u h' tk, Grow s₁.heap h' → Rep h' u r → Q u { s₁ with heap := h', toks := tk }) E s →
    MethodOnS pg w A E name va pos [(false, tree)] Q s
theorem E_meth0 {name : Str} {apos : Pos} (h1 : EvE w n Γ ρ e a ρ₁) (hm : Meth0 name a d) (hline : (apos.endLine == p.line) = true := by with_unfolding_all rfl)
    (hbase : ∀ env whole, attributeBase e name env whole = whole := by intros; with_unfolding_all rfl) : EvE w n Γ ρ (.Call (.Attribute e name apos) [] [] p) d ρ₁ := by
  constructor; intro nm scope L ad cd A h₀ s Q E I R hp h
  refine withToks hp (Call_method0 (hbase _ _) hline (h1.run nm scope L ad cd A h₀ s _ E I R hp fun va h' tk hp' I' g r1 => ?_))
  exact hm.run w A _ va p _ E R.zero r1 fun v h3 tk3 g3 r3 hp3 => h v h3 tk3 hp3 (I'.grow g3) (g.trans (g3.but L)) r3
theorem E_meth1 {name : Str} {apos : Pos} (h1 : EvE w n Γ ρ e a ρ₁) (h2 : EvE w n Γ ρ₁ e₂ b ρ₂) (hm : Meth1 name a b d) (hline : (apos.endLine == p.line) = true := by with_unfolding_all rfl)
    (hbase : ∀ env whole, attributeBase e name env whole = whole := by intros; with_unfolding_all rfl) (hs : ∀ env, starEach [e₂] env = [(false, eval e₂ env)] := by intros; with_unfolding_all rfl) : EvE w n Γ ρ (.Call (.Attribute e name apos) [e₂] [] p) d ρ₂ := by
  constructor; intro nm scope L ad cd A h₀ s Q E I R hp h
  refine withToks hp (Call_method1 (hbase _ _) (hs _) hline (h1.run nm scope L ad cd A h₀ s _ E I R hp fun va h' tk hp' I' g r1 => ?_))
  refine hm.run w A _ va _ p _ E R.zero r1 (h2.run nm scope L ad cd A h₀ _ _ E I' R hp' fun vb h4 tk4 hp4 I4 g4 r4 => ⟨r4, r1.but I'.dict g4, fun u h3 tk3 g3 r3 hp3 => ?_⟩)
  exact h u h3 tk3 hp3 (I4.grow g3) ((g.trans g4).trans (g3.but L)) r3

theorem M_bitlen {i : Int} : Meth0 "bit_length" (.int i) (.int (intBits i)) := by
  constructor; intro w A s va pos Q E R ra h
  obtain ⟨t, rfl⟩ := ra.int
  refine ⟨"int", "int.bit_length", PySem.F.plainAttrs_int, slot_int_bit_length, type_int_bit_length, typeIs_int s i t, fun a e => (by cases e), ?_⟩
  exact callWith_method0 (env := default) (call_int_bit_length (h _ s.heap _ (Grow.refl _) rep_int))
theorem M_strip {x : Str} (hx : x.length ≤ sizeLine) : Meth0 "strip" (.str x) (.str (Txt.strip x)) := by
  constructor; intro w A s va pos Q E R ra h
  obtain ⟨t, rfl⟩ := ra.str
  exact SB.strip (fun t' k => h _ s.heap k (Grow.refl _) rep_str) hx
theorem M_lower {x : Str} (hx : Builtin.Str.tooLong (Txt.lower x).length = false) : Meth0 "lower" (.str x) (.str (Txt.lower x)) := by
  constructor; intro w A s va pos Q E R ra h
  obtain ⟨t, rfl⟩ := ra.str
  exact SB.lower hx (h _ s.heap _ (Grow.refl _) rep_str)
theorem M_rstrip {x y : Str} (hx : x.length ≤ sizeLine) : Meth1 "rstrip" (.str x) (.str y) (.str (Txt.rstripChars x y)) := by
  constructor; intro w A s va tree pos Q E R ra h
  obtain ⟨t, rfl⟩ := ra.str
  refine SB.rstripChars (wpAny_mono h (fun v s₁ q => ?_) fun _ _ x => x) hx
  obtain ⟨rb, _, k⟩ := q
  obtain ⟨u, rfl⟩ := rb.str
  exact ⟨y, u, rfl, fun t' tk => k _ s₁.heap tk (Grow.refl _) rep_str⟩
theorem M_find {x y : Str} : Meth1 "find" (.str x) (.str y) (.int (Txt.find x y)) := by
  constructor; intro w A s va tree pos Q E R ra h
  obtain ⟨t, rfl⟩ := ra.str
  refine SB.find (wpAny_mono h (fun v s₁ q => ?_) fun _ _ x => x)
  obtain ⟨rb, _, k⟩ := q
  obtain ⟨u, rfl⟩ := rb.str
  exact ⟨y, u, rfl, k _ s₁.heap _ (Grow.refl _) rep_int⟩
end
end Mine
end

-- PyG
section
namespace Mine
open PySem.Builtin.Int (intBits)
local macro_rules | `(tactic| walk_at "mem") => `(tactic| with_reducible (first | exact List.mem_cons_self | (refine List.mem_cons_of_mem _ ?_; walk_at "mem")))

/-- a global's value -/
structure Gl (w : World) (x : Str) (d : PV) : Prop where
  ex : ∃ v, nsIn (KK w) mainGlobals x = some (some v) ∧ ∀ h, (KK w).In h → Rep h v d

section
variable {w : World} {n : Nat} {Γ : List Str} {ρ ρ' ρ₁ ρ₂ ρ₃ : PEnv} {e e₂ l r t : Expr} {d a b c : PV} {p p' : Pos} {es : List Expr} {b₁ b₂ : Bool}
theorem E_gl {x : Str} (hx : x ∈ Γ) (g : Gl w x d) : EvE w n Γ ρ (.Name x p) d ρ := by
  constructor; intro nm scope L ad cd A h₀ s Q E I R hp h
  obtain ⟨v, hn, hr⟩ := g.ex
  obtain ⟨m, Fr, _⟩ := I.fr
  obtain ⟨pp, loose, mean, mg, mb, T⟩ := I.hok.T
  exact name_K Fr I.hok.K (topRead_of T) hn (h v s.heap s.toks hp I (Heap.ExtBut.refl _ _) (hr _ I.here.K)) I.kind (by exact (I.glo x hx).1) (I.glo x hx).2
theorem tup_K {K : Frag} {h : Heap} {a : Addr} {vs : List Value} {ds : List PV} {k : Nat} {dd : Option Addr} {sl : Array (Option Value)} (X : K.In h) (hl : K.lookup a = some ⟨.type "tuple", dd, .seq vs.toArray k, sl⟩) (r : RepAll h vs ds) : Rep h (.ref a) (.tuple ds) :=
  rep_tup ⟨_, X _ _ hl, rfl, k, rfl⟩ r
theorem repInts {h : Heap} : RepAll h [] [] := .nil

theorem E_dictstr {x key : Str} {a : Addr} {en : Array DictEntry} {nn : Nat} {v : Value} (hx : x ∈ Γ) (hn : nsIn (KK w) mainGlobals x = some (some (.ref a))) (hl : (KK w).lookup a = some ⟨.type "dict", none, .dict en nn, #[]⟩)
    (hk : KeysLit w.params en.toList) (he : nsIn (KK w) a key = some (some v)) (hr : ∀ h, (KK w).In h → Rep h v d) (h2 : EvE w n Γ ρ r (.str key) ρ₁)
    (hs : ∀ o i, subscripted r false o i = operate [o, i] (getItem o i) := by intros; with_unfolding_all rfl) : EvE w n Γ ρ (.Subscript (.Name x p) r p') d ρ₁ := by
  constructor; intro nm scope L ad cd A h₀ s Q E I R hp h
  obtain ⟨m, Fr, _⟩ := I.fr
  obtain ⟨pp, loose, mean, mg, mb, T⟩ := I.hok.T
  refine Subscript_ (name_K Fr I.hok.K (topRead_of T) hn ?_ I.kind (by exact (I.glo x hx).1) (I.glo x hx).2)
  refine h2.run nm scope L ad cd A h₀ s _ E I R hp fun vb h'' tk' hp'' I'' g' r2 => ?_
  obtain ⟨u, rfl⟩ := r2.str
  obtain ⟨m2, Fr2, _⟩ := I''.fr
  refine withToks hp'' (topItem_K Fr2 I''.hok.K hl hk he (fun hp3 => h v _ _ hp3 I'' g' (hr _ I''.here.K)) (hs _ _))

theorem C_indict {x key : Str} {a : Addr} {en : Array DictEntry} {nn : Nat} {b : Bool} (hx : x ∈ Γ) (hn : nsIn (KK w) mainGlobals x = some (some (.ref a))) (hl : (KK w).lookup a = some ⟨.type "dict", none, .dict en nn, #[]⟩)
    (hk : KeysLit w.params en.toList) {rr : Option Value} (he : nsIn (KK w) a key = some rr) (hb : rr.isSome = b) (lo : (a == sysModules) = false) (h2 : EvE w n Γ ρ l (.str key) ρ₁) : EvT w n Γ ρ (.Compare l [.In] [.Name x p] p') b ρ₁ := by
  constructor; intro nm scope L ad cd A h₀ s Q E I R hp h
  refine wpAny_isTrue_Compare1 (h2.run nm scope L ad cd A h₀ s _ E I R hp fun vb h'' tk' hp'' I'' g' r2 => ?_) rfl
  obtain ⟨u, rfl⟩ := r2.str
  obtain ⟨m2, Fr2, _⟩ := I''.fr
  obtain ⟨pp, loose, mean, mg, mb, T⟩ := I''.hok.T
  refine name_K Fr2 I''.hok.K (topRead_of T) hn ?_ I''.kind (by exact (I''.glo x hx).1) (I''.glo x hx).2
  refine withToks hp'' (topIn_K Fr2 I''.hok.K hl hk he lo (fun hp3 => ?_))
  exact wpAny_truthy_bool (hb ▸ h _ _ hp3 I'' g')
end

theorem gl_int {w : World} {x : Str} {i : Int} {t : Tok} (h : nsIn (KK w) mainGlobals x = some (some (.int i t))) : Gl w x (.int i) := ⟨_, h, fun _ _ => rep_int⟩
theorem gl_str {w : World} {x : Str} {i : Str} {t : Tok} (h : nsIn (KK w) mainGlobals x = some (some (.str i t))) : Gl w x (.str i) := ⟨_, h, fun _ _ => rep_str⟩
theorem gl_tup4 {w : World} {x : Str} {a : Addr} {i j k l : Int} {t u v z : Tok} {m : Nat} (h : nsIn (KK w) mainGlobals x = some (some (.ref a))) (hl : (KK w).lookup a = some ⟨.type "tuple", none, .seq #[.int i t, .int j u, .int k v, .int l z] m, #[]⟩) :
    Gl w x (.tuple [.int i, .int j, .int k, .int l]) := ⟨_, h, fun _ X => tup_K X hl (.cons rep_int (.cons rep_int (.cons rep_int (.cons rep_int .nil))))⟩
variable {w : World}
theorem gl_zero : Gl w "MPZ_ZERO" (.int 0) := gl_int (by rfl)
theorem gl_one : Gl w "MPZ_ONE" (.int 1) := gl_int (by rfl)
theorem gl_near : Gl w "round_nearest" (.str "n") := gl_str (by rfl)
theorem gl_floor : Gl w "round_floor" (.str "f") := gl_str (by rfl)
theorem gl_ceil : Gl w "round_ceiling" (.str "c") := gl_str (by rfl)
theorem gl_up : Gl w "round_up" (.str "u") := gl_str (by rfl)
theorem gl_down : Gl w "round_down" (.str "d") := gl_str (by rfl)
theorem gl_blog : Gl w "blog2_10" (.int 33219280948873626) := gl_int (by rfl)
theorem gl_digits : Gl w "stddigits" (.str "0123456789abcdefghijklmnopqrstuvwxyz") := gl_str (by rfl)
theorem gl_fzero : Gl w "fzero" (.tuple [.int 0, .int 0, .int 0, .int 0]) := gl_tup4 (a := 52) (by kernel_rfl) (by rfl)
theorem gl_fnan : Gl w "fnan" (.tuple [.int 0, .int 0, .int (-123), .int (-1)]) := gl_tup4 (a := 55) (by kernel_rfl) (by rfl)
theorem gl_finf : Gl w "finf" (.tuple [.int 0, .int 0, .int (-456), .int (-2)]) := gl_tup4 (a := 56) (by kernel_rfl) (by rfl)
theorem gl_fninf : Gl w "fninf" (.tuple [.int 1, .int 0, .int (-789), .int (-3)]) := gl_tup4 (a := 57) (by kernel_rfl) (by rfl)

def rS (c : Bool) : Str := if c then "c" else "f"
theorem E_shifts {n : Nat} {Γ : List Str} {ρ ρ₁ : PEnv} {r : Expr} {p p' : Pos} (c : Bool) (hx : Str.ofString "shifts_down" ∈ Γ) (h2 : EvE w n Γ ρ r (.str (rS c)) ρ₁)
    (hs : ∀ o i, subscripted r false o i = operate [o, i] (getItem o i) := by intros; with_unfolding_all rfl) : EvE w n Γ ρ (.Subscript (.Name (Str.ofString "shifts_down") p) r p') (.tuple [.int (if c then 0 else 1), .int (if c then 1 else 0)]) ρ₁ := by
  cases c with
  | true =>
    refine E_dictstr (a := 58) (v := .ref 60) hx (by kernel_rfl) (by rfl) ?_ (by kernel_rfl) (fun h X => tup_K (vs := [.int 0 297, .int 1 298]) X (by rfl) (.cons rep_int (.cons rep_int .nil))) h2 hs
    repeat (first | exact True.intro | refine And.intro ⟨_, _, rfl, rfl⟩ ?_)
  | false =>
    refine E_dictstr (a := 58) (v := .ref 59) hx (by kernel_rfl) (by rfl) ?_ (by kernel_rfl) (fun h X => tup_K (vs := [.int 1 295, .int 0 296]) X (by rfl) (.cons rep_int (.cons rep_int .nil))) h2 hs
    repeat (first | exact True.intro | refine And.intro ⟨_, _, rfl, rfl⟩ ?_)
end Mine
end

-- PyH
section
namespace Mine
open PySem.Builtin.Int (intBits)

section
variable {w : World} {n : Nat} {Γ : List Str} {ρ ρ' ρ₁ ρ₂ ρ₃ : PEnv} {e e₂ l r t : Expr} {d a b c : PV} {p p' p'' : Pos} {es : List Expr} {b₁ b₂ : Bool}
structure Bi (w : World) (x : Str) (v : Value) : Prop where
  hn : nsIn (KK w) mainGlobals x = some none
  hv : bootBuiltins x = some v
  hne : x ≠ "__name__"
theorem bi_int : Bi w "int" (.type "int") := ⟨by kernel_rfl, by kernel_rfl, by decide +kernel⟩
theorem bi_len : Bi w "len" (.builtin "len") := ⟨by kernel_rfl, by kernel_rfl, by decide +kernel⟩
theorem bi_abs : Bi w "abs" (.builtin "abs") := ⟨by kernel_rfl, by kernel_rfl, by decide +kernel⟩
theorem bi_max : Bi w "max" (.builtin "max") := ⟨by kernel_rfl, by kernel_rfl, by decide +kernel⟩
theorem bi_min : Bi w "min" (.builtin "min") := ⟨by kernel_rfl, by kernel_rfl, by decide +kernel⟩
theorem bi_divmod : Bi w "divmod" (.builtin "divmod") := ⟨by kernel_rfl, by kernel_rfl, by decide +kernel⟩
theorem bi_isinstance : Bi w "isinstance" (.builtin "isinstance") := ⟨by kernel_rfl, by kernel_rfl, by decide +kernel⟩
theorem bi_str : Bi w "str" (.type "str") := ⟨by kernel_rfl, by kernel_rfl, by decide +kernel⟩
theorem bi_pow : Bi w "pow" (.builtin "pow") := ⟨by kernel_rfl, by kernel_rfl, by decide +kernel⟩
theorem bi_range : Bi w "range" (.type "range") := ⟨by kernel_rfl, by kernel_rfl, by decide +kernel⟩

theorem E_bi {f : Str} {bv : Value} {ds : List PV} (B : Bi w f bv) (hf : f ∈ Γ) (hb : isBuiltinV bv = true)
    (h1 : EvL w n Γ ρ (e :: es) ds ρ₁) (F : CallV bv ds d)
    (hst : ∀ env, starEach (e :: es) env = (false, eval e env) :: starEach es env := by intros; with_unfolding_all rfl) (hpl : ∀ p env, (backTo p (starEach es env)).any (·.1) = false := by intros; with_unfolding_all rfl) :
    EvE w n Γ ρ (.Call (.Name f p) (e :: es) [] p') d ρ₁ := E_callb hf B.hn B.hv B.hne hb h1 F hst hpl

theorem E_isint {i : Int} (hf : Str.ofString "isinstance" ∈ Γ) (hi : Str.ofString "int" ∈ Γ) (h1 : EvE w n Γ ρ e (.int i) ρ₁)
    (hst : ∀ env, starEach [e, .Name (Str.ofString "int") p''] env = (false, eval e env) :: starEach [.Name (Str.ofString "int") p''] env := by intros; with_unfolding_all rfl) :
    EvE w n Γ ρ (.Call (.Name (Str.ofString "isinstance") p) [e, .Name (Str.ofString "int") p''] [] p') (.bool true) ρ₁ := by
  constructor; intro nm scope L ad cd A h₀ s Q E I R hp h
  obtain ⟨m, Fr, _⟩ := I.fr
  obtain ⟨pp, loose, mean, mg, mb, T⟩ := I.hok.T
  show wpAny _ _ (do callWith p' (← eval (.Name (Str.ofString "isinstance") p) (envOf nm scope L ad cd)) [] (backTo p' (starEach [e, .Name (Str.ofString "int") p''] (envOf nm scope L ad cd))) (backToKw p' (keywordEach [] (envOf nm scope L ad cd)))) Q E s
  refine wpAny_bind (name_B Fr I.hok.K (topRead_of T) (bi_isinstance (w := w)).hn (bi_isinstance (w := w)).hv (bi_isinstance (w := w)).hne ?_ I.kind (by exact (I.glo _ hf).1) (I.glo _ hf).2)
  refine withToks hp ?_
  refine callWith_method1 (first := []) ?_ (hst _) rfl
  refine wpAny_items_cons (h1.run nm scope L ad cd A h₀ s _ E I R hp fun va h' tk hp' I' g r1 => ?_) (hst _)
  obtain ⟨m2, Fr2, _⟩ := I'.fr
  refine wpAny_items_cons (name_B Fr2 I'.hok.K (topRead_of T) (bi_int (w := w)).hn (bi_int (w := w)).hv (bi_int (w := w)).hne ?_ I'.kind (by exact (I'.glo _ hi).1) (I'.glo _ hi).2) rfl
  refine wpAny_items_nil ?_
  obtain ⟨t, rfl⟩ := r1.int
  exact PySem.IsiPair.int_int (fun hp3 => h _ _ _ hp3 I' g rep_bool)

theorem E_orp {i : Int} (h1 : EvE w n Γ ρ e (.int i) ρ₁) (hi : i ≠ 0) : EvE w n Γ ρ (.BoolOp .Or [e, e₂] p) (.int i) ρ₁ := by
  refine E_boolop ?_
  constructor; intro nm scope L ad cd A h₀ s p Q E I R hp h
  show wpAny _ _ (do let v ← eval e (envOf nm scope L ad cd); standAt p; let t ← holding [v] (truthy v); match BoolOp.Or, t with | .And, false | .Or, true => pure v | _, _ => boolOp p .Or (evalEach [e₂] (envOf nm scope L ad cd))) _ _ _
  refine wpAny_bind (h1.run nm scope L ad cd A h₀ s _ E I R hp fun v h' tk hp' I' g r => ?_)
  refine wpAny_bind (wpAny_standAt (wpAny_bind (wpAny_holding (withToks hp' (R_int.run w A _ v _ E R.zero r fun h3 tk3 g3 => fun hp3 => ?_)))))
  have hb : (i != 0) = true := by simpa using hi
  rw [hb]
  exact wpAny_pure (h v _ _ hp3 (I'.grow g3) (g.trans (g3.but L)) (r.grow g3))
theorem E_and2 (h1 : EvE w n Γ ρ e a ρ₁) (ht : TruV a b₁) (h2 : b₁ = true → EvE w n Γ ρ₁ e₂ d ρ₁) (h3 : b₁ = false → d = a) : EvE w n Γ ρ (.BoolOp .And [e, e₂] p) d ρ₁ :=
  E_boolop (V_and h1 ht (fun h => V_one (h2 h)) h3)
end
end Mine
end

-- MaA
section
namespace Mine
open PySem.Builtin (bitAnd bitXor)
open PySem.Builtin.Int (intBits)

/-! ## bits -/
theorem bl_le {x : Int} {m : Nat} : intBits x ≤ m ↔ x.natAbs < 2 ^ m := intBits_le_iff
theorem bl_pos {x : Int} (h : x ≠ 0) : 1 ≤ intBits x := by
  rcases Nat.eq_zero_or_pos (intBits x) with h0 | h0
  · have : x.natAbs < 2 ^ 0 := bl_le.mp (by omega)
    omega
  · exact h0
theorem bl_lt (x : Int) : x.natAbs < 2 ^ intBits x := bl_le.mp (Nat.le_refl _)
theorem bl_ge {x : Int} (h : x ≠ 0) : 2 ^ (intBits x - 1) ≤ x.natAbs := by
  have h1 := bl_pos h
  apply Nat.le_of_not_lt
  intro hc
  have := (bl_le (x := x) (m := intBits x - 1)).mpr hc
  omega
theorem bl_of {x : Int} {k : Nat} (h1 : 2 ^ k ≤ x.natAbs) (h2 : x.natAbs < 2 ^ (k + 1)) : intBits x = k + 1 := by
  have a := bl_le.mpr h2
  have b : ¬ intBits x ≤ k := fun hc => by have := bl_le.mp hc; omega
  omega
theorem bl_abs (x : Int) : intBits (x.natAbs : Int) = intBits x := by
  unfold intBits
  simp only [Int.natAbs_natCast]
  by_cases h : x = 0
  · simp [h]
  · have : ¬ ((x.natAbs : Int) == 0) = true := by simp; omega
    have h' : ¬ (x == 0) = true := by simpa using h
    simp [h, this]
theorem bl_neg (x : Int) : intBits (-x) = intBits x := by rw [← bl_abs, Int.natAbs_neg, bl_abs]
theorem bl_zero : intBits 0 = 0 := rfl
theorem bl_one : intBits 1 = 1 := by decide

/-- the twos in a number -/
def tz (m : Nat) : Nat := if h : m = 0 then 0 else if m % 2 = 1 then 0 else tz (m / 2) + 1
termination_by m
decreasing_by omega
theorem tz_odd {m : Nat} (h : m % 2 = 1) : tz m = 0 := by
  unfold tz; rw [dif_neg (by omega), if_pos h]
theorem tz_even {k : Nat} (h : k ≠ 0) : tz (2 * k) = tz k + 1 := by
  conv => lhs; unfold tz
  rw [dif_neg (by omega), if_neg (by omega)]
  congr 2; omega
theorem tz_spec : ∀ (m : Nat), m ≠ 0 → ∃ o, o % 2 = 1 ∧ m = o * 2 ^ tz m := by
  intro m
  induction m using Nat.strongRecOn with
  | ind m ih =>
    intro h
    rcases Nat.mod_two_eq_zero_or_one m with h2 | h2
    · obtain ⟨k, rfl⟩ : ∃ k, m = 2 * k := ⟨m / 2, by omega⟩
      obtain ⟨o, ho, hk⟩ := ih k (by omega) (by omega)
      refine ⟨o, ho, ?_⟩
      rw [tz_even (by omega), Nat.pow_succ]
      have : 2 * k = 2 * (o * 2 ^ tz k) := by rw [← hk]
      rw [this]; simp [Nat.mul_comm, Nat.mul_left_comm]
    · exact ⟨m, h2, by rw [tz_odd h2]; simp⟩
theorem tz_of {o t : Nat} (ho : o % 2 = 1) : tz (o * 2 ^ t) = t := by
  induction t with
  | zero => simpa using tz_odd ho
  | succ t ih =>
    have e : o * 2 ^ (t + 1) = 2 * (o * 2 ^ t) := by rw [Nat.pow_succ]; simp [Nat.mul_comm, Nat.mul_left_comm]
    have h0 : o * 2 ^ t ≠ 0 := by
      have := Nat.two_pow_pos t
      intro hc
      rcases Nat.mul_eq_zero.mp hc with h | h <;> omega
    rw [e, tz_even h0, ih]

theorem land_pred : ∀ (m : Nat), m ≠ 0 → m - (m &&& (m - 1)) = 2 ^ tz m := by
  intro m
  induction m using Nat.strongRecOn with
  | ind m ih =>
    intro h
    rcases Nat.mod_two_eq_zero_or_one m with h2 | h2
    · obtain ⟨k, rfl⟩ : ∃ k, m = 2 * k := ⟨m / 2, by omega⟩
      have hk := ih k (by omega) (by omega)
      have e : (2 * k) &&& (2 * k - 1) = 2 * (k &&& (k - 1)) := by
        apply Nat.eq_of_testBit_eq
        intro i
        cases i with
        | zero => simp [Nat.testBit_and, Nat.testBit_zero]
        | succ i =>
          have e1 : (2 * k - 1) / 2 = k - 1 := by omega
          have e2 : 2 * k / 2 = k := by omega
          have e3 : 2 * (k &&& (k - 1)) / 2 = (k &&& (k - 1)) := by omega
          rw [Nat.testBit_and, Nat.testBit_succ, Nat.testBit_succ, Nat.testBit_succ, e1, e2, e3, Nat.testBit_and]
      rw [e, tz_even (by omega), Nat.pow_succ]
      omega
    · have e : m &&& (m - 1) = m - 1 := by
        obtain ⟨k, rfl⟩ : ∃ k, m = 2 * k + 1 := ⟨m / 2, by omega⟩
        apply Nat.eq_of_testBit_eq
        intro i
        cases i with
        | zero => simp [Nat.testBit_and, Nat.testBit_zero]
        | succ i =>
          have e1 : (2 * k + 1) / 2 = k := by omega
          have e2 : (2 * k + 1 - 1) / 2 = k := by omega
          rw [Nat.testBit_and, Nat.testBit_succ, Nat.testBit_succ, e1, e2, Bool.and_self]
      rw [e, tz_odd h2]; omega
theorem lowbit {m : Nat} (h : m ≠ 0) : (intBits (bitAnd (m : Int) (-(m : Int))) : Int) - 1 = tz m := by
  have e : bitAnd (m : Int) (-(m : Int)) = ((2 ^ tz m : Nat) : Int) := by
    unfold bitAnd
    have h1 : decide (0 ≤ (m : Int)) = true := by simp
    have h2 : decide (0 ≤ -(m : Int)) = false := by simp; omega
    rw [h1, h2]
    dsimp only
    have e3 : (PySem.Builtin.bitNot (-(m : Int))).toNat = m - 1 := by
      unfold PySem.Builtin.bitNot
      omega
    rw [e3, ← land_pred m h]
    have : (m : Int).toNat = m := by simp
    rw [this]
    have hle : m &&& (m - 1) ≤ m := Nat.and_le_left
    omega
  rw [e]
  have : intBits (((2 ^ tz m : Nat)) : Int) = tz m + 1 := bl_of (by simp) (by simp [Nat.pow_succ]; have := Nat.two_pow_pos (tz m); omega)
  rw [this]; omega

/-! ## numbers z * 2 ^ e -/
def sg (z : Int) : Int := if z < 0 then 1 else 0
abbrev pvM (z e : Int) : PV := .tuple [.int (sg z), .int z.natAbs, .int e, .int (intBits z)]
def nrmZ (z : Int) : Int := z / 2 ^ tz z.natAbs
def nrmE (z e : Int) : Int := if z = 0 then 0 else e + tz z.natAbs
/-- canonical: odd, or the zero -/
def Can (z e : Int) : Prop := (z = 0 ∧ e = 0) ∨ z % 2 = 1
theorem tz_zero : tz 0 = 0 := by unfold tz; simp
theorem nrmZ_zero : nrmZ 0 = 0 := by simp [nrmZ, tz_zero]
theorem nrm_spec {z : Int} (h : z ≠ 0) : z = nrmZ z * 2 ^ tz z.natAbs ∧ nrmZ z % 2 = 1 := by
  obtain ⟨o, ho, hz⟩ := tz_spec z.natAbs (by omega)
  have hp : (0 : Int) < 2 ^ tz z.natAbs := by exact Int.pow_pos (by decide)
  rcases Int.natAbs_eq z with e | e
  · have e2 : z = (o : Int) * 2 ^ tz z.natAbs := by rw [e]; conv => lhs; rw [hz]
                                                    simp
    have e3 : nrmZ z = o := by unfold nrmZ; conv => lhs; lhs; rw [e2]
                               exact Int.mul_ediv_cancel _ (by omega)
    exact ⟨by rw [e3]; exact e2, by rw [e3]; omega⟩
  · have e2 : z = (-(o : Int)) * 2 ^ tz z.natAbs := by rw [e]; conv => lhs; rw [hz]
                                                       simp [Int.neg_mul]
    have e3 : nrmZ z = -(o : Int) := by unfold nrmZ; conv => lhs; lhs; rw [e2]
                                        exact Int.mul_ediv_cancel _ (by omega)
    exact ⟨by rw [e3]; exact e2, by rw [e3]; omega⟩
theorem can_nrm (z e : Int) : Can (nrmZ z) (nrmE z e) := by
  by_cases h : z = 0
  · subst h; left; simp [nrmZ_zero, nrmE]
  · right; exact (nrm_spec h).2
end Mine
end

-- MaB
section
namespace Mine
open PySem.Builtin (bitAnd bitXor)
open PySem.Builtin.Int (intBits)

/-! ## rounding to p bits: c says ceiling -/
def rzN (p : Nat) (z : Int) : Nat := intBits z - p
def rzZ (p : Nat) (c : Bool) (z : Int) : Int := if c then -((-z).fdiv (2 ^ rzN p z)) else z.fdiv (2 ^ rzN p z)
def rzE (p : Nat) (z e : Int) : Int := e + rzN p z
abbrev pvN (z e : Int) : PV := pvM (nrmZ z) (nrmE z e)
def pvR (p : Nat) (c : Bool) (z e : Int) : PV := pvN (rzZ p c z) (rzE p z e)

theorem pow2_pos (n : Nat) : (0 : Int) < 2 ^ n := Int.pow_pos (by decide)
theorem fdiv_eq (a : Int) (n : Nat) : a.fdiv (2 ^ n) = a / 2 ^ n := Int.fdiv_eq_ediv_of_nonneg _ (Int.le_of_lt (pow2_pos n))
theorem rz_same {p : Nat} {c : Bool} {z : Int} (h : intBits z ≤ p) : rzZ p c z = z := by
  have : rzN p z = 0 := by unfold rzN; omega
  unfold rzZ
  rw [this]
  cases c <;> simp
theorem natAbs_ge {a : Int} {n : Nat} : (2 ^ n : Int) ≤ (a.natAbs : Int) ↔ 2 ^ n ≤ a.natAbs := by
  constructor
  · intro h; exact_mod_cast h
  · intro h; exact_mod_cast h
/-- the shifted size, downwards -/
theorem shr_bits {a : Int} {n p : Nat} (ha : 0 ≤ a) (hp : 1 ≤ p) (hb : intBits a = p + n) : 2 ^ (p - 1) ≤ (a / 2 ^ n).natAbs ∧ (a / 2 ^ n).natAbs < 2 ^ p := by
  have h0 : a ≠ 0 := by rintro rfl; simp [bl_zero] at hb; omega
  have h1 := bl_ge h0
  have h2 := bl_lt a
  rw [hb] at h1 h2
  have e1 : p + n - 1 = (p - 1) + n := by omega
  rw [e1, Nat.pow_add] at h1
  rw [Nat.pow_add] at h2
  obtain ⟨m, rfl⟩ := Int.eq_ofNat_of_zero_le ha
  have e : ((m : Int) / 2 ^ n).natAbs = m / 2 ^ n := by
    have : ((m : Int) / 2 ^ n) = ((m / 2 ^ n : Nat) : Int) := by simp
    rw [this]; rfl
  rw [e]
  simp only [Int.natAbs_natCast] at h1 h2
  exact ⟨(Nat.le_div_iff_mul_le (Nat.two_pow_pos n)).mpr h1, (Nat.div_lt_iff_lt_mul (Nat.two_pow_pos n)).mpr h2⟩
/-- .. upwards -/
theorem shrup_bits {a : Int} {n p : Nat} (ha : 0 ≤ a) (hp : 1 ≤ p) (hb : intBits a = p + n) : 2 ^ (p - 1) ≤ -((-a) / 2 ^ n) ∧ -((-a) / 2 ^ n) ≤ 2 ^ p := by
  have h0 : a ≠ 0 := by rintro rfl; simp [bl_zero] at hb; omega
  have h1 := bl_ge h0
  have h2 := bl_lt a
  rw [hb] at h1 h2
  have e1 : p + n - 1 = (p - 1) + n := by omega
  rw [e1, Nat.pow_add] at h1
  rw [Nat.pow_add] at h2
  have h3 : (2 ^ (p - 1) * 2 ^ n : Int) ≤ a := by
    have : ((2 ^ (p - 1) * 2 ^ n : Nat) : Int) ≤ (a.natAbs : Int) := by exact_mod_cast h1
    simp at this; omega
  have h4 : a < (2 ^ p * 2 ^ n : Int) := by
    have : (a.natAbs : Int) < ((2 ^ p * 2 ^ n : Nat) : Int) := by exact_mod_cast h2
    simp at this; omega
  have hn := pow2_pos n
  have k1 : (-a) / 2 ^ n ≤ -(2 ^ (p - 1)) := by
    have : (-a) / 2 ^ n ≤ (-(2 ^ (p - 1)) * 2 ^ n) / 2 ^ n := Int.ediv_le_ediv hn (by rw [Int.neg_mul]; omega)
    rwa [Int.mul_ediv_cancel _ (by omega)] at this
  have k2 : -(2 ^ p) ≤ (-a) / 2 ^ n := by
    have : (-(2 ^ p) * 2 ^ n) / 2 ^ n ≤ (-a) / 2 ^ n := Int.ediv_le_ediv hn (by rw [Int.neg_mul]; omega)
    rwa [Int.mul_ediv_cancel _ (by omega)] at this
  omega
theorem rz_down {p : Nat} {c : Bool} {z : Int} (h : c = decide (z < 0)) : rzZ p c z = if z < 0 then -((z.natAbs : Int) / 2 ^ rzN p z) else (z.natAbs : Int) / 2 ^ rzN p z := by
  unfold rzZ
  subst h
  by_cases hz : z < 0
  · simp only [hz, decide_true, if_true, fdiv_eq]; rw [show ((z.natAbs : Nat) : Int) = -z by omega]
  · simp only [hz, decide_false, if_false, fdiv_eq]; rw [show ((z.natAbs : Nat) : Int) = z by omega]; rfl
theorem rz_up {p : Nat} {c : Bool} {z : Int} (h : c = !decide (z < 0)) : rzZ p c z = if z < 0 then -(-((-(z.natAbs : Int)) / 2 ^ rzN p z)) else -((-(z.natAbs : Int)) / 2 ^ rzN p z) := by
  unfold rzZ
  subst h
  by_cases hz : z < 0
  · simp only [hz, decide_true, if_true, fdiv_eq, Bool.not_true]; rw [show -((z.natAbs : Nat) : Int) = z by omega]; simp
  · simp only [hz, decide_false, if_false, fdiv_eq, Bool.not_false]; rw [show -((z.natAbs : Nat) : Int) = -z by omega]; rfl
/-- what rounding makes of sign and size -/
theorem rz_facts {p : Nat} (hp : 1 ≤ p) (c : Bool) {z : Int} (hz : z ≠ 0) : rzZ p c z ≠ 0 ∧ sg (rzZ p c z) = sg z ∧ (intBits (rzZ p c z) = min (intBits z) p ∨ (rzZ p c z).natAbs = 2 ^ p) := by
  by_cases hb : intBits z ≤ p
  · rw [rz_same hb]; exact ⟨hz, rfl, .inl (by omega)⟩
  have hn : intBits ((z.natAbs : Nat) : Int) = p + rzN p z := by rw [bl_abs]; unfold rzN; omega
  have hp2 : 0 < 2 ^ (p - 1) := Nat.two_pow_pos _
  have hp3 : (2 : Int) ^ (p - 1) = ((2 ^ (p - 1) : Nat) : Int) := by simp
  have hp4 : (2 : Int) ^ p = ((2 ^ p : Nat) : Int) := by simp
  by_cases hd : c = decide (z < 0)
  · have e := rz_down (p := p) hd
    have k := shr_bits (a := (z.natAbs : Int)) (by omega) hp hn
    have hk : 0 ≤ (z.natAbs : Int) / 2 ^ rzN p z := Int.ediv_nonneg (by omega) (Int.le_of_lt (pow2_pos _))
    have hab : (rzZ p c z).natAbs = ((z.natAbs : Int) / 2 ^ rzN p z).natAbs := by rw [e]; split <;> simp
    refine ⟨?_, ?_, .inl ?_⟩
    · intro h; rw [h] at hab; simp at hab; omega
    · unfold sg; rw [e]; by_cases h0 : z < 0 <;> simp only [h0, if_true, if_false] <;> split <;> omega
    · rw [← bl_abs, hab, bl_abs, show min (intBits z) p = (p - 1) + 1 by omega]
      exact bl_of k.1 (by rw [show p - 1 + 1 = p by omega]; exact k.2)
  · have hd' : c = !decide (z < 0) := by cases c <;> cases h : decide (z < 0) <;> simp_all
    have e := rz_up (p := p) hd'
    have k := shrup_bits (a := (z.natAbs : Int)) (by omega) hp hn
    have hab : ((rzZ p c z).natAbs : Int) = -((-(z.natAbs : Int)) / 2 ^ rzN p z) := by rw [e]; split <;> omega
    refine ⟨?_, ?_, ?_⟩
    · intro h; rw [h] at hab; simp at hab; omega
    · unfold sg; rw [e]; by_cases h0 : z < 0 <;> simp only [h0, if_true, if_false] <;> split <;> omega
    · by_cases hm : (rzZ p c z).natAbs = 2 ^ p
      · exact .inr hm
      · refine .inl ?_
        rw [show min (intBits z) p = (p - 1) + 1 by omega]
        refine bl_of (by omega) ?_
        rw [show p - 1 + 1 = p by omega]; omega
theorem nrm_abs {z : Int} (h : z ≠ 0) : (nrmZ z).natAbs * 2 ^ tz z.natAbs = z.natAbs := by
  have := (nrm_spec h).1
  have h2 := congrArg Int.natAbs this
  rw [Int.natAbs_mul, Int.natAbs_pow] at h2
  exact h2.symm
theorem nrm_ne {z : Int} (h : z ≠ 0) : nrmZ z ≠ 0 := by have := (nrm_spec h).2; omega
theorem nrm_sg (z : Int) : sg (nrmZ z) = sg z := by
  by_cases h : z = 0
  · rw [h, nrmZ_zero]
  have h1 := (nrm_spec h).1
  have hp := pow2_pos (tz z.natAbs)
  unfold sg
  by_cases hz : z < 0
  · rw [if_pos hz]
    by_cases hn : nrmZ z < 0
    · rw [if_pos hn]
    · have := Int.mul_nonneg (Int.not_lt.mp hn) (Int.le_of_lt hp); omega
  · rw [if_neg hz]
    by_cases hn : nrmZ z < 0
    · have := Int.mul_neg_of_neg_of_pos hn hp; omega
    · rw [if_neg hn]
theorem nrm_bl {z : Int} (h : z ≠ 0) : intBits (nrmZ z) + tz z.natAbs = intBits z := by
  have h1 := nrm_abs h
  have hn := nrm_ne h
  have a := bl_ge hn
  have b := bl_lt (nrmZ z)
  have c := bl_pos hn
  have hp := Nat.two_pow_pos (tz z.natAbs)
  generalize tz z.natAbs = t at h1 hp ⊢
  have k : intBits z = (intBits (nrmZ z) - 1 + t) + 1 := by
    refine bl_of ?_ ?_
    · rw [← h1, Nat.pow_add]; exact Nat.mul_le_mul_right _ a
    · rw [← h1, show intBits (nrmZ z) - 1 + t + 1 = intBits (nrmZ z) + t by omega, Nat.pow_add]; exact Nat.mul_lt_mul_of_pos_right b hp
  omega
theorem tz_pow (p : Nat) : tz (2 ^ p) = p := by simpa using tz_of (o := 1) (t := p) rfl
theorem nrm_pow {z : Int} {p : Nat} (h : z.natAbs = 2 ^ p) : (nrmZ z).natAbs = 1 := by
  have hz : z ≠ 0 := by rintro rfl; have := Nat.two_pow_pos p; simp at h; omega
  have := nrm_abs hz
  rw [h, tz_pow] at this
  have hp := Nat.two_pow_pos p
  have : (nrmZ z).natAbs * 2 ^ p = 1 * 2 ^ p := by omega
  exact Nat.eq_of_mul_eq_mul_right hp this
theorem bit0 {m : Nat} : bitAnd (m : Int) 1 = ((m % 2 : Nat) : Int) := by
  unfold bitAnd
  have h1 : decide (0 ≤ (m : Int)) = true := by simp
  have h2 : decide (0 ≤ (1 : Int)) = true := rfl
  rw [h1, h2]
  dsimp only
  rw [show (m : Int).toNat = m by simp, show (1 : Int).toNat = 1 by rfl, Nat.and_one_is_mod]
end Mine
end

-- MaC
section
namespace Mine
open PySem.Builtin.Int (intBits)

/-! ## values -/
def val (z e : Int) : Rat := (z : Rat) * (2 : Rat) ^ e
theorem two_ne : (2 : Rat) ≠ 0 := by decide
theorem p2_pos (e : Int) : (0 : Rat) < (2 : Rat) ^ e := Rat.zpow_pos (by decide)
theorem p2_add (a b : Int) : (2 : Rat) ^ (a + b) = (2 : Rat) ^ a * (2 : Rat) ^ b := Rat.zpow_add two_ne a b
theorem p2_nat (n : Nat) : (2 : Rat) ^ (n : Int) = (((2 : Int) ^ n : Int) : Rat) := by rw [Rat.zpow_natCast, Rat.intCast_pow]; rfl
theorem p2_le {a b : Int} (h : a ≤ b) : (2 : Rat) ^ a ≤ (2 : Rat) ^ b := by
  obtain ⟨n, rfl⟩ : ∃ n : Nat, b = a + n := ⟨(b - a).toNat, by omega⟩
  rw [p2_add, p2_nat]
  have h1 : (1 : Rat) ≤ (((2 : Int) ^ n : Int) : Rat) := by
    have : (1 : Int) ≤ 2 ^ n := pow2_pos n
    exact_mod_cast Rat.intCast_le_intCast.mpr this
  have := Rat.mul_le_mul_of_nonneg_left h1 (Rat.le_of_lt (p2_pos a))
  simpa using this
theorem p2_lt {a b : Int} (h : a < b) : (2 : Rat) ^ a < (2 : Rat) ^ b := by
  have h1 := p2_le (show a + 1 ≤ b by omega)
  rw [p2_add, Rat.zpow_one] at h1
  have := p2_pos a
  grind
theorem p2_lt_iff {a b : Int} : (2 : Rat) ^ a < (2 : Rat) ^ b ↔ a < b := by
  refine ⟨fun h => ?_, p2_lt⟩
  apply Int.not_le.mp
  intro hc
  have := p2_le hc
  grind
theorem val_shift (z e : Int) (n : Nat) : val (z * 2 ^ n) e = val z (e + n) := by
  unfold val
  rw [p2_add, p2_nat, Rat.intCast_mul]
  grind
theorem val_zero (e : Int) : val 0 e = 0 := by unfold val; simp
theorem val_neg (z e : Int) : val (-z) e = -val z e := by unfold val; rw [Rat.intCast_neg]; grind
theorem val_lt {y z e : Int} : val y e < val z e ↔ y < z := by
  unfold val
  have := p2_pos e
  constructor
  · intro h
    have := Rat.lt_of_mul_lt_mul_right h (Rat.le_of_lt this)
    exact_mod_cast this
  · intro h
    exact Rat.mul_lt_mul_of_pos_right (by exact_mod_cast h) this
theorem val_le {y z e : Int} : val y e ≤ val z e ↔ y ≤ z := by
  rw [← Rat.not_lt, val_lt]; exact Int.not_lt
theorem val_inj {y z e : Int} (h : val y e = val z e) : y = z := by
  have a := (val_le (y := y) (z := z) (e := e)).mp (by rw [h]; exact Rat.le_refl)
  have b := (val_le (y := z) (z := y) (e := e)).mp (by rw [h]; exact Rat.le_refl)
  omega
/-- a common exponent -/
theorem val_at (z e : Int) {g : Int} (h : g ≤ e) : val z e = val (z * 2 ^ (e - g).toNat) g := by
  rw [val_shift]; congr 1; omega
theorem val_nrm (z e : Int) : val (nrmZ z) (nrmE z e) = val z e := by
  by_cases h : z = 0
  · subst h; rw [nrmZ_zero, val_zero, val_zero]
  · have h1 := (nrm_spec h).1
    unfold nrmE
    rw [if_neg h, ← val_shift, ← h1]
/-- the canonical pair is the value's own -/
theorem can_inj {y e z f : Int} (hy : Can y e) (hz : Can z f) (h : val y e = val z f) : y = z ∧ e = f := by
  have zero : ∀ {y e : Int}, val y e = 0 → y = 0 := fun {y e} h => by
    have : val y e = val 0 e := by rw [h, val_zero]
    exact val_inj this
  rcases hy with ⟨rfl, rfl⟩ | hy
  · rw [val_zero] at h
    have := zero h.symm
    rcases hz with ⟨rfl, rfl⟩ | hz
    · exact ⟨rfl, rfl⟩
    · omega
  · rcases hz with ⟨rfl, rfl⟩ | hz
    · rw [val_zero] at h; have := zero h; omega
    · have key : ∀ {y e z f : Int}, y % 2 = 1 → z % 2 = 1 → val y e = val z f → e ≤ f → e = f := fun {y e z f} hy hz h hle => by
        rw [val_at z f hle] at h
        have h2 := val_inj h
        by_cases hq : (f - e).toNat = 0
        · omega
        · obtain ⟨k, hk⟩ : ∃ k, (f - e).toNat = k + 1 := ⟨(f - e).toNat - 1, by omega⟩
          rw [hk, Int.pow_succ, ← Int.mul_assoc] at h2
          omega
      have e1 : e = f := by
        rcases Int.le_total e f with hle | hle
        · exact key hy hz h hle
        · exact (key hz hy h.symm hle).symm
      subst e1
      exact ⟨val_inj h, rfl⟩

/-! ## rounding -/
def Fl (p : Nat) (x : Rat) : Prop := ∃ z e : Int, z.natAbs ≤ 2 ^ p ∧ x = val z e
def IsR (p : Nat) (c : Bool) (x t : Rat) : Prop := Fl p t ∧ (match c with
  | false => t ≤ x ∧ ∀ u, Fl p u → u ≤ x → u ≤ t
  | true => x ≤ t ∧ ∀ u, Fl p u → x ≤ u → t ≤ u)
theorem IsR.unique {p : Nat} {c : Bool} {x t t' : Rat} (h : IsR p c x t) (h' : IsR p c x t') : t = t' := by
  obtain ⟨f, h⟩ := h; obtain ⟨f', h'⟩ := h'
  cases c with
  | false => exact Rat.le_antisymm (h'.2 _ f h.1) (h.2 _ f' h'.1)
  | true => exact Rat.le_antisymm (h.2 _ f' h'.1) (h'.2 _ f h.1)
theorem Fl.neg {p : Nat} {x : Rat} (h : Fl p x) : Fl p (-x) := by
  obtain ⟨z, e, a, rfl⟩ := h
  exact ⟨-z, e, by simpa using a, (val_neg z e).symm⟩
theorem IsR.neg {p : Nat} {c : Bool} {x t : Rat} (h : IsR p c x t) : IsR p (!c) (-x) (-t) := by
  obtain ⟨f, h⟩ := h
  refine ⟨f.neg, ?_⟩
  cases c with
  | false =>
    refine ⟨Rat.neg_le_neg h.1, fun u hu hx => ?_⟩
    have := h.2 _ hu.neg (by have := Rat.neg_le_neg hx; rwa [Rat.neg_neg] at this)
    have := Rat.neg_le_neg this
    rwa [Rat.neg_neg] at this
  | true =>
    refine ⟨Rat.neg_le_neg h.1, fun u hu hx => ?_⟩
    have := h.2 _ hu.neg (by have := Rat.neg_le_neg hx; rwa [Rat.neg_neg] at this)
    have := Rat.neg_le_neg this
    rwa [Rat.neg_neg] at this
theorem Fl.mono {p q : Nat} (h : p ≤ q) {x : Rat} (f : Fl p x) : Fl q x := by
  obtain ⟨z, e, a, rfl⟩ := f
  exact ⟨z, e, Nat.le_trans a (Nat.pow_le_pow_right (by decide) h), rfl⟩
/-- rounding twice the same way -/
theorem IsR.twice {p q : Nat} {c : Bool} {x y t : Rat} (hpq : p ≤ q) (h : IsR q c x y) (h2 : IsR p c y t) : IsR p c x t := by
  obtain ⟨f, h⟩ := h; obtain ⟨f', h2⟩ := h2
  refine ⟨f', ?_⟩
  cases c with
  | false => exact ⟨Rat.le_trans h2.1 h.1, fun u hu hx => h2.2 u hu (h.2 u (hu.mono hpq) hx)⟩
  | true => exact ⟨Rat.le_trans h.1 h2.1, fun u hu hx => h2.2 u hu (h.2 u (hu.mono hpq) hx)⟩
theorem IsR.mono {p : Nat} {c : Bool} {x y t s : Rat} (h : x ≤ y) (h1 : IsR p c x t) (h2 : IsR p c y s) : t ≤ s := by
  obtain ⟨f, h1⟩ := h1; obtain ⟨f', h2⟩ := h2
  cases c with
  | false => exact h2.2 t f (Rat.le_trans h1.1 h)
  | true => exact h1.2 s f' (Rat.le_trans h h2.1)
theorem val_pos {z e : Int} : 0 < val z e ↔ 0 < z := by rw [← val_zero e, val_lt]
theorem val_nonneg {z e : Int} : 0 ≤ val z e ↔ 0 ≤ z := by rw [← val_zero e, val_le]

/-- a number of p bits that is not small is a whole multiple of the step -/
theorem grid {p : Nat} {y f g : Int} (hp : 1 ≤ p) (hy : y.natAbs ≤ 2 ^ p) (hb : (2 : Rat) ^ ((p : Int) - 1 + g) ≤ val y.natAbs f) : ∃ k : Int, val y f = val k g := by
  have h1 : val y.natAbs f ≤ (2 : Rat) ^ ((p : Int) + f) := by
    rw [p2_add, p2_nat]
    have : val (y.natAbs : Int) f ≤ val (2 ^ p) f := val_le.mpr (by exact_mod_cast hy)
    exact this
  by_cases hf : g ≤ f
  · exact ⟨_, val_at y f hf⟩
  have hf1 : f = g - 1 := by
    by_cases h2 : g - 1 ≤ f
    · omega
    · have h3 : (2 : Rat) ^ ((p : Int) + f) < (2 : Rat) ^ ((p : Int) - 1 + g) := p2_lt (by omega)
      grind
  subst hf1
  have h4 : (y.natAbs : Int) = 2 ^ p := by
    have : val (2 ^ p) (g - 1) ≤ val y.natAbs (g - 1) := by
      unfold val at hb ⊢
      rw [show (p : Int) - 1 + g = p + (g - 1) by omega, p2_add, p2_nat] at hb
      exact hb
    have := val_le.mp this
    have h5 : (y.natAbs : Int) ≤ 2 ^ p := by exact_mod_cast hy
    omega
  obtain ⟨q, rfl⟩ : ∃ q, p = q + 1 := ⟨p - 1, by omega⟩
  rw [Int.pow_succ] at h4
  rcases Int.natAbs_eq y with e | e
  · refine ⟨2 ^ q, ?_⟩
    have : y = 2 ^ q * 2 ^ 1 := by omega
    rw [this, val_shift]; congr 1; omega
  · refine ⟨-(2 ^ q), ?_⟩
    have : y = -(2 ^ q) * 2 ^ 1 := by omega
    rw [this, val_shift]; congr 1; omega

theorem isR_floor {p : Nat} (hp : 1 ≤ p) (z e : Int) : IsR p false (val z e) (val (rzZ p false z) (rzE p z e)) := by
  by_cases hz : z = 0
  · subst hz
    rw [rz_same (by simp [bl_zero])]
    rw [val_zero, val_zero]
    exact ⟨⟨0, 0, by simp, (val_zero 0).symm⟩, Rat.le_refl, fun u _ h => h⟩
  by_cases hb : intBits z ≤ p
  · have h0 : rzE p z e = e := by unfold rzE rzN; rw [show intBits z - p = 0 by omega]; simp
    rw [rz_same hb, h0]
    exact ⟨⟨z, e, Nat.le_of_lt (bl_le.mp hb), rfl⟩, Rat.le_refl, fun u _ h => h⟩
  have hn : intBits z = p + rzN p z := by unfold rzN; omega
  have hfd : rzZ p false z = z / 2 ^ rzN p z := by unfold rzZ; simp only [Bool.false_eq_true, if_false]; exact fdiv_eq _ _
  have hpos := pow2_pos (rzN p z)
  have hle : rzZ p false z * 2 ^ rzN p z ≤ z := by rw [hfd]; exact Int.ediv_mul_le _ (by omega)
  have hv : val (rzZ p false z) (rzE p z e) = val (rzZ p false z * 2 ^ rzN p z) e := by rw [val_shift]; rfl
  obtain ⟨f1, f2, f3⟩ := rz_facts hp false hz
  refine ⟨⟨rzZ p false z, rzE p z e, ?_, rfl⟩, by rw [hv]; exact val_le.mpr hle, fun u hu hx => ?_⟩
  · rcases f3 with f3 | f3
    · exact Nat.le_of_lt (bl_le.mp (by omega))
    · omega
  obtain ⟨y, f, hy, rfl⟩ := hu
  have hbig : 2 ^ (p - 1) * 2 ^ rzN p z ≤ z.natAbs := by
    have := bl_ge hz
    rw [hn, show p + rzN p z - 1 = (p - 1) + rzN p z by omega, Nat.pow_add] at this
    exact this
  have hbigR : (2 : Rat) ^ ((p : Int) - 1 + rzE p z e) ≤ val z.natAbs e := by
    have e1 : (2 : Rat) ^ ((p : Int) - 1 + rzE p z e) = val (2 ^ (p - 1) * 2 ^ rzN p z) e := by
      rw [val_shift]
      unfold val rzE
      rw [← p2_nat, ← p2_add]
      congr 1; omega
    rw [e1]
    exact val_le.mpr (by exact_mod_cast hbig)
  by_cases hs : (2 : Rat) ^ ((p : Int) - 1 + rzE p z e) ≤ val y.natAbs f
  · obtain ⟨k, hk⟩ := grid hp hy hs
    rw [hk] at hx ⊢
    refine val_le.mpr ?_
    have h3 : val (k * 2 ^ rzN p z) e ≤ val z e := by rw [val_shift]; exact hx
    have h4 := val_le.mp h3
    rw [hfd]
    exact (Int.le_ediv_iff_mul_le hpos).mpr h4
  · have hs' : val y.natAbs f < (2 : Rat) ^ ((p : Int) - 1 + rzE p z e) := Rat.not_le.mp hs
    have hyle : val y f ≤ val y.natAbs f := val_le.mpr (by omega)
    by_cases h0 : 0 < z
    · have h5 : 2 ^ (p - 1) ≤ (z / 2 ^ rzN p z).natAbs := by
        have := (shr_bits (a := z) (n := rzN p z) (by omega) hp hn).1
        exact this
      have h6 : 0 ≤ z / 2 ^ rzN p z := Int.ediv_nonneg (by omega) (by omega)
      have h7 : (2 : Rat) ^ ((p : Int) - 1 + rzE p z e) ≤ val (rzZ p false z) (rzE p z e) := by
        have e1 : (2 : Rat) ^ ((p : Int) - 1 + rzE p z e) = val (2 ^ (p - 1)) (rzE p z e) := by
          unfold val
          rw [← p2_nat, ← p2_add]
          congr 1; omega
        rw [e1, hfd]
        refine val_le.mpr ?_
        have : ((2 ^ (p - 1) : Nat) : Int) ≤ ((z / 2 ^ rzN p z).natAbs : Int) := by exact_mod_cast h5
        simp at this; omega
      grind
    · have hz1 : (z.natAbs : Int) = -z := by omega
      rw [hz1, val_neg] at hbigR
      have hxn : val (-y) f ≤ val y.natAbs f := val_le.mpr (by omega)
      rw [val_neg] at hxn
      grind
theorem isR_rz {p : Nat} (hp : 1 ≤ p) (c : Bool) (z e : Int) : IsR p c (val z e) (val (rzZ p c z) (rzE p z e)) := by
  cases c with
  | false => exact isR_floor hp z e
  | true =>
    have h := (isR_floor hp (-z) e).neg
    have e1 : rzZ p true z = -rzZ p false (-z) := by unfold rzZ rzN; simp [bl_neg]
    have e2 : rzE p (-z) e = rzE p z e := by unfold rzE rzN; rw [bl_neg]
    rw [e1, val_neg]
    rw [e2, val_neg, Rat.neg_neg] at h
    exact h

/-- the tuple of the rounded value -/
noncomputable def pvX (p : Nat) (c : Bool) (x : Rat) : PV := open Classical in
  if h : ∃ ze : Int × Int, Can ze.1 ze.2 ∧ IsR p c x (val ze.1 ze.2) then pvM h.choose.1 h.choose.2 else .none
theorem pvX_eq {p : Nat} {c : Bool} {x : Rat} {z e : Int} (hc : Can z e) (h : IsR p c x (val z e)) : pvX p c x = pvM z e := by
  have hex : ∃ ze : Int × Int, Can ze.1 ze.2 ∧ IsR p c x (val ze.1 ze.2) := ⟨(z, e), hc, h⟩
  unfold pvX
  rw [dif_pos hex]
  have k := hex.choose_spec
  obtain ⟨a, b⟩ := can_inj hc k.1 (h.unique k.2)
  rw [← a, ← b]
theorem pvR_eq {p : Nat} (hp : 1 ≤ p) (c : Bool) (z e : Int) : pvR p c z e = pvX p c (val z e) := by
  refine (pvX_eq (can_nrm _ _) ?_).symm
  rw [val_nrm]
  exact isR_rz hp c z e
end Mine
end

-- MaD
section
namespace Mine
open PySem.Builtin.Int (intBits)

/-- no number of p bits tells x from y -/
def Same (p : Nat) (x y : Rat) : Prop := ∀ u, Fl p u → (u ≤ x ↔ u ≤ y) ∧ (x ≤ u ↔ y ≤ u)
theorem Same.isR {p : Nat} {c : Bool} {x y t : Rat} (h : Same p x y) (r : IsR p c x t) : IsR p c y t := by
  obtain ⟨f, r⟩ := r
  refine ⟨f, ?_⟩
  cases c with
  | false => exact ⟨(h t f).1.mp r.1, fun u hu hy => r.2 u hu ((h u hu).1.mpr hy)⟩
  | true => exact ⟨(h t f).2.mp r.1, fun u hu hy => r.2 u hu ((h u hu).2.mpr hy)⟩
theorem Same.symm {p : Nat} {x y : Rat} (h : Same p x y) : Same p y x := fun u hu => ⟨(h u hu).1.symm, (h u hu).2.symm⟩
theorem Same.neg {p : Nat} {x y : Rat} (h : Same p x y) : Same p (-x) (-y) := fun u hu => by
  have k := h (-u) hu.neg
  have e1 : ∀ a b : Rat, a ≤ -b ↔ b ≤ -a := fun a b => ⟨fun h => by grind, fun h => by grind⟩
  have e2 : ∀ a b : Rat, -a ≤ b ↔ -b ≤ a := fun a b => ⟨fun h => by grind, fun h => by grind⟩
  exact ⟨by rw [e1 u x, e1 u y]; exact k.2, by rw [e2 x u, e2 y u]; exact k.1⟩
theorem pvX_same {p : Nat} {c : Bool} {x y : Rat} (h : Same p x y) (he : ∃ z e, Can z e ∧ IsR p c x (val z e)) : pvX p c y = pvX p c x := by
  obtain ⟨z, e, hc, r⟩ := he
  rw [pvX_eq hc r, pvX_eq hc (h.isR r)]
theorem pvR_same {p : Nat} (hp : 1 ≤ p) {c : Bool} {z e : Int} {y : Rat} (h : Same p (val z e) y) : pvR p c z e = pvX p c y := by
  rw [pvX_same h ⟨_, _, can_nrm _ _, by rw [val_nrm]; exact isR_rz hp c z e⟩, pvR_eq hp]

theorem val_abs_le (z e : Int) : val z e ≤ val z.natAbs e ∧ -val z e ≤ val z.natAbs e := by
  refine ⟨val_le.mpr (by omega), ?_⟩
  rw [← val_neg]; exact val_le.mpr (by omega)
theorem val_abs_lt {z e : Int} {k : Nat} (h : intBits z ≤ k) : val z.natAbs e < (2 : Rat) ^ ((k : Int) + e) := by
  have h1 := bl_le.mp h
  rw [p2_add, p2_nat]
  have : val (z.natAbs : Int) e < val (2 ^ k) e := val_lt.mpr (by exact_mod_cast h1)
  exact this
theorem val_abs_ge {z e : Int} (h : z ≠ 0) : (2 : Rat) ^ ((intBits z : Int) - 1 + e) ≤ val z.natAbs e := by
  have h1 := bl_ge h
  have h2 := bl_pos h
  rw [p2_add, show (intBits z : Int) - 1 = ((intBits z - 1 : Nat) : Int) by omega, p2_nat]
  have : val (2 ^ (intBits z - 1)) e ≤ val (z.natAbs : Int) e := val_le.mpr (by exact_mod_cast h1)
  exact this
theorem val_one (g : Int) : val 1 g = (2 : Rat) ^ g := by unfold val; simp
/-- numbers of p bits lie apart -/
theorem apart {p : Nat} (hp : 1 ≤ p) {z e : Int} (hz : z ≠ 0) (hb : intBits z ≤ p) {u : Rat} (hu : Fl p u) {g : Int} (hg : g = (intBits z : Int) + e - p - 1) :
    u = val z e ∨ u + (2 : Rat) ^ g ≤ val z e ∨ val z e + (2 : Rat) ^ g ≤ u := by
  obtain ⟨y, f, hy, rfl⟩ := hu
  by_cases hs : (2 : Rat) ^ ((p : Int) - 1 + g) ≤ val y.natAbs f
  · obtain ⟨k, hk⟩ := grid hp hy hs
    have hz2 : val z e = val (z * 2 ^ (e - g).toNat) g := val_at z e (by omega)
    rw [hk, hz2, ← val_one]
    have add : ∀ a b : Int, val a g + val b g = val (a + b) g := fun a b => by unfold val; rw [Rat.intCast_add]; grind
    rw [add, add]
    rcases Int.lt_trichotomy k (z * 2 ^ (e - g).toNat) with h | h | h
    · exact .inr (.inl (val_le.mpr (by omega)))
    · exact .inl (by rw [h])
    · exact .inr (.inr (val_le.mpr (by omega)))
  · have hs' : val y.natAbs f < (2 : Rat) ^ ((p : Int) - 1 + g) := Rat.not_le.mp hs
    have h1 := val_abs_ge (e := e) hz
    have h2 := val_abs_le y f
    have h3 : (2 : Rat) ^ ((intBits z : Int) - 1 + e) = (2 : Rat) ^ ((p : Int) - 1 + g) * 2 := by
      rw [show (intBits z : Int) - 1 + e = ((p : Int) - 1 + g) + 1 by omega, p2_add, Rat.zpow_one]
    have h4 : (2 : Rat) ^ g ≤ (2 : Rat) ^ ((p : Int) - 1 + g) := p2_le (by omega)
    by_cases h0 : z < 0
    · rw [show (z.natAbs : Int) = -z by omega, val_neg] at h1
      exact .inr (.inr (by grind))
    · rw [show (z.natAbs : Int) = z by omega] at h1
      exact .inr (.inl (by grind))
/-- what is small beside z tells only its sign -/
theorem same_far {p : Nat} (hp : 1 ≤ p) {z e : Int} (hz : z ≠ 0) (hb : intBits z ≤ p) {d d' : Rat}
    (hd : d < (2 : Rat) ^ ((intBits z : Int) + e - p - 1)) (hdn : -d < (2 : Rat) ^ ((intBits z : Int) + e - p - 1)) (hd' : d' < (2 : Rat) ^ ((intBits z : Int) + e - p - 1)) (hdn' : -d' < (2 : Rat) ^ ((intBits z : Int) + e - p - 1))
    (hs : (0 < d ∧ 0 < d') ∨ (d < 0 ∧ d' < 0)) : Same p (val z e + d) (val z e + d') := fun u hu => by
  have k := apart (e := e) hp hz hb hu rfl
  generalize (2 : Rat) ^ ((intBits z : Int) + e - p - 1) = G at *
  refine ⟨⟨fun h => ?_, fun h => ?_⟩, ⟨fun h => ?_, fun h => ?_⟩⟩ <;> rcases k with k | k | k <;> rcases hs with hs | hs <;> grind

/-- between whole steps above 2 ^ p there is no number of p bits -/
theorem same_between {p : Nat} (hp : 1 ≤ p) {q k : Int} (hq : 2 ^ p ≤ q) {x y : Rat} (hx : val q k < x) (hx' : x < val (q + 1) k) (hy : val q k < y) (hy' : y < val (q + 1) k) : Same p x y := by
  have key : ∀ u, Fl p u → u ≤ val q k ∨ val (q + 1) k ≤ u := fun u hu => by
    obtain ⟨m, f, hm, rfl⟩ := hu
    by_cases hs : (2 : Rat) ^ ((p : Int) - 1 + k) ≤ val m.natAbs f
    · obtain ⟨n, hn⟩ := grid hp hm hs
      rw [hn]
      rcases Int.lt_or_le q n with h | h
      · exact .inr (val_le.mpr (by omega))
      · exact .inl (val_le.mpr h)
    · have h1 : val m.natAbs f < (2 : Rat) ^ ((p : Int) - 1 + k) := Rat.not_le.mp hs
      have h2 := (val_abs_le m f).1
      have h3 : (2 : Rat) ^ ((p : Int) - 1 + k) ≤ val q k := by
        have : val (2 ^ (p - 1)) k ≤ val q k := by
          refine val_le.mpr (Int.le_trans ?_ hq)
          have : (2 : Nat) ^ (p - 1) ≤ 2 ^ p := Nat.pow_le_pow_right (by decide) (by omega)
          exact_mod_cast this
        unfold val at this ⊢
        rw [← p2_nat, ← p2_add] at this
        rw [show (p : Int) - 1 + k = ((p - 1 : Nat) : Int) + k by omega]
        exact this
      exact .inl (by grind)
  intro u hu
  have k := key u hu
  refine ⟨⟨fun h => ?_, fun h => ?_⟩, ⟨fun h => ?_, fun h => ?_⟩⟩ <;> rcases k with k | k <;> grind
theorem val_add (a b g : Int) : val a g + val b g = val (a + b) g := by unfold val; rw [Rat.intCast_add]; grind
theorem val_mul (a b e f : Int) : val a e * val b f = val (a * b) (e + f) := by unfold val; rw [Rat.intCast_mul, p2_add]; grind
end Mine
end

-- MaE
section
namespace Mine
open PySem.Builtin.Int (intBits)

theorem val_ne {z e : Int} (h : z ≠ 0) : val z e ≠ 0 := by
  intro hc
  have : val z e = val 0 e := by rw [hc, val_zero]
  exact h (val_inj this)
theorem div_iff {x y d : Rat} (hd : 0 < d) : (x < y / d ↔ x * d < y) ∧ (y / d < x ↔ y < x * d) := by
  have e : y / d * d = y := Rat.div_mul_cancel (by grind)
  constructor
  · constructor
    · intro h; have := Rat.mul_lt_mul_of_pos_right h hd; rwa [e] at this
    · intro h; rw [← e] at h; exact Rat.lt_of_mul_lt_mul_right h (Rat.le_of_lt hd)
  · constructor
    · intro h; have := Rat.mul_lt_mul_of_pos_right h hd; rwa [e] at this
    · intro h; rw [← e] at h; exact Rat.lt_of_mul_lt_mul_right h (Rat.le_of_lt hd)
theorem div_exact {a d e1 e2 : Int} {x : Nat} (hd : 0 < d) (hr : a * 2 ^ x % d = 0) : val (a * 2 ^ x / d) (e1 - e2 - x) = val a e1 / val d e2 := by
  have hD : 0 < val d e2 := val_pos.mpr hd
  have e : val (a * 2 ^ x / d) (e1 - e2 - x) * val d e2 = val a e1 := by
    rw [val_mul, show e1 - e2 - x + e2 = e1 - x by omega]
    have : a * 2 ^ x / d * d = a * 2 ^ x := Int.ediv_mul_cancel (Int.dvd_of_emod_eq_zero hr)
    rw [this, val_shift]; congr 1; omega
  rw [← e]
  exact (Rat.mul_div_cancel (by grind)).symm
theorem div_sticky {p : Nat} (hp : 1 ≤ p) {a d e1 e2 : Int} {x : Nat} (hd : 0 < d) (hx : 2 ^ p * d ≤ a * 2 ^ x) (hr : a * 2 ^ x % d ≠ 0) :
    Same p (val (a * 2 ^ x / d * 2 + 1) (e1 - e2 - x - 1)) (val a e1 / val d e2) := by
  have hD : 0 < val d e2 := val_pos.mpr hd
  have hq : 2 ^ p ≤ a * 2 ^ x / d := (Int.le_ediv_iff_mul_le hd).mpr hx
  have ha : val a e1 = val (a * 2 ^ x) (e1 - x) := by rw [val_shift]; congr 1; omega
  generalize hA : a * 2 ^ x = A at *
  have hm := Int.mul_ediv_add_emod A d
  have hr0 := Int.emod_nonneg A (show d ≠ 0 by omega)
  have hr1 := Int.emod_lt_of_pos A hd
  have hm' : A = A / d * d + A % d := by rw [Int.mul_comm (A / d) d]; omega
  generalize A / d = q at *
  have k1 : val q (e1 - e2 - x) * val d e2 < val a e1 := by
    rw [val_mul, ha, show e1 - e2 - x + e2 = e1 - x by omega]; exact val_lt.mpr (by omega)
  have k2 : val a e1 < val (q + 1) (e1 - e2 - x) * val d e2 := by
    rw [val_mul, ha, show e1 - e2 - x + e2 = e1 - x by omega]; refine val_lt.mpr ?_
    rw [Int.add_mul, Int.one_mul]; omega
  have h2 : ∀ y : Int, val y (e1 - e2 - x) = val (y * 2 ^ 1) (e1 - e2 - x - 1) := fun y => by rw [val_shift]; congr 1; omega
  refine same_between hp (q := q) (k := e1 - e2 - x) hq ?_ ?_ ((div_iff hD).1.mpr k1) ((div_iff hD).2.mpr k2)
  · rw [h2]; exact val_lt.mpr (by omega)
  · rw [h2]; exact val_lt.mpr (by omega)
theorem val_div_neg (a b : Rat) : -a / b = -(a / b) := by rw [Rat.div_def, Rat.div_def]; grind
theorem val_div_neg' (a b : Rat) : a / -b = -(a / b) := by
  by_cases h : b = 0
  · subst h; simp [Rat.div_def]
  · have h1 : a / -b * -b = a := Rat.div_mul_cancel (by grind)
    have h2 : a / b * b = a := Rat.div_mul_cancel h
    have h3 : (a / -b + a / b) * b = 0 := by grind
    have h4 : a / -b + a / b = 0 := by
      rcases Rat.mul_eq_zero.mp h3 with h5 | h5
      · exact h5
      · exact absurd h5 h
    grind
/-- a quotient with its sign -/
theorem div_sign {z1 e1 z2 e2 : Int} (h1 : z1 ≠ 0) (h2 : z2 ≠ 0) :
    val z1 e1 / val z2 e2 = if z1 * z2 < 0 then -(val z1.natAbs e1 / val z2.natAbs e2) else val z1.natAbs e1 / val z2.natAbs e2 := by
  by_cases a : z1 < 0
  · by_cases b : z2 < 0
    · have : ¬ z1 * z2 < 0 := by have := Int.mul_pos_of_neg_of_neg a b; omega
      rw [if_neg this, show (z1.natAbs : Int) = -z1 by omega, show (z2.natAbs : Int) = -z2 by omega, val_neg, val_neg, val_div_neg, val_div_neg', Rat.neg_neg]
    · rw [if_pos (Int.mul_neg_of_neg_of_pos a (by omega)), show (z1.natAbs : Int) = -z1 by omega, show (z2.natAbs : Int) = z2 by omega, val_neg, val_div_neg, Rat.neg_neg]
  · by_cases b : z2 < 0
    · rw [if_pos (Int.mul_neg_of_pos_of_neg (by omega) b), show (z1.natAbs : Int) = z1 by omega, show (z2.natAbs : Int) = -z2 by omega, val_neg, val_div_neg', Rat.neg_neg]
    · have : ¬ z1 * z2 < 0 := by have := Int.mul_pos (show 0 < z1 by omega) (show 0 < z2 by omega); omega
      rw [if_neg this, show (z1.natAbs : Int) = z1 by omega, show (z2.natAbs : Int) = z2 by omega]
end Mine
end

-- MaF
section
namespace Mine
open PySem.Builtin.Int (intBits)

theorem isR_same_ex {p : Nat} (hp : 1 ≤ p) {c : Bool} {z e : Int} {y : Rat} (h : Same p (val z e) y) : ∃ z' e', Can z' e' ∧ IsR p c y (val z' e') :=
  ⟨_, _, can_nrm (rzZ p c z) (rzE p z e), by rw [val_nrm]; exact h.isR (isR_rz hp c z e)⟩
theorem isR_dyadic_ex {p : Nat} (hp : 1 ≤ p) (c : Bool) (z e : Int) : ∃ z' e', Can z' e' ∧ IsR p c (val z e) (val z' e') :=
  ⟨_, _, can_nrm (rzZ p c z) (rzE p z e), by rw [val_nrm]; exact isR_rz hp c z e⟩
/-- every number is rounded -/
theorem isR_ex {p : Nat} (hp : 1 ≤ p) (c : Bool) (x : Rat) : ∃ z e, Can z e ∧ IsR p c x (val z e) := by
  have pos : ∀ (c : Bool) (n d : Int), 0 < n → 0 < d → ∃ z e, Can z e ∧ IsR p c ((n : Rat) / (d : Rat)) (val z e) := fun c n d hn hd => by
    have hv : ∀ a : Int, val a 0 = (a : Rat) := fun a => by unfold val; rw [Rat.zpow_zero, Rat.mul_one]
    have hx : 2 ^ p * d ≤ n * 2 ^ (p + intBits d) := by
      have h1 := bl_lt d
      have h2 : d ≤ 2 ^ intBits d := by
        have : (d.natAbs : Int) < ((2 ^ intBits d : Nat) : Int) := by exact_mod_cast h1
        simp at this; omega
      have h3 : 2 ^ p * d ≤ 2 ^ p * 2 ^ intBits d := Int.mul_le_mul_of_nonneg_left h2 (Int.le_of_lt (pow2_pos p))
      rw [← Int.pow_add] at h3
      have h4 : 1 * 2 ^ (p + intBits d) ≤ n * 2 ^ (p + intBits d) := Int.mul_le_mul_of_nonneg_right (by omega) (Int.le_of_lt (pow2_pos _))
      omega
    by_cases hr : n * 2 ^ (p + intBits d) % d = 0
    · have := div_exact (a := n) (d := d) (e1 := 0) (e2 := 0) hd hr
      rw [hv, hv] at this
      rw [← this]
      exact isR_dyadic_ex hp c _ _
    · have := div_sticky hp (a := n) (d := d) (e1 := 0) (e2 := 0) hd hx hr
      rw [hv, hv] at this
      exact isR_same_ex hp this
  have hnum : ∀ x : Rat, 0 < x → ∃ n d : Int, 0 < n ∧ 0 < d ∧ x = (n : Rat) / (d : Rat) := fun x hx => by
    refine ⟨x.num, x.den, ?_, by have := x.den_nz; omega, ?_⟩
    · have h1 := Rat.num_nonneg.mpr (Rat.le_of_lt hx)
      have h2 : x.num ≠ 0 := fun h => by have := Rat.num_eq_zero.mp h; grind
      omega
    · rw [← Rat.divInt_eq_div]; exact (Rat.num_divInt_den x).symm
  have tri : x < 0 ∨ x = 0 ∨ 0 < x := by
    by_cases h : x = 0
    · exact .inr (.inl h)
    · rcases Rat.le_total (a := x) (b := 0) with h' | h'
      · exact .inl (Rat.lt_of_le_of_ne h' h)
      · exact .inr (.inr (Rat.lt_of_le_of_ne h' (Ne.symm h)))
  rcases tri with h | h | h
  · obtain ⟨n, d, hn, hd, e⟩ := hnum (-x) (by grind)
    obtain ⟨z, e2, hc, r⟩ := pos (!c) n d hn hd
    refine ⟨-z, e2, ?_, ?_⟩
    · rcases hc with hc | hc
      · left; omega
      · right; omega
    · have := r.neg
      rw [← e, Rat.neg_neg, Bool.not_not] at this
      rw [val_neg]; exact this
  · subst h
    exact ⟨0, 0, .inl ⟨rfl, rfl⟩, by have := isR_rz hp c 0 0; rw [val_zero, rz_same (by simp [bl_zero]), val_zero] at this; rw [val_zero]; exact this⟩
  · obtain ⟨n, d, hn, hd, e⟩ := hnum x h
    rw [e]; exact pos c n d hn hd
theorem pvX_ex {p : Nat} (hp : 1 ≤ p) (c : Bool) (x : Rat) : ∃ z e, Can z e ∧ IsR p c x (val z e) ∧ pvX p c x = pvM z e := by
  obtain ⟨z, e, hc, r⟩ := isR_ex hp c x
  exact ⟨z, e, hc, r, pvX_eq hc r⟩
/-- a canonical number of p bits has p bits -/
theorem can_bits {p : Nat} (hp : 1 ≤ p) {z e : Int} (hc : Can z e) (h : Fl p (val z e)) : intBits z ≤ p := by
  obtain ⟨y, f, hy, heq⟩ := h
  rcases hc with ⟨rfl, rfl⟩ | ho
  · simp [bl_zero]
  have hz : z ≠ 0 := by omega
  have hy0 : y ≠ 0 := by rintro rfl; rw [val_zero] at heq; exact val_ne hz heq
  obtain ⟨h1, h2⟩ := can_inj (.inr ho) (can_nrm y f) (by rw [val_nrm]; exact heq)
  have h3 := nrm_abs hy0
  rw [← h1] at h3
  refine bl_le.mpr ?_
  have hpos := Nat.two_pow_pos (tz y.natAbs)
  have h4 : z.natAbs ≤ 2 ^ p := by
    have : z.natAbs * 1 ≤ z.natAbs * 2 ^ tz y.natAbs := Nat.mul_le_mul_left _ hpos
    omega
  by_cases h5 : z.natAbs = 2 ^ p
  · obtain ⟨q, rfl⟩ : ∃ q, p = q + 1 := ⟨p - 1, by omega⟩
    rw [Nat.pow_succ] at h5
    omega
  · omega
theorem fl_pow {p : Nat} (g : Int) : Fl p ((2 : Rat) ^ g) := ⟨1, g, by have := Nat.two_pow_pos p; simp; omega, (val_one g).symm⟩
/-- rounding stays between powers of two -/
theorem isR_lo {p : Nat} {c : Bool} {x t : Rat} (r : IsR p c x t) {g : Int} (h : (2 : Rat) ^ g ≤ x) : (2 : Rat) ^ g ≤ t := by
  obtain ⟨f, r⟩ := r
  cases c with
  | false => exact r.2 _ (fl_pow g) h
  | true => exact Rat.le_trans h r.1
theorem isR_hi {p : Nat} {c : Bool} {x t : Rat} (r : IsR p c x t) {g : Int} (h : x ≤ (2 : Rat) ^ g) : t ≤ (2 : Rat) ^ g := by
  obtain ⟨f, r⟩ := r
  cases c with
  | false => exact Rat.le_trans r.1 h
  | true => exact r.2 _ (fl_pow g) h
theorem isR_zero {p : Nat} {c : Bool} {t : Rat} (r : IsR p c 0 t) : t = 0 := by
  refine r.unique ⟨⟨0, 0, by simp, (val_zero 0).symm⟩, ?_⟩
  cases c <;> exact ⟨Rat.le_refl, fun u _ h => h⟩
theorem isR_nonneg {p : Nat} {c : Bool} {x t : Rat} (r : IsR p c x t) (h : 0 ≤ x) : 0 ≤ t := by
  obtain ⟨f, r⟩ := r
  cases c with
  | false => exact r.2 0 ⟨0, 0, by simp, (val_zero 0).symm⟩ h
  | true => exact Rat.le_trans h r.1
theorem can_zero {z e : Int} (hc : Can z e) (h : val z e = 0) : z = 0 ∧ e = 0 := by
  have : z = 0 := by
    have : val z e = val 0 e := by rw [h, val_zero]
    exact val_inj this
  rcases hc with hc | hc
  · exact hc
  · omega
/-- bounds on the exponent -/
theorem exp_bounds {p : Nat} {z e a b : Int} (hz : z ≠ 0) (hb : intBits z ≤ p) (hlo : (2 : Rat) ^ a ≤ val z.natAbs e) (hhi : val z.natAbs e ≤ (2 : Rat) ^ b) : a - p < e ∧ e ≤ b := by
  constructor
  · have h1 := val_abs_lt (e := e) hb
    have h2 : (2 : Rat) ^ a < (2 : Rat) ^ ((p : Int) + e) := by grind
    have := p2_lt_iff.mp h2
    omega
  · have h1 := val_abs_ge (e := e) hz
    have h2 := bl_pos hz
    have h3 : (2 : Rat) ^ ((intBits z : Int) - 1 + e) < (2 : Rat) ^ (b + 1) := by
      have := p2_lt (show b < b + 1 by omega)
      grind
    have := p2_lt_iff.mp h3
    omega
end Mine
end

-- WaA
section
namespace Mine
open PySem.Builtin (bitAnd bitXor)
open PySem.Builtin.Int (intBits)
local macro_rules | `(tactic| walk_at "mem") => `(tactic| with_reducible (first | exact List.mem_cons_self | (refine List.mem_cons_of_mem _ ?_; walk_at "mem")))
local macro_rules | `(tactic| walk_at "upd") => `(tactic| with_reducible (first | exact Upd.head | (apply Upd.tail; walk_at "upd")))
local macro_rules | `(tactic| walk_at "upds") => `(tactic| first | exact Upds.nil | exact Upds.cons (by walk_at "upd") (by walk_at "upds"))
local macro_rules | `(tactic| walk_at "names") => `(tactic| first | exact Names.nil | exact Names.cons (by walk_at "names"))
local macro_rules | `(tactic| walk_at "side") => `(tactic| first | assumption | decide | omega)
local macro_rules | `(tactic| walk_at "B") => `(tactic| with_reducible first
  | exact B_add | exact B_sub | (show BinV .Mult _ _ _; exact B_mul (by walk_at "side")) | (show BinV .FloorDiv _ _ _; exact B_fdiv (by walk_at "side") (by walk_at "side")) | (show BinV .Mod _ _ _; exact B_mod (by walk_at "side"))
  | (show BinV .LShift _ _ _; exact B_shl (by walk_at "side") (by walk_at "side")) | (show BinV .RShift _ _ _; exact B_shr (by walk_at "side")) | (show BinV .Pow _ _ _; exact B_pow (by walk_at "side") (by walk_at "side"))
  | exact B_and | exact B_xor | (show BinV .Add (.str _) _ _; exact B_adds (by walk_at "side")))
local macro_rules | `(tactic| walk_at "I") => `(tactic| with_reducible first
  | exact I_add | exact I_sub | (show IBinV .LShift _ _ _; exact I_shl (by walk_at "side") (by walk_at "side")) | (show IBinV .RShift _ _ _; exact I_shr (by walk_at "side")) | exact I_xor | (show IBinV .Add (.str _) _ _; exact I_adds (by walk_at "side")))
local macro_rules | `(tactic| walk_at "C") => `(tactic| with_reducible first
  | exact C_eq | exact C_ne | exact C_lt | exact C_le | exact C_gt | exact C_ge | exact C_eqs | exact C_nes
  | (show CmpV .Eq (.tuple _) (.tuple _) _; exact C_eqd (by with_unfolding_all rfl) (by with_unfolding_all rfl) (by with_unfolding_all exact Nat.le_of_ble_eq_true rfl))
  | (show CmpV .NotEq (.tuple _) (.tuple _) _; exact C_ned (by with_unfolding_all rfl) (by with_unfolding_all rfl) (by with_unfolding_all exact Nat.le_of_ble_eq_true rfl)))
local macro_rules | `(tactic| walk_at "U") => `(tactic| with_reducible first | exact U_neg | (show UnV .Not _ _; exact U_not (by walk_at "R")))
local macro_rules | `(tactic| walk_at "R") => `(tactic| with_reducible first | exact R_int | exact R_bool | (show TruV (.str _) _; exact R_str (by walk_at "side")))
local macro_rules | `(tactic| walk_at "G") => `(tactic| with_reducible first
  | exact gl_fzero | exact gl_zero | exact gl_one | exact gl_near | exact gl_floor | exact gl_ceil | exact gl_up | exact gl_down | exact gl_fnan | exact gl_finf | exact gl_fninf | exact gl_blog | exact gl_digits)
local macro_rules | `(tactic| walk_at "L") => `(tactic| with_reducible first | exact L_nil | (show EvL _ _ _ _ (_ :: _) _ _; exact L_cons (by walk_at "E") (by walk_at "L")))
local macro_rules | `(tactic| walk_at "M0") => `(tactic| with_reducible first | exact M_bitlen | (show Meth0 _ (.str _) _; first | exact M_strip (by walk_at "side") | exact M_lower (by walk_at "side")))
local macro_rules | `(tactic| walk_at "K") => `(tactic| with_reducible first | assumption | exact K_int | exact K_abs | exact K_max | exact K_min | (show CallV (.builtin "len") _ _; exact K_len (by walk_at "side")) | (show CallV (.builtin "divmod") _ _; exact K_divmod (by walk_at "side") (by walk_at "side")))
local macro_rules | `(tactic| walk_at "Ebi") => `(tactic| with_reducible first
  | (show EvE _ _ _ _ (.Call (.Name (Str.ofString "int") _) _ _ _) _ _; exact E_bi bi_int (by walk_at "mem") rfl (by walk_at "L") (by walk_at "K"))
  | (show EvE _ _ _ _ (.Call (.Name (Str.ofString "len") _) _ _ _) _ _; exact E_bi bi_len (by walk_at "mem") rfl (by walk_at "L") (by walk_at "K"))
  | (show EvE _ _ _ _ (.Call (.Name (Str.ofString "abs") _) _ _ _) _ _; exact E_bi bi_abs (by walk_at "mem") rfl (by walk_at "L") (by walk_at "K"))
  | (show EvE _ _ _ _ (.Call (.Name (Str.ofString "max") _) _ _ _) _ _; exact E_bi bi_max (by walk_at "mem") rfl (by walk_at "L") (by walk_at "K"))
  | (show EvE _ _ _ _ (.Call (.Name (Str.ofString "min") _) _ _ _) _ _; exact E_bi bi_min (by walk_at "mem") rfl (by walk_at "L") (by walk_at "K"))
  | (show EvE _ _ _ _ (.Call (.Name (Str.ofString "divmod") _) _ _ _) _ _; exact E_bi bi_divmod (by walk_at "mem") rfl (by walk_at "L") (by walk_at "K"))
  | (show EvE _ _ _ _ (.Call (.Name (Str.ofString "str") _) _ _ _) _ _; exact E_bi bi_str (by walk_at "mem") rfl (by walk_at "L") (by walk_at "K"))
  | (show EvE _ _ _ _ (.Call (.Name (Str.ofString "pow") _) _ _ _) _ _; exact E_bi bi_pow (by walk_at "mem") rfl (by walk_at "L") (by walk_at "K"))
  | (show EvE _ _ _ _ (.Call (.Name (Str.ofString "isinstance") _) _ _ _) _ _; exact E_isint (by walk_at "mem") (by walk_at "mem") (by walk_at "E")))
local macro_rules | `(tactic| walk_at "E") => `(tactic| with_reducible first
  | assumption
  | (show EvE _ _ _ _ (.Name _ _) _ _; first | exact E_name (by walk_at "mem") | exact E_gl (by walk_at "mem") (by walk_at "G"))
  | exact E_int
  | (show EvE _ _ _ _ (.BinOp _ _ _ _) _ _; exact E_bin (by walk_at "E") (by walk_at "E") (by walk_at "B"))
  | exact E_str | exact E_bool | exact E_none
  | (show EvE _ _ _ _ (.UnaryOp _ _ _) _ _; exact E_un (by walk_at "E") (by walk_at "U"))
  | (show EvE _ _ _ _ (.Tuple _ _ _) _ _; exact E_tup (by walk_at "L"))
  | (show EvE _ _ _ _ (.Call (.Name _ _) _ _ _) _ _; first | walk_at "Ebi" | exact E_call (by walk_at "mem") (by walk_at "L") (by assumption))
  | (show EvE _ _ _ _ (.BoolOp .Or [_, _] _) _ _; exact E_orp (by walk_at "E") (by walk_at "side"))
  | (show EvE _ _ _ _ (.Call (.Attribute _ _ _) [] [] _) _ _; exact E_meth0 (by walk_at "E") (by walk_at "M0"))
  | (show EvE _ _ _ _ (.Compare _ [_] [_] _) _ _; exact E_cmp (by walk_at "E") (by walk_at "E") (by walk_at "C")))
local macro_rules | `(tactic| walk_at "T") => `(tactic| with_reducible first
  | assumption
  | (show EvT _ _ _ _ (.UnaryOp .Not _ _) _ _; exact T_not (by walk_at "T")) | (show EvT _ _ _ _ (.Compare _ [_] [_] _) _ _; exact T_cmp (by walk_at "E") (by walk_at "E") (by walk_at "C"))
  | (show EvT _ _ _ _ (.Compare _ [_, _] [_, _] _) _ _; exact T_chain (by walk_at "E") (by walk_at "E") (by walk_at "C") (fun _ => by walk_at "E") (fun _ => by walk_at "C"))
  | (show EvT _ _ _ _ (.BoolOp _ _ _) _ _; exact T_bool (by walk_at "A")) | exact T_val (by walk_at "E") (by walk_at "R"))
local macro_rules | `(tactic| walk_at "A") => `(tactic| with_reducible first
  | exact A_and0 | exact A_or0 | (show EvA _ _ _ _ .And _ _ _; exact A_and (by walk_at "T") (fun _ => by walk_at "A")) | exact A_or (by walk_at "T") (fun _ => by walk_at "A"))
local macro_rules | `(tactic| walk_at "S1") => `(tactic| with_reducible first
  | refine S_pop ?_
  | (show Exs _ _ _ _ ((.Assign [.Name _ _] _ _ :: _) :: _) _; refine S_assign (by walk_at "E") (by walk_at "upd") ?_)
  | (show Exs _ _ _ _ ((.AugAssign _ _ _ _ :: _) :: _) _; refine S_aug (by walk_at "mem") (by walk_at "E") (by walk_at "I") (by walk_at "upd") ?_)
  | (show Exs _ _ _ _ ((.Assign [.Tuple _ _ _] _ _ :: _) :: _) _; refine S_unpack (by walk_at "E") (by walk_at "names") (by walk_at "upds") ?_))
local macro_rules | `(tactic| walk_at "S") => `(tactic| repeat walk_at "S1")
local macro_rules | `(tactic| walk_at "ret") => `(tactic| (with_reducible show Exs _ _ _ _ ((.Return _ _ :: _) :: _) _; with_reducible apply S_ret'; walk_at "E"))
local macro_rules | `(tactic| walk_at "weak") => `(tactic| with_reducible first | exact Weak.nil | (apply Weak.skip; walk_at "weak") | (apply Weak.same; walk_at "weak") | (apply Weak.keep; rotate_left; walk_at "weak"))
local macro_rules | `(tactic| walk_at "end") => `(tactic| ((repeat (with_reducible refine S_pop ?_)); with_reducible apply S_end'; walk_at "weak"))
local macro_rules | `(tactic| walk_at "weak") => `(tactic| with_reducible first | exact Weak.nil | (apply Weak.skip; walk_at "weak") | (apply Weak.same; walk_at "weak") | (apply Weak.keep; rotate_left; walk_at "weak"))
local macro_rules | `(tactic| walk_at "end") => `(tactic| ((repeat (with_reducible refine S_pop ?_)); with_reducible apply S_end'; walk_at "weak"))

theorem bindN {s : Shared} {vs ks : List Value} {ds : List PV} {fd : FuncData} {ps : List Str} {h : Heap} (r : RepAll h vs ds) (rk : RepAll h ks []) (hb : ∀ vs : List Value, vs.length = ds.length → BindsTo s fd ⟨vs, []⟩ (ps.zip vs)) :
    ∃ us, BindsTo s fd ⟨vs, (([] : List (Str × PV)).map (·.1)).zip ks⟩ (ps.zip us) ∧ RepAll h us ds := ⟨vs, hb vs r.length, r⟩

theorem sp_trailing {w : World} {m : Nat} (hn : m ≠ 0) : FnSpec w 1 "trailing" [.int m] (.int (tz m)) := by
  refine fn_intro (Γ := []) 21 (by kernel_rfl) (by rfl) (by kernel_rfl) ["n"] [] [.int m] (by decide +kernel) rfl ?_ ?_
  · intro s vs ks H ra rk
    obtain ⟨v, rfl, r⟩ := repAll1 ra
    exact ⟨[v], BindsTo.of_eq (by rfl), ra⟩
  · intro ρ hρ; simp only [envZip_cons, envZip_nil, envZip_nil'] at hρ; subst hρ
    refine S_if (by walk_at "T") (fun h => ?_) (fun h => ?_)
    · exfalso; simp [hn] at h
    walk_at "S"
    walk_at "ret"
    rw [lowbit hn]

theorem E_shsg {w : World} {n : Nat} {Γ : List Str} {ρ : PEnv} {r1 r2 : Expr} {p p' p'' : Pos} {z : Int} {c : Bool} (hx : Str.ofString "shifts_down" ∈ Γ) (h1 : EvE w n Γ ρ r1 (.str (rS c)) ρ) (h2 : EvE w n Γ ρ r2 (.int (sg z)) ρ)
    (hs : ∀ o i, subscripted r1 false o i = operate [o, i] (getItem o i) := by intros; with_unfolding_all rfl) (hs2 : ∀ o i, subscripted r2 false o i = operate [o, i] (getItem o i) := by intros; with_unfolding_all rfl) :
    EvE w n Γ ρ (.Subscript (.Subscript (.Name (Str.ofString "shifts_down") p) r1 p') r2 p'') (.int (if c = decide (z < 0) then 1 else 0)) ρ := by
  have h := E_shifts (p := p) (p' := p') c hx h1 hs
  by_cases hz : z < 0
  · have e : sg z = 1 := if_pos hz
    rw [e] at h2
    refine E_eq (E_tupitem h h2 (by decide) (by decide) (j := 1) rfl rfl hs2) ?_
    cases c <;> simp [hz]
  · have e : sg z = 0 := if_neg hz
    rw [e] at h2
    refine E_eq (E_tupitem h h2 (by decide) (by decide) (j := 0) rfl rfl hs2) ?_
    cases c <;> simp [hz]

theorem sp_norm0 {w : World} {z e : Int} {p : Nat} (hp : 1 ≤ p) (c : Bool) :
    FnSpec w 2 "_normalize" [.int (sg z), .int z.natAbs, .int e, .int (intBits z), .int p, .str (rS c)] (pvR p c z e) := by
  refine fn_intro (Γ := ["fzero", "round_nearest", "MPZ_ONE", "shifts_down", "trailing"]) 69 (by kernel_rfl) (by rfl) (by kernel_rfl) ["sign", "man", "exp", "bc", "prec", "rnd"] ["n", "t"] [.int (sg z), .int z.natAbs, .int e, .int (intBits z), .int p, .str (rS c)] (by decide +kernel) rfl ?_ ?_
  · intro s vs ks H ra rk
    refine bindN ra rk fun vs hv => ?_
    match vs, hv with
    | [a, b, c, d, e, f], _ => exact BindsTo.of_eq (by rfl)
  intro ρ hρ; simp only [envZip_cons, envZip_nil, envZip_nil'] at hρ; subst hρ
  refine S_if (by walk_at "T") (fun h => ?_) (fun h => ?_)
  · have hz : z = 0 := by simpa using h
    subst hz
    walk_at "ret"
    unfold pvR pvN
    rw [rz_same (by simp [bl_zero]), nrmZ_zero]
    simp [nrmE, pvM, sg, bl_zero]
  have hz : z ≠ 0 := by simpa using h
  obtain ⟨f1, f2, f3⟩ := rz_facts hp c hz
  walk_at "S"
  refine S_join (ρ₁ := [("sign", some (.int (sg z))), ("man", some (.int (rzZ p c z).natAbs)), ("exp", some (.int (rzE p z e))), ("bc", some (.int (min (intBits z) p : Nat))), ("prec", some (.int p)), ("rnd", some (.str (rS c))), ("n", none), ("t", none)]) ?_ ?_
  · refine S_if (by walk_at "T") (fun h => ?_) (fun h => ?_)
    · have hn : p < intBits z := by simpa using h
      have hN : (intBits z : Int) - p = (rzN p z : Nat) := by unfold rzN; omega
      have hn0 : (0 : Int) ≤ (intBits z : Int) - p := by omega
      have hmin : min (intBits z) p = p := by omega
      refine S_if (T_eq (b₂ := false) (by walk_at "T") (by cases c <;> decide +kernel)) (fun h => by cases h) (fun _ => ?_)
      refine S_if (T_val (E_shsg (by walk_at "mem") (by walk_at "E") (by walk_at "E")) R_int) (fun h => ?_) (fun h => ?_)
      · have hd : c = decide (z < 0) := by
          by_cases hd : c = decide (z < 0)
          · exact hd
          · simp [hd] at h
        walk_at "S"
        walk_at "end"
        · rw [rz_down hd, hN, fdiv_eq, Int.toNat_natCast]
          have : 0 ≤ (z.natAbs : Int) / 2 ^ rzN p z := Int.ediv_nonneg (by omega) (Int.le_of_lt (pow2_pos _))
          congr 1
          split <;> omega
        · unfold rzE; rw [hN]
        · rw [hmin]
      · have hd : c = !decide (z < 0) := by
          by_cases hd : c = decide (z < 0)
          · simp [hd] at h
          · cases c <;> cases h : decide (z < 0) <;> simp_all
        walk_at "S"
        walk_at "end"
        · rw [rz_up hd, hN, fdiv_eq, Int.toNat_natCast]
          have hup := shrup_bits (a := (z.natAbs : Int)) (by omega) hp (n := rzN p z) (by rw [bl_abs]; unfold rzN; omega)
          have : (0 : Int) < 2 ^ (p - 1) := pow2_pos _
          congr 1
          split <;> omega
        · unfold rzE; rw [hN]
        · rw [hmin]
    · have hn : intBits z ≤ p := by simpa using h
      have h0 : rzN p z = 0 := by unfold rzN; omega
      walk_at "end"
      · rw [rz_same hn]
      · unfold rzE; rw [h0]; simp
      · rw [show min (intBits z) p = intBits z by omega]
  generalize hZ : rzZ p c z = Z at f1 f2 f3
  unfold pvR pvN
  rw [hZ]
  generalize hE : rzE p z e = EE
  have hM : Z.natAbs ≠ 0 := by omega
  refine S_join (ρ₁ := [("sign", some (.int (sg z))), ("man", some (.int (nrmZ Z).natAbs)), ("exp", some (.int (nrmE Z EE))), ("bc", some (.int ((min (intBits z) p : Nat) - (tz Z.natAbs : Nat)))), ("prec", some (.int p)), ("rnd", some (.str (rS c))), ("n", none), ("t", none)]) ?_ ?_
  · refine S_if (by walk_at "T") (fun h => ?_) (fun h => ?_)
    · have ht := sp_trailing (w := w) hM
      have hp0 : (0 : Int) ≤ (tz Z.natAbs : Nat) := by omega
      walk_at "S"
      walk_at "end"
      · have := nrm_abs f1
        have e : ((Z.natAbs : Nat) : Int) = (nrmZ Z).natAbs * 2 ^ tz Z.natAbs := by exact_mod_cast this.symm
        rw [Int.toNat_natCast, fdiv_eq]
        have hp2 := pow2_pos (tz Z.natAbs)
        generalize tz Z.natAbs = t at e hp2
        rw [e, Int.mul_ediv_cancel _ (by omega)]
      · unfold nrmE; rw [if_neg f1]
    · have ho : Z.natAbs % 2 = 1 := by
        rw [bit0] at h
        simp at h; omega
      have ht := tz_odd ho
      have hz1 : nrmZ Z = Z := by unfold nrmZ; rw [ht]; simp
      walk_at "end"
      · rw [hz1]
      · unfold nrmE; rw [if_neg f1, ht]; simp
      · rw [ht]; simp
  have hbl := nrm_bl f1
  have hsg := nrm_sg Z
  refine S_if (by walk_at "T") (fun h => ?_) (fun h => ?_)
  · have h1 : (nrmZ Z).natAbs = 1 := by simp at h; omega
    walk_at "S"
    walk_at "ret"
    unfold pvM
    rw [hsg, f2]
    have : intBits (nrmZ Z) = 1 := bl_of (k := 0) (by omega) (by omega)
    rw [this]; rfl
  · have h1 : (nrmZ Z).natAbs ≠ 1 := by simp at h; omega
    rcases f3 with f3 | f3
    · walk_at "S"
      walk_at "ret"
      unfold pvM
      have e : ((min (intBits z) p : Nat) : Int) - (tz Z.natAbs : Nat) = (intBits (nrmZ Z) : Nat) := by omega
      rw [hsg, f2, e]
    · exact absurd (nrm_pow f3) h1

theorem sp_norm {w : World} {z e : Int} {p : Nat} (hp : 1 ≤ p) (c : Bool) :
    FnSpec w 3 "normalize" [.int (sg z), .int z.natAbs, .int e, .int (intBits z), .int p, .str (rS c)] (pvR p c z e) := by
  refine fn_intro (Γ := ["_normalize"]) 76 (by kernel_rfl) (by rfl) (by kernel_rfl) ["sign", "man", "exp", "bc", "prec", "rnd"] [] [.int (sg z), .int z.natAbs, .int e, .int (intBits z), .int p, .str (rS c)] (by decide +kernel) rfl ?_ ?_
  · intro s vs ks H ra rk
    refine bindN ra rk fun vs hv => ?_
    match vs, hv with
    | [a, b, c, d, e, f], _ => exact BindsTo.of_eq (by rfl)
  intro ρ hρ; simp only [envZip_cons, envZip_nil, envZip_nil'] at hρ; subst hρ
  refine S_assert (T_eq (by walk_at "T") (by simp [bl_abs])) ?_
  refine S_assert (T_eq (by walk_at "T") (by simp)) ?_
  have := sp_norm0 (w := w) (z := z) (e := e) hp c
  walk_at "ret"
  rfl
end Mine
end

-- WaB
section
namespace Mine
open PySem.Builtin (bitAnd bitXor)
open PySem.Builtin.Int (intBits)
local macro_rules | `(tactic| walk_at "mem") => `(tactic| with_reducible (first | exact List.mem_cons_self | (refine List.mem_cons_of_mem _ ?_; walk_at "mem")))
local macro_rules | `(tactic| walk_at "upd") => `(tactic| with_reducible (first | exact Upd.head | (apply Upd.tail; walk_at "upd")))
local macro_rules | `(tactic| walk_at "upds") => `(tactic| first | exact Upds.nil | exact Upds.cons (by walk_at "upd") (by walk_at "upds"))
local macro_rules | `(tactic| walk_at "names") => `(tactic| first | exact Names.nil | exact Names.cons (by walk_at "names"))
local macro_rules | `(tactic| walk_at "side") => `(tactic| first | assumption | decide | omega)
local macro_rules | `(tactic| walk_at "B") => `(tactic| with_reducible first
  | exact B_add | exact B_sub | (show BinV .Mult _ _ _; exact B_mul (by walk_at "side")) | (show BinV .FloorDiv _ _ _; exact B_fdiv (by walk_at "side") (by walk_at "side")) | (show BinV .Mod _ _ _; exact B_mod (by walk_at "side"))
  | (show BinV .LShift _ _ _; exact B_shl (by walk_at "side") (by walk_at "side")) | (show BinV .RShift _ _ _; exact B_shr (by walk_at "side")) | (show BinV .Pow _ _ _; exact B_pow (by walk_at "side") (by walk_at "side"))
  | exact B_and | exact B_xor | (show BinV .Add (.str _) _ _; exact B_adds (by walk_at "side")))
local macro_rules | `(tactic| walk_at "I") => `(tactic| with_reducible first
  | exact I_add | exact I_sub | (show IBinV .LShift _ _ _; exact I_shl (by walk_at "side") (by walk_at "side")) | (show IBinV .RShift _ _ _; exact I_shr (by walk_at "side")) | exact I_xor | (show IBinV .Add (.str _) _ _; exact I_adds (by walk_at "side")))
local macro_rules | `(tactic| walk_at "C") => `(tactic| with_reducible first
  | exact C_eq | exact C_ne | exact C_lt | exact C_le | exact C_gt | exact C_ge | exact C_eqs | exact C_nes
  | (show CmpV .Eq (.tuple _) (.tuple _) _; exact C_eqd (by with_unfolding_all rfl) (by with_unfolding_all rfl) (by with_unfolding_all exact Nat.le_of_ble_eq_true rfl))
  | (show CmpV .NotEq (.tuple _) (.tuple _) _; exact C_ned (by with_unfolding_all rfl) (by with_unfolding_all rfl) (by with_unfolding_all exact Nat.le_of_ble_eq_true rfl)))
local macro_rules | `(tactic| walk_at "U") => `(tactic| with_reducible first | exact U_neg | (show UnV .Not _ _; exact U_not (by walk_at "R")))
local macro_rules | `(tactic| walk_at "R") => `(tactic| with_reducible first | exact R_int | exact R_bool | (show TruV (.str _) _; exact R_str (by walk_at "side")))
local macro_rules | `(tactic| walk_at "G") => `(tactic| with_reducible first
  | exact gl_fzero | exact gl_zero | exact gl_one | exact gl_near | exact gl_floor | exact gl_ceil | exact gl_up | exact gl_down | exact gl_fnan | exact gl_finf | exact gl_fninf | exact gl_blog | exact gl_digits)
local macro_rules | `(tactic| walk_at "L") => `(tactic| with_reducible first | exact L_nil | (show EvL _ _ _ _ (_ :: _) _ _; exact L_cons (by walk_at "E") (by walk_at "L")))
local macro_rules | `(tactic| walk_at "M0") => `(tactic| with_reducible first | exact M_bitlen | (show Meth0 _ (.str _) _; first | exact M_strip (by walk_at "side") | exact M_lower (by walk_at "side")))
local macro_rules | `(tactic| walk_at "K") => `(tactic| with_reducible first | assumption | exact K_int | exact K_abs | exact K_max | exact K_min | (show CallV (.builtin "len") _ _; exact K_len (by walk_at "side")) | (show CallV (.builtin "divmod") _ _; exact K_divmod (by walk_at "side") (by walk_at "side")))
local macro_rules | `(tactic| walk_at "Ebi") => `(tactic| with_reducible first
  | (show EvE _ _ _ _ (.Call (.Name (Str.ofString "int") _) _ _ _) _ _; exact E_bi bi_int (by walk_at "mem") rfl (by walk_at "L") (by walk_at "K"))
  | (show EvE _ _ _ _ (.Call (.Name (Str.ofString "len") _) _ _ _) _ _; exact E_bi bi_len (by walk_at "mem") rfl (by walk_at "L") (by walk_at "K"))
  | (show EvE _ _ _ _ (.Call (.Name (Str.ofString "abs") _) _ _ _) _ _; exact E_bi bi_abs (by walk_at "mem") rfl (by walk_at "L") (by walk_at "K"))
  | (show EvE _ _ _ _ (.Call (.Name (Str.ofString "max") _) _ _ _) _ _; exact E_bi bi_max (by walk_at "mem") rfl (by walk_at "L") (by walk_at "K"))
  | (show EvE _ _ _ _ (.Call (.Name (Str.ofString "min") _) _ _ _) _ _; exact E_bi bi_min (by walk_at "mem") rfl (by walk_at "L") (by walk_at "K"))
  | (show EvE _ _ _ _ (.Call (.Name (Str.ofString "divmod") _) _ _ _) _ _; exact E_bi bi_divmod (by walk_at "mem") rfl (by walk_at "L") (by walk_at "K"))
  | (show EvE _ _ _ _ (.Call (.Name (Str.ofString "str") _) _ _ _) _ _; exact E_bi bi_str (by walk_at "mem") rfl (by walk_at "L") (by walk_at "K"))
  | (show EvE _ _ _ _ (.Call (.Name (Str.ofString "pow") _) _ _ _) _ _; exact E_bi bi_pow (by walk_at "mem") rfl (by walk_at "L") (by walk_at "K"))
  | (show EvE _ _ _ _ (.Call (.Name (Str.ofString "isinstance") _) _ _ _) _ _; exact E_isint (by walk_at "mem") (by walk_at "mem") (by walk_at "E")))
local macro_rules | `(tactic| walk_at "E") => `(tactic| with_reducible first
  | assumption
  | (show EvE _ _ _ _ (.Name _ _) _ _; first | exact E_name (by walk_at "mem") | exact E_gl (by walk_at "mem") (by walk_at "G"))
  | exact E_int
  | (show EvE _ _ _ _ (.BinOp _ _ _ _) _ _; exact E_bin (by walk_at "E") (by walk_at "E") (by walk_at "B"))
  | exact E_str | exact E_bool | exact E_none
  | (show EvE _ _ _ _ (.UnaryOp _ _ _) _ _; exact E_un (by walk_at "E") (by walk_at "U"))
  | (show EvE _ _ _ _ (.Tuple _ _ _) _ _; exact E_tup (by walk_at "L"))
  | (show EvE _ _ _ _ (.Call (.Name _ _) _ _ _) _ _; first | walk_at "Ebi" | exact E_call (by walk_at "mem") (by walk_at "L") (by assumption))
  | (show EvE _ _ _ _ (.BoolOp .Or [_, _] _) _ _; exact E_orp (by walk_at "E") (by walk_at "side"))
  | (show EvE _ _ _ _ (.Call (.Attribute _ _ _) [] [] _) _ _; exact E_meth0 (by walk_at "E") (by walk_at "M0"))
  | (show EvE _ _ _ _ (.Compare _ [_] [_] _) _ _; exact E_cmp (by walk_at "E") (by walk_at "E") (by walk_at "C")))
local macro_rules | `(tactic| walk_at "T") => `(tactic| with_reducible first
  | assumption
  | (show EvT _ _ _ _ (.UnaryOp .Not _ _) _ _; exact T_not (by walk_at "T")) | (show EvT _ _ _ _ (.Compare _ [_] [_] _) _ _; exact T_cmp (by walk_at "E") (by walk_at "E") (by walk_at "C"))
  | (show EvT _ _ _ _ (.Compare _ [_, _] [_, _] _) _ _; exact T_chain (by walk_at "E") (by walk_at "E") (by walk_at "C") (fun _ => by walk_at "E") (fun _ => by walk_at "C"))
  | (show EvT _ _ _ _ (.BoolOp _ _ _) _ _; exact T_bool (by walk_at "A")) | exact T_val (by walk_at "E") (by walk_at "R"))
local macro_rules | `(tactic| walk_at "A") => `(tactic| with_reducible first
  | exact A_and0 | exact A_or0 | (show EvA _ _ _ _ .And _ _ _; exact A_and (by walk_at "T") (fun _ => by walk_at "A")) | exact A_or (by walk_at "T") (fun _ => by walk_at "A"))
local macro_rules | `(tactic| walk_at "S1") => `(tactic| with_reducible first
  | refine S_pop ?_
  | (show Exs _ _ _ _ ((.Assign [.Name _ _] _ _ :: _) :: _) _; refine S_assign (by walk_at "E") (by walk_at "upd") ?_)
  | (show Exs _ _ _ _ ((.AugAssign _ _ _ _ :: _) :: _) _; refine S_aug (by walk_at "mem") (by walk_at "E") (by walk_at "I") (by walk_at "upd") ?_)
  | (show Exs _ _ _ _ ((.Assign [.Tuple _ _ _] _ _ :: _) :: _) _; refine S_unpack (by walk_at "E") (by walk_at "names") (by walk_at "upds") ?_))
local macro_rules | `(tactic| walk_at "S") => `(tactic| repeat walk_at "S1")
local macro_rules | `(tactic| walk_at "ret") => `(tactic| (with_reducible show Exs _ _ _ _ ((.Return _ _ :: _) :: _) _; with_reducible apply S_ret'; walk_at "E"))
local macro_rules | `(tactic| walk_at "weak") => `(tactic| with_reducible first | exact Weak.nil | (apply Weak.skip; walk_at "weak") | (apply Weak.same; walk_at "weak") | (apply Weak.keep; rotate_left; walk_at "weak"))
local macro_rules | `(tactic| walk_at "end") => `(tactic| ((repeat (with_reducible refine S_pop ?_)); with_reducible apply S_end'; walk_at "weak"))
local macro_rules | `(tactic| walk_at "weak") => `(tactic| with_reducible first | exact Weak.nil | (apply Weak.skip; walk_at "weak") | (apply Weak.same; walk_at "weak") | (apply Weak.keep; rotate_left; walk_at "weak"))
local macro_rules | `(tactic| walk_at "end") => `(tactic| ((repeat (with_reducible refine S_pop ?_)); with_reducible apply S_end'; walk_at "weak"))

theorem bit1 {m : Nat} : bitAnd (m : Int) 2 = ((m / 2 % 2 * 2 : Nat) : Int) := by
  unfold bitAnd
  have h1 : decide (0 ≤ (m : Int)) = true := by simp
  have h2 : decide (0 ≤ (2 : Int)) = true := rfl
  rw [h1, h2]
  dsimp only
  rw [show (m : Int).toNat = m by simp, show (2 : Int).toNat = 2 by rfl]
  congr 1
  apply Nat.eq_of_testBit_eq
  intro i
  have key : ∀ (b : Nat) (i : Nat), (b % 2 * 2).testBit i = (decide (i = 1) && b.testBit 0) := fun b i => by
    rcases Nat.mod_two_eq_zero_or_one b with h | h <;> rw [h, Nat.testBit_zero, h]
    · simp
    · match i with
      | 0 => rfl
      | 1 => rfl
      | i + 2 => rw [Nat.testBit_succ, Nat.testBit_succ]; simp
  rw [key, Nat.testBit_and]
  match i with
  | 0 => simp [Nat.testBit_zero]
  | 1 => rw [Nat.testBit_succ, Nat.testBit_succ]; simp
  | i + 2 => rw [Nat.testBit_succ 2, Nat.testBit_succ]; simp [Nat.testBit_succ]
theorem tz_two {m : Nat} (h : m % 2 = 0) (h1 : m / 2 % 2 = 1) : tz m = 1 := by
  obtain ⟨k, rfl⟩ : ∃ k, m = 2 * k := ⟨m / 2, by omega⟩
  rw [tz_even (by omega), tz_odd (by omega)]

theorem sp_fme0 {w : World} {n e : Int} {r : Str} : FnSpec w 4 "from_man_exp" [.int n, .int e, .int 0, .str r] (pvN n e) := by
  refine fn_intro (Γ := ["isinstance", "int", "TypeError", "fzero", "trailing", "normalize"]) 84 (by kernel_rfl) (by rfl) (by kernel_rfl) ["man", "exp", "prec", "rnd"] ["sign", "bc", "t"] [.int n, .int e, .int 0, .str r] (by decide +kernel) rfl ?_ ?_
  · intro s vs ks H ra rk
    refine bindN ra rk fun vs hv => ?_
    match vs, hv with
    | [a, b, c, d], _ => exact binds_K (K := KK w) H.K rfl (by rfl) rfl rfl rfl
  intro ρ hρ; simp only [envZip_cons, envZip_nil, envZip_nil'] at hρ; subst hρ
  refine S_if (by walk_at "T") (fun h => by cases h) (fun _ => ?_)
  walk_at "S"
  refine S_join (ρ₁ := [("man", some (.int n.natAbs)), ("exp", some (.int e)), ("prec", some (.int 0)), ("rnd", some (.str r)), ("sign", some (.int (sg n))), ("bc", none), ("t", none)]) ?_ ?_
  · refine S_if (by walk_at "T") (fun h => ?_) (fun h => ?_)
    · have hn : n < 0 := by simpa using h
      walk_at "S"
      walk_at "end"
      · congr 1; omega
      · unfold sg; rw [if_pos hn]
    · have hn : ¬ n < 0 := by simpa using h
      walk_at "end"
      · congr 1; omega
      · unfold sg; rw [if_neg hn]
  refine S_assign (E_eq (by walk_at "E") (by rw [bl_abs])) (by walk_at "upd") ?_
  refine S_if (by walk_at "T") (fun h => ?_) (fun h => by simp at h)
  refine S_if (by walk_at "T") (fun h => ?_) (fun h => ?_)
  · have hz : n = 0 := by simpa using h
    subst hz
    walk_at "ret"
    simp [nrmZ_zero, nrmE, sg, bl_zero]
  have hz : n ≠ 0 := by simpa using h
  have hM : n.natAbs ≠ 0 := by omega
  walk_at "S"
  have hbl := nrm_bl hz
  have hsg := nrm_sg n
  have hab := nrm_abs hz
  have hab' : ((n.natAbs : Nat) : Int) = (nrmZ n).natAbs * 2 ^ tz n.natAbs := by exact_mod_cast hab.symm
  refine S_if (by walk_at "T") (fun h => ?_) (fun h => ?_)
  · have he : n.natAbs % 2 = 0 := by rw [bit0] at h; simp at h; omega
    refine S_if (by walk_at "T") (fun h => ?_) (fun h => ?_)
    · have h2 : n.natAbs / 2 % 2 = 1 := by rw [bit1] at h; simp at h; omega
      have ht := tz_two he h2
      rw [ht] at hbl hab'
      walk_at "ret"
      unfold pvN pvM nrmE
      rw [hsg, if_neg hz, ht]
      congr 4
      · rw [fdiv_eq, show (1 : Int).toNat = 1 by rfl]; omega
      · congr 2; omega
    · have ht := sp_trailing (w := w) hM
      have hp0 : (0 : Int) ≤ (tz n.natAbs : Nat) := by omega
      walk_at "S"
      walk_at "ret"
      unfold pvN pvM nrmE
      rw [hsg, if_neg hz]
      have hp2 := pow2_pos (tz n.natAbs)
      have e1 : ((n.natAbs : Int)).fdiv (2 ^ ((tz n.natAbs : Nat) : Int).toNat) = (nrmZ n).natAbs := by
        rw [Int.toNat_natCast, fdiv_eq]
        generalize tz n.natAbs = t at hab' hp2
        rw [hab', Int.mul_ediv_cancel _ (by omega)]
      rw [e1, show (intBits n : Int) - (tz n.natAbs : Nat) = (intBits (nrmZ n) : Nat) by omega]
  · have ho : n.natAbs % 2 = 1 := by rw [bit0] at h; simp at h; omega
    have ht := tz_odd ho
    rw [ht] at hbl hab'
    walk_at "S"
    walk_at "ret"
    unfold pvN pvM nrmE
    rw [hsg, if_neg hz, ht, show intBits (nrmZ n) = intBits n by omega, show ((nrmZ n).natAbs : Int) = n.natAbs by omega]
    simp

theorem sp_fmeP {w : World} {n e : Int} {p : Nat} (hp : 1 ≤ p) (c : Bool) : FnSpec w 4 "from_man_exp" [.int n, .int e, .int p, .str (rS c)] (pvR p c n e) := by
  refine fn_intro (Γ := ["isinstance", "int", "TypeError", "fzero", "trailing", "normalize"]) 84 (by kernel_rfl) (by rfl) (by kernel_rfl) ["man", "exp", "prec", "rnd"] ["sign", "bc", "t"] [.int n, .int e, .int p, .str (rS c)] (by decide +kernel) rfl ?_ ?_
  · intro s vs ks H ra rk
    refine bindN ra rk fun vs hv => ?_
    match vs, hv with
    | [a, b, c, d], _ => exact binds_K (K := KK w) H.K rfl (by rfl) rfl rfl rfl
  intro ρ hρ; simp only [envZip_cons, envZip_nil, envZip_nil'] at hρ; subst hρ
  refine S_if (by walk_at "T") (fun h => by cases h) (fun _ => ?_)
  walk_at "S"
  refine S_join (ρ₁ := [("man", some (.int n.natAbs)), ("exp", some (.int e)), ("prec", some (.int p)), ("rnd", some (.str (rS c))), ("sign", some (.int (sg n))), ("bc", none), ("t", none)]) ?_ ?_
  · refine S_if (by walk_at "T") (fun h => ?_) (fun h => ?_)
    · have hn : n < 0 := by simpa using h
      walk_at "S"
      walk_at "end"
      · congr 1; omega
      · unfold sg; rw [if_pos hn]
    · have hn : ¬ n < 0 := by simpa using h
      walk_at "end"
      · congr 1; omega
      · unfold sg; rw [if_neg hn]
  refine S_assign (E_eq (by walk_at "E") (by rw [bl_abs])) (by walk_at "upd") ?_
  refine S_if (by walk_at "T") (fun h => by simp at h; omega) (fun h => ?_)
  have := sp_norm (w := w) (z := n) (e := e) hp c
  walk_at "S"
  walk_at "ret"
  rfl

theorem sp_int0 {w : World} {n : Int} : FnSpec w 5 "from_int" [.int n] (pvN n 0) := by
  refine fn_intro (Γ := ["from_man_exp", "int"]) 92 (by kernel_rfl) (by rfl) (by kernel_rfl) ["n", "prec", "rnd"] [] [.int n, .int 0, .str "d"] (by decide +kernel) rfl ?_ ?_
  · intro s vs ks H ra rk
    obtain ⟨v, rfl, r⟩ := repAll1 ra
    exact ⟨[v, .int 0 348, .str (Str.ofString "d") 253], binds_K (K := KK w) H.K rfl (by rfl) rfl rfl rfl, .cons r (.cons rep_int (.cons rep_str .nil))⟩
  intro ρ hρ; simp only [envZip_cons, envZip_nil, envZip_nil'] at hρ; subst hρ
  have := sp_fme0 (w := w) (n := n) (e := 0) (r := Str.ofString "d")
  walk_at "ret"
  rfl
theorem sp_intP {w : World} {n : Int} {p : Nat} (hp : 1 ≤ p) (c : Bool) : FnSpec w 5 "from_int" [.int n, .int p, .str (rS c)] (pvR p c n 0) := by
  refine fn_intro (Γ := ["from_man_exp", "int"]) 92 (by kernel_rfl) (by rfl) (by kernel_rfl) ["n", "prec", "rnd"] [] [.int n, .int p, .str (rS c)] (by decide +kernel) rfl ?_ ?_
  · intro s vs ks H ra rk
    refine bindN ra rk fun vs hv => ?_
    match vs, hv with
    | [a, b, c], _ => exact binds_K (K := KK w) H.K rfl (by rfl) rfl rfl rfl
  intro ρ hρ; simp only [envZip_cons, envZip_nil, envZip_nil'] at hρ; subst hρ
  have := sp_fmeP (w := w) (n := n) (e := 0) hp c
  walk_at "ret"
  rfl

theorem can_exp {z e : Int} (h : Can z e) (hz : z = 0) : e = 0 := by
  rcases h with h | h
  · exact h.2
  · omega
theorem can_neg {z e : Int} (h : Can z e) : Can (-z) e := by
  rcases h with h | h
  · left; omega
  · right; omega
theorem sg_01 (z : Int) : sg z = 0 ∨ sg z = 1 := by unfold sg; split <;> simp
theorem sp_pos {w : World} {z e : Int} {p : Nat} (hc : Can z e) (hp : 1 ≤ p) (c : Bool) : FnSpec w 4 "mpf_pos" [pvM z e, .int p, .str (rS c)] (pvR p c z e) := by
  refine fn_intro (Γ := ["normalize"]) 150 (by kernel_rfl) (by rfl) (by kernel_rfl) ["s", "prec", "rnd"] ["sign", "man", "exp", "bc"] [pvM z e, .int p, .str (rS c)] (by decide +kernel) rfl ?_ ?_
  · intro s vs ks H ra rk
    refine bindN ra rk fun vs hv => ?_
    match vs, hv with
    | [a, b, c], _ => exact binds_K (K := KK w) H.K rfl (by rfl) rfl rfl rfl
  intro ρ hρ; simp only [envZip_cons, envZip_nil, envZip_nil'] at hρ; subst hρ
  refine S_if (by walk_at "T") (fun h => ?_) (fun h => by simp at h; omega)
  walk_at "S"
  refine S_if (by walk_at "T") (fun h => ?_) (fun h => ?_)
  · simp at h
    exact absurd (can_exp hc h.1) h.2
  have := sp_norm (w := w) (z := z) (e := e) hp c
  walk_at "S"
  walk_at "ret"
  rfl
theorem sp_neg3 {w : World} {z e : Int} {r : Str} (hc : Can z e) : FnSpec w 1 "mpf_neg" [pvM z e, .int 0, .str r] (pvM (-z) e) := by
  refine fn_intro (Γ := ["finf", "fninf", "normalize"]) 158 (by kernel_rfl) (by rfl) (by kernel_rfl) ["s", "prec", "rnd"] ["sign", "man", "exp", "bc"] [pvM z e, .int 0, .str r] (by decide +kernel) rfl ?_ ?_
  · intro s vs ks H ra rk
    refine bindN ra rk fun vs hv => ?_
    match vs, hv with
    | [a, b, c], _ => exact binds_K (K := KK w) H.K rfl (by rfl) rfl rfl rfl
  intro ρ hρ; simp only [envZip_cons, envZip_nil, envZip_nil'] at hρ; subst hρ
  walk_at "S"
  refine S_if (by walk_at "T") (fun h => ?_) (fun h => ?_)
  · have hz : z = 0 := by simpa using h
    have he := can_exp hc hz
    subst hz he
    refine S_if (by walk_at "T") (fun h => by simp at h) (fun h => ?_)
    walk_at "S"
    walk_at "ret"
    rfl
  have hz : z ≠ 0 := by simpa using h
  walk_at "S"
  refine S_if (by walk_at "T") (fun h => ?_) (fun h => by simp at h)
  walk_at "ret"
  unfold pvM
  rw [bl_neg, Int.natAbs_neg]
  unfold sg
  congr 3
  split <;> split <;> omega
theorem sp_neg {w : World} {z e : Int} (hc : Can z e) : FnSpec w 1 "mpf_neg" [pvM z e] (pvM (-z) e) := by
  refine fn_intro (Γ := ["finf", "fninf", "normalize"]) 158 (by kernel_rfl) (by rfl) (by kernel_rfl) ["s", "prec", "rnd"] ["sign", "man", "exp", "bc"] [pvM z e, .int 0, .str "d"] (by decide +kernel) rfl ?_ ?_
  · intro s vs ks H ra rk
    obtain ⟨v, rfl, r⟩ := repAll1 ra
    exact ⟨[v, .int 0 448, .str (Str.ofString "d") 253], binds_K (K := KK w) H.K rfl (by rfl) rfl rfl rfl, .cons r (.cons rep_int (.cons rep_str .nil))⟩
  intro ρ hρ; simp only [envZip_cons, envZip_nil, envZip_nil'] at hρ; subst hρ
  walk_at "S"
  refine S_if (by walk_at "T") (fun h => ?_) (fun h => ?_)
  · have hz : z = 0 := by simpa using h
    have he := can_exp hc hz
    subst hz he
    refine S_if (by walk_at "T") (fun h => by simp at h) (fun h => ?_)
    walk_at "S"
    walk_at "ret"
    rfl
  have hz : z ≠ 0 := by simpa using h
  walk_at "S"
  refine S_if (by walk_at "T") (fun h => ?_) (fun h => by simp at h)
  walk_at "ret"
  unfold pvM
  rw [bl_neg, Int.natAbs_neg]
  unfold sg
  congr 3
  split <;> split <;> omega

theorem sp_abs {w : World} {z e : Int} (hc : Can z e) : FnSpec w 1 "mpf_abs" [pvM z e] (pvM z.natAbs e) := by
  refine fn_intro (Γ := ["finf", "fninf", "normalize"]) 166 (by kernel_rfl) (by rfl) (by kernel_rfl) ["s", "prec", "rnd"] ["sign", "man", "exp", "bc"] [pvM z e, .int 0, .str "d"] (by decide +kernel) rfl ?_ ?_
  · intro s vs ks H ra rk
    obtain ⟨v, rfl, r⟩ := repAll1 ra
    exact ⟨[v, .int 0 _, .str (Str.ofString "d") _], binds_K (K := KK w) H.K rfl (by rfl) rfl rfl rfl, .cons r (.cons rep_int (.cons rep_str .nil))⟩
  intro ρ hρ; simp only [envZip_cons, envZip_nil, envZip_nil'] at hρ; subst hρ
  walk_at "S"
  refine S_if (by walk_at "T") (fun h => ?_) (fun h => ?_)
  · simp at h
    exact absurd (can_exp hc h.1) h.2
  walk_at "S"
  refine S_if (by walk_at "T") (fun h => ?_) (fun h => by simp at h)
  refine S_if (by walk_at "T") (fun h => ?_) (fun h => ?_)
  · walk_at "ret"
    unfold pvM sg
    rw [bl_abs, if_neg (by omega), Int.natAbs_natCast]
  · have hz : ¬ z < 0 := by unfold sg at h; simp at h; omega
    walk_at "S"
    walk_at "ret"
    rw [show ((z.natAbs : Nat) : Int) = z by omega]
end Mine
end

-- WaC
section
namespace Mine
open PySem.Builtin (bitAnd bitXor)
open PySem.Builtin.Int (intBits)
local macro_rules | `(tactic| walk_at "mem") => `(tactic| with_reducible (first | exact List.mem_cons_self | (refine List.mem_cons_of_mem _ ?_; walk_at "mem")))
local macro_rules | `(tactic| walk_at "upd") => `(tactic| with_reducible (first | exact Upd.head | (apply Upd.tail; walk_at "upd")))
local macro_rules | `(tactic| walk_at "upds") => `(tactic| first | exact Upds.nil | exact Upds.cons (by walk_at "upd") (by walk_at "upds"))
local macro_rules | `(tactic| walk_at "names") => `(tactic| first | exact Names.nil | exact Names.cons (by walk_at "names"))
local macro_rules | `(tactic| walk_at "side") => `(tactic| first | assumption | decide | omega)
local macro_rules | `(tactic| walk_at "B") => `(tactic| with_reducible first
  | exact B_add | exact B_sub | (show BinV .Mult _ _ _; exact B_mul (by walk_at "side")) | (show BinV .FloorDiv _ _ _; exact B_fdiv (by walk_at "side") (by walk_at "side")) | (show BinV .Mod _ _ _; exact B_mod (by walk_at "side"))
  | (show BinV .LShift _ _ _; exact B_shl (by walk_at "side") (by walk_at "side")) | (show BinV .RShift _ _ _; exact B_shr (by walk_at "side")) | (show BinV .Pow _ _ _; exact B_pow (by walk_at "side") (by walk_at "side"))
  | exact B_and | exact B_xor | (show BinV .Add (.str _) _ _; exact B_adds (by walk_at "side")))
local macro_rules | `(tactic| walk_at "I") => `(tactic| with_reducible first
  | exact I_add | exact I_sub | (show IBinV .LShift _ _ _; exact I_shl (by walk_at "side") (by walk_at "side")) | (show IBinV .RShift _ _ _; exact I_shr (by walk_at "side")) | exact I_xor | (show IBinV .Add (.str _) _ _; exact I_adds (by walk_at "side")))
local macro_rules | `(tactic| walk_at "C") => `(tactic| with_reducible first
  | exact C_eq | exact C_ne | exact C_lt | exact C_le | exact C_gt | exact C_ge | exact C_eqs | exact C_nes
  | (show CmpV .Eq (.tuple _) (.tuple _) _; exact C_eqd (by with_unfolding_all rfl) (by with_unfolding_all rfl) (by with_unfolding_all exact Nat.le_of_ble_eq_true rfl))
  | (show CmpV .NotEq (.tuple _) (.tuple _) _; exact C_ned (by with_unfolding_all rfl) (by with_unfolding_all rfl) (by with_unfolding_all exact Nat.le_of_ble_eq_true rfl)))
local macro_rules | `(tactic| walk_at "U") => `(tactic| with_reducible first | exact U_neg | (show UnV .Not _ _; exact U_not (by walk_at "R")))
local macro_rules | `(tactic| walk_at "R") => `(tactic| with_reducible first | exact R_int | exact R_bool | (show TruV (.str _) _; exact R_str (by walk_at "side")))
local macro_rules | `(tactic| walk_at "G") => `(tactic| with_reducible first
  | exact gl_fzero | exact gl_zero | exact gl_one | exact gl_near | exact gl_floor | exact gl_ceil | exact gl_up | exact gl_down | exact gl_fnan | exact gl_finf | exact gl_fninf | exact gl_blog | exact gl_digits)
local macro_rules | `(tactic| walk_at "L") => `(tactic| with_reducible first | exact L_nil | (show EvL _ _ _ _ (_ :: _) _ _; exact L_cons (by walk_at "E") (by walk_at "L")))
local macro_rules | `(tactic| walk_at "M0") => `(tactic| with_reducible first | exact M_bitlen | (show Meth0 _ (.str _) _; first | exact M_strip (by walk_at "side") | exact M_lower (by walk_at "side")))
local macro_rules | `(tactic| walk_at "K") => `(tactic| with_reducible first | assumption | exact K_int | exact K_abs | exact K_max | exact K_min | (show CallV (.builtin "len") _ _; exact K_len (by walk_at "side")) | (show CallV (.builtin "divmod") _ _; exact K_divmod (by walk_at "side") (by walk_at "side")))
local macro_rules | `(tactic| walk_at "Ebi") => `(tactic| with_reducible first
  | (show EvE _ _ _ _ (.Call (.Name (Str.ofString "int") _) _ _ _) _ _; exact E_bi bi_int (by walk_at "mem") rfl (by walk_at "L") (by walk_at "K"))
  | (show EvE _ _ _ _ (.Call (.Name (Str.ofString "len") _) _ _ _) _ _; exact E_bi bi_len (by walk_at "mem") rfl (by walk_at "L") (by walk_at "K"))
  | (show EvE _ _ _ _ (.Call (.Name (Str.ofString "abs") _) _ _ _) _ _; exact E_bi bi_abs (by walk_at "mem") rfl (by walk_at "L") (by walk_at "K"))
  | (show EvE _ _ _ _ (.Call (.Name (Str.ofString "max") _) _ _ _) _ _; exact E_bi bi_max (by walk_at "mem") rfl (by walk_at "L") (by walk_at "K"))
  | (show EvE _ _ _ _ (.Call (.Name (Str.ofString "min") _) _ _ _) _ _; exact E_bi bi_min (by walk_at "mem") rfl (by walk_at "L") (by walk_at "K"))
  | (show EvE _ _ _ _ (.Call (.Name (Str.ofString "divmod") _) _ _ _) _ _; exact E_bi bi_divmod (by walk_at "mem") rfl (by walk_at "L") (by walk_at "K"))
  | (show EvE _ _ _ _ (.Call (.Name (Str.ofString "str") _) _ _ _) _ _; exact E_bi bi_str (by walk_at "mem") rfl (by walk_at "L") (by walk_at "K"))
  | (show EvE _ _ _ _ (.Call (.Name (Str.ofString "pow") _) _ _ _) _ _; exact E_bi bi_pow (by walk_at "mem") rfl (by walk_at "L") (by walk_at "K"))
  | (show EvE _ _ _ _ (.Call (.Name (Str.ofString "isinstance") _) _ _ _) _ _; exact E_isint (by walk_at "mem") (by walk_at "mem") (by walk_at "E")))
local macro_rules | `(tactic| walk_at "E") => `(tactic| with_reducible first
  | assumption
  | (show EvE _ _ _ _ (.Name _ _) _ _; first | exact E_name (by walk_at "mem") | exact E_gl (by walk_at "mem") (by walk_at "G"))
  | exact E_int
  | (show EvE _ _ _ _ (.BinOp _ _ _ _) _ _; exact E_bin (by walk_at "E") (by walk_at "E") (by walk_at "B"))
  | exact E_str | exact E_bool | exact E_none
  | (show EvE _ _ _ _ (.UnaryOp _ _ _) _ _; exact E_un (by walk_at "E") (by walk_at "U"))
  | (show EvE _ _ _ _ (.Tuple _ _ _) _ _; exact E_tup (by walk_at "L"))
  | (show EvE _ _ _ _ (.Call (.Name _ _) _ _ _) _ _; first | walk_at "Ebi" | exact E_call (by walk_at "mem") (by walk_at "L") (by assumption))
  | (show EvE _ _ _ _ (.BoolOp .Or [_, _] _) _ _; exact E_orp (by walk_at "E") (by walk_at "side"))
  | (show EvE _ _ _ _ (.Call (.Attribute _ _ _) [] [] _) _ _; exact E_meth0 (by walk_at "E") (by walk_at "M0"))
  | (show EvE _ _ _ _ (.Compare _ [_] [_] _) _ _; exact E_cmp (by walk_at "E") (by walk_at "E") (by walk_at "C")))
local macro_rules | `(tactic| walk_at "T") => `(tactic| with_reducible first
  | assumption
  | (show EvT _ _ _ _ (.UnaryOp .Not _ _) _ _; exact T_not (by walk_at "T")) | (show EvT _ _ _ _ (.Compare _ [_] [_] _) _ _; exact T_cmp (by walk_at "E") (by walk_at "E") (by walk_at "C"))
  | (show EvT _ _ _ _ (.Compare _ [_, _] [_, _] _) _ _; exact T_chain (by walk_at "E") (by walk_at "E") (by walk_at "C") (fun _ => by walk_at "E") (fun _ => by walk_at "C"))
  | (show EvT _ _ _ _ (.BoolOp _ _ _) _ _; exact T_bool (by walk_at "A")) | exact T_val (by walk_at "E") (by walk_at "R"))
local macro_rules | `(tactic| walk_at "A") => `(tactic| with_reducible first
  | exact A_and0 | exact A_or0 | (show EvA _ _ _ _ .And _ _ _; exact A_and (by walk_at "T") (fun _ => by walk_at "A")) | exact A_or (by walk_at "T") (fun _ => by walk_at "A"))
local macro_rules | `(tactic| walk_at "S1") => `(tactic| with_reducible first
  | refine S_pop ?_
  | (show Exs _ _ _ _ ((.Assign [.Name _ _] _ _ :: _) :: _) _; refine S_assign (by walk_at "E") (by walk_at "upd") ?_)
  | (show Exs _ _ _ _ ((.AugAssign _ _ _ _ :: _) :: _) _; refine S_aug (by walk_at "mem") (by walk_at "E") (by walk_at "I") (by walk_at "upd") ?_)
  | (show Exs _ _ _ _ ((.Assign [.Tuple _ _ _] _ _ :: _) :: _) _; refine S_unpack (by walk_at "E") (by walk_at "names") (by walk_at "upds") ?_))
local macro_rules | `(tactic| walk_at "S") => `(tactic| repeat walk_at "S1")
local macro_rules | `(tactic| walk_at "ret") => `(tactic| (with_reducible show Exs _ _ _ _ ((.Return _ _ :: _) :: _) _; with_reducible apply S_ret'; walk_at "E"))
local macro_rules | `(tactic| walk_at "weak") => `(tactic| with_reducible first | exact Weak.nil | (apply Weak.skip; walk_at "weak") | (apply Weak.same; walk_at "weak") | (apply Weak.keep; rotate_left; walk_at "weak"))
local macro_rules | `(tactic| walk_at "end") => `(tactic| ((repeat (with_reducible refine S_pop ?_)); with_reducible apply S_end'; walk_at "weak"))
local macro_rules | `(tactic| walk_at "weak") => `(tactic| with_reducible first | exact Weak.nil | (apply Weak.skip; walk_at "weak") | (apply Weak.same; walk_at "weak") | (apply Weak.keep; rotate_left; walk_at "weak"))
local macro_rules | `(tactic| walk_at "end") => `(tactic| ((repeat (with_reducible refine S_pop ?_)); with_reducible apply S_end'; walk_at "weak"))

theorem sp_sign {w : World} {z e : Int} (hc : Can z e) : FnSpec w 1 "mpf_sign" [pvM z e] (.int (if z < 0 then -1 else if z = 0 then 0 else 1)) := by
  refine fn_intro (Γ := ["finf", "fninf"]) 173 (by kernel_rfl) (by rfl) (by kernel_rfl) ["s"] ["sign", "man", "exp", "bc"] [pvM z e] (by decide +kernel) rfl ?_ ?_
  · intro s vs ks H ra rk
    refine bindN ra rk fun vs hv => ?_
    match vs, hv with
    | [a], _ => exact BindsTo.of_eq (by rfl)
  intro ρ hρ; simp only [envZip_cons, envZip_nil, envZip_nil'] at hρ; subst hρ
  walk_at "S"
  refine S_if (by walk_at "T") (fun h => ?_) (fun h => ?_)
  · have hz : z = 0 := by simpa using h
    have he := can_exp hc hz
    subst hz he
    refine S_if (T_eq (b₂ := false) (by walk_at "T") (by decide +kernel)) (fun h => by cases h) (fun _ => ?_)
    walk_at "S"
    refine S_if (T_eq (b₂ := false) (by walk_at "T") (by decide +kernel)) (fun h => by cases h) (fun _ => ?_)
    walk_at "S"
    walk_at "ret"
    rfl
  have hz : z ≠ 0 := by simpa using h
  walk_at "S"
  by_cases hn : z < 0
  · have e1 : sg z = 1 := if_pos hn
    rw [e1]
    walk_at "ret"
    rw [if_pos hn]; rfl
  · have e1 : sg z = 0 := if_neg hn
    rw [e1]
    walk_at "ret"
    rw [if_neg hn, if_neg hz]; rfl

theorem xor_sg {z σ : Int} (hσ : σ = 0 ∨ σ = 1) (hz : z ≠ 0) : bitXor (sg z) σ = sg (if σ = 1 then -z else z) := by
  unfold sg
  rcases hσ with rfl | rfl
  · by_cases h : z < 0 <;> simp [h] <;> decide
  · by_cases h : z < 0
    · rw [if_pos h, if_pos rfl, if_neg (by omega)]; decide
    · rw [if_neg h, if_pos rfl, if_pos (by omega)]; decide

/-- the sum of sizes with signs -/
theorem sp_add {w : World} {z1 e1 z2 e2 σ : Int} {p : Nat} (h1 : Can z1 e1) (h2 : Can z2 e2) (hp : 1 ≤ p) (c : Bool) (hσ : σ = 0 ∨ σ = 1)
    (hs1 : intBits z1 ≤ 100000) (hs2 : intBits z2 ≤ 100000) (hx1 : -100000 ≤ e1 ∧ e1 ≤ 100000) (hx2 : -100000 ≤ e2 ∧ e2 ≤ 100000) (hps : p ≤ 100000)
    (hf1 : z1 ≠ 0 → z2 ≠ 0 → e1 - e2 > 100 → (intBits z1 : Int) + e1 - intBits z2 - e2 > p + 4 → intBits z1 ≤ p)
    (hf2 : z1 ≠ 0 → z2 ≠ 0 → e2 - e1 > 100 → (intBits z2 : Int) + e2 - intBits z1 - e1 > p + 4 → intBits z2 ≤ p) :
    FnSpec w 5 "mpf_add" [pvM z1 e1, pvM z2 e2, .int p, .str (rS c), .int σ] (pvX p c (val z1 e1 + val (if σ = 1 then -z2 else z2) e2)) ∧
    (σ = 0 → FnSpec w 5 "mpf_add" [pvM z1 e1, pvM z2 e2, .int p, .str (rS c)] (pvX p c (val z1 e1 + val (if σ = 1 then -z2 else z2) e2))) := by
  refine fn_intro2 (Γ := ["normalize", "mpf_neg", "fnan"]) 181 (by kernel_rfl) (by rfl) (by kernel_rfl) ["s", "t", "prec", "rnd", "_sub"] ["ssign", "sman", "sexp", "sbc", "tsign", "tman", "texp", "tbc", "offset", "delta", "man", "bc"]
    [pvM z1 e1, pvM z2 e2, .int p, .str (rS c), .int σ] (by decide +kernel) rfl ?_ ?_ ?_
  · intro s vs ks H ra rk
    refine bindN ra rk fun vs hv => ?_
    match vs, hv with
    | [a, b, c, d, e], _ => exact binds_K (K := KK w) H.K rfl (by rfl) rfl rfl rfl
  · intro hP s vs ks H ra rk
    have hl := ra.length
    match vs, hl, ra with
    | [a, b, c, d], _, ra =>
      obtain ⟨va, r1, q1, ra1, rb1⟩ := ra.uncons
      obtain ⟨vb, r2, q2, ra2, rb2⟩ := rb1.uncons
      obtain ⟨vc, r3, q3, ra3, rb3⟩ := rb2.uncons
      obtain ⟨vd, r4, q4, ra4, rb4⟩ := rb3.uncons
      cases q1; cases q2; cases q3; cases q4
      exact ⟨[a, b, c, d, .int 0 _], binds_K (K := KK w) H.K rfl (by rfl) rfl rfl rfl, .cons ra1 (.cons ra2 (.cons ra3 (.cons ra4 (.cons (by rw [hP]; exact rep_int) .nil))))⟩
  intro ρ hρ; simp only [envZip_cons, envZip_nil, envZip_nil'] at hρ; subst hρ
  walk_at "S"
  have hb1 := bl_abs z1
  have hb2 := bl_abs z2
  refine S_if (by walk_at "T") (fun h => ?_) (fun h => ?_)
  · have hz1 : z1 ≠ 0 := by simp at h; exact h.1
    have hz2 : z2 ≠ 0 := by simp at h; exact h.2
    rw [xor_sg hσ hz2]
    have hYa : z2.natAbs = (if σ = 1 then -z2 else z2).natAbs := by split <;> simp
    have hYb : intBits z2 = intBits (if σ = 1 then -z2 else z2) := by split <;> simp [bl_neg]
    have hY0 : (if σ = 1 then -z2 else z2) ≠ 0 := by split <;> omega
    rw [hYb] at hs2 hf1 hf2 hb2 ⊢
    rw [hYa] at hb2 ⊢
    have hf1' := hf1 hz1 hz2
    have hf2' := hf2 hz1 hz2
    clear hf1 hf2 hYa hYb
    generalize (if σ = 1 then -z2 else z2) = Y at hY0 hs2 hf1' hf2' hb2 ⊢
    walk_at "S"
    refine S_if (by walk_at "T") (fun h => ?_) (fun h => ?_)
    · have ho : e1 - e2 ≠ 0 := by simpa using h
      refine S_if (by walk_at "T") (fun h => ?_) (fun h => ?_)
      · have hop : 0 < e1 - e2 := by simpa using h
        by_cases hsp : e1 - e2 > 100 ∧ (intBits z1 : Int) + e1 - intBits Y - e2 > p + 4
        · -- the far one
          refine S_if (by walk_at "T") (fun h => ?_) (fun h => by simp at h; omega)
          walk_at "S"
          refine S_if (by walk_at "T") (fun h => ?_) (fun h => by simp at h; omega)
          walk_at "S"
          refine S_join (ρ₁ := [("s", none), ("t", none), ("prec", some (.int p)), ("rnd", some (.str (rS c))), ("_sub", none), ("ssign", some (.int (sg (z1 * 2 ^ (p + 4) + (if Y < 0 then -1 else 1))))), ("sman", some (.int (z1 * 2 ^ (p + 4) + (if Y < 0 then -1 else 1)).natAbs)), ("sexp", some (.int e1)), ("sbc", none), ("tsign", none), ("tman", none), ("texp", none), ("tbc", none), ("offset", some (.int (p + 4))), ("delta", none), ("man", none), ("bc", none)]) ?_ ?_
          · have hk : ((p : Int) + 4).toNat = p + 4 := by omega
            have hpw : (2 : Int) ≤ 2 ^ (p + 4) := by
              have : (2 : Nat) ^ 1 ≤ 2 ^ (p + 4) := Nat.pow_le_pow_right (by decide) (by omega)
              exact_mod_cast this
            have hq1 : (z1.natAbs : Int) * 2 ^ (p + 4) = (z1 * 2 ^ (p + 4)).natAbs := by rw [Int.natAbs_mul, Int.natAbs_pow]; simp
            have hq2 : (z1.natAbs : Int) * 2 ^ (p + 4) ≥ 2 := by
              have := Int.mul_le_mul (show (1 : Int) ≤ z1.natAbs by omega) hpw (by omega) (by omega)
              omega
            have hq3 : sg z1 = sg (z1 * 2 ^ (p + 4)) := by
              unfold sg
              by_cases hn : z1 < 0
              · rw [if_pos hn, if_pos (Int.mul_neg_of_neg_of_pos hn (by omega))]
              · rw [if_neg hn, if_neg (by have := Int.mul_nonneg (Int.not_lt.mp hn) (show (0 : Int) ≤ 2 ^ (p + 4) by omega); omega)]
            refine S_if (by walk_at "T") (fun h => ?_) (fun h => ?_)
            · have h : sg Y = sg z1 := by simpa using h
              walk_at "S"
              walk_at "end"
              · rw [hq3] at h ⊢; unfold sg at h ⊢; congr 1; split at h <;> split at h <;> (split <;> split <;> omega)
              · rw [hk]; rw [hq3] at h; unfold sg at h; rw [hq1] at hq2 ⊢; congr 1; split at h <;> split at h <;> (split <;> omega)
            · have h : sg Y ≠ sg z1 := by simpa using h
              walk_at "S"
              walk_at "end"
              · rw [hq3] at h ⊢; unfold sg at h ⊢; congr 1; split at h <;> split at h <;> (split <;> split <;> omega)
              · rw [hk]; rw [hq3] at h; unfold sg at h; rw [hq1] at hq2 ⊢; congr 1; split at h <;> split at h <;> (split <;> omega)
          have hn := sp_norm (w := w) (z := z1 * 2 ^ (p + 4) + (if Y < 0 then -1 else 1)) (e := e1 - (p + 4)) hp c
          rw [← bl_abs] at hn
          walk_at "ret"
          refine pvR_same hp ?_
          have e1' : val (z1 * 2 ^ (p + 4) + (if Y < 0 then -1 else 1)) (e1 - (p + 4)) = val z1 e1 + val (if Y < 0 then -1 else 1) (e1 - (p + 4)) := by
            rw [← val_add, val_shift]; congr 2; omega
          rw [e1']
          have hbz := bl_pos hz1
          have hone : val (if Y < 0 then -1 else 1) (e1 - (p + 4)) = if Y < 0 then -(2 : Rat) ^ (e1 - (p + 4)) else (2 : Rat) ^ (e1 - (p + 4)) := by
            split
            · rw [val_neg, val_one]
            · rw [val_one]
          have hlt1 : (2 : Rat) ^ (e1 - (p + 4)) < (2 : Rat) ^ ((intBits z1 : Int) + e1 - p - 1) := p2_lt (by omega)
          have hlt2 : val Y.natAbs e2 < (2 : Rat) ^ ((intBits z1 : Int) + e1 - p - 1) := by
            have a := val_abs_lt (e := e2) (Nat.le_refl (intBits Y))
            have b := p2_le (show (intBits Y : Int) + e2 ≤ (intBits z1 : Int) + e1 - p - 1 by omega)
            grind
          have hYv := val_abs_le Y e2
          have hp1 := p2_pos (e1 - (p + 4))
          have hp2 := p2_pos ((intBits z1 : Int) + e1 - p - 1)
          rw [hone]
          refine same_far hp hz1 (hf1' hsp.1 hsp.2) ?_ ?_ ?_ ?_ ?_
          · split <;> grind
          · split <;> grind
          · grind
          · grind
          · by_cases hn : Y < 0
            · have : val Y e2 < 0 := by rw [← val_zero e2]; exact val_lt.mpr hn
              rw [if_pos hn]; right; exact ⟨by grind, this⟩
            · have : 0 < val Y e2 := by rw [← val_zero e2]; exact val_lt.mpr (by omega)
              rw [if_neg hn]; left; exact ⟨hp1, this⟩
        · refine S_join (ρ₁ := [("s", none), ("t", none), ("prec", some (.int p)), ("rnd", some (.str (rS c))), ("_sub", none), ("ssign", some (.int (sg z1))), ("sman", some (.int z1.natAbs)), ("sexp", some (.int e1)), ("sbc", none), ("tsign", some (.int (sg Y))), ("tman", some (.int Y.natAbs)), ("texp", some (.int e2)), ("tbc", none), ("offset", some (.int (e1 - e2))), ("delta", none), ("man", none), ("bc", none)]) ?_ ?_
          · refine S_if (by walk_at "T") (fun h => ?_) (fun h => ?_)
            · walk_at "S"
              refine S_if (by walk_at "T") (fun h => by simp at h; simp_all; omega) (fun h => ?_)
              walk_at "end"
            · walk_at "end"
          have hk : ((e1 - e2).toNat : Int) = e1 - e2 := by omega
          have hM : (z1.natAbs : Int) * 2 ^ (e1 - e2).toNat = (z1 * 2 ^ (e1 - e2).toNat).natAbs := by rw [Int.natAbs_mul, Int.natAbs_pow]; simp
          have hMs : sg z1 = sg (z1 * 2 ^ (e1 - e2).toNat) := by
            have hpw := pow2_pos (e1 - e2).toNat
            unfold sg
            by_cases hn : z1 < 0
            · rw [if_pos hn, if_pos (Int.mul_neg_of_neg_of_pos hn hpw)]
            · rw [if_neg hn, if_neg (by have := Int.mul_nonneg (Int.not_lt.mp hn) (Int.le_of_lt hpw); omega)]
          have hfin : pvR p c (z1 * 2 ^ (e1 - e2).toNat + Y) e2 = pvX p c (val z1 e1 + val Y e2) := by
            rw [pvR_eq hp, ← val_add, val_shift, hk]; congr 3; omega
          generalize hMM : z1 * 2 ^ (e1 - e2).toNat = M at hM hMs hfin
          refine S_join (ρ₁ := [("s", none), ("t", none), ("prec", some (.int p)), ("rnd", some (.str (rS c))), ("_sub", none), ("ssign", some (.int (sg (M + Y)))), ("sman", none), ("sexp", none), ("sbc", none), ("tsign", none), ("tman", none), ("texp", some (.int e2)), ("tbc", none), ("offset", none), ("delta", none), ("man", some (.int (M + Y).natAbs)), ("bc", none)]) ?_ ?_
          · refine S_if (by walk_at "T") (fun h => ?_) (fun h => ?_)
            · have h : sg z1 = sg Y := by simpa using h
              walk_at "S"
              walk_at "end"
              · rw [hMs] at h ⊢; unfold sg at h ⊢; congr 1; split at h <;> split at h <;> (split <;> split <;> omega)
              · rw [hM]; rw [hMs] at h; unfold sg at h; congr 1; split at h <;> split at h <;> omega
            · have h : sg z1 ≠ sg Y := by simpa using h
              refine S_join (ρ₁ := [("s", none), ("t", none), ("prec", some (.int p)), ("rnd", some (.str (rS c))), ("_sub", none), ("ssign", none), ("sman", none), ("sexp", none), ("sbc", none), ("tsign", none), ("tman", none), ("texp", some (.int e2)), ("tbc", none), ("offset", none), ("delta", none), ("man", some (.int (M + Y))), ("bc", none)]) ?_ ?_
              · refine S_if (by walk_at "T") (fun h' => ?_) (fun h' => ?_)
                · walk_at "S"
                  walk_at "end"
                  rw [hM]; rw [hMs] at h h'; unfold sg at h h'; simp at h'; congr 1; (repeat' (split at h)) <;> omega
                · walk_at "S"
                  walk_at "end"
                  rw [hM]; rw [hMs] at h h'; unfold sg at h h'; simp at h'; congr 1; (repeat' (split at h)) <;> omega
              · refine S_if (by walk_at "T") (fun h' => ?_) (fun h' => ?_)
                · have h' : 0 ≤ M + Y := by simpa using h'
                  walk_at "S"
                  walk_at "end"
                  · unfold sg; rw [if_neg (by omega)]
                  · congr 1; omega
                · have h' : ¬ 0 ≤ M + Y := by simpa using h'
                  walk_at "S"
                  walk_at "end"
                  · unfold sg; rw [if_pos (by omega)]
                  · congr 1; omega
          have hn := sp_norm (w := w) (z := M + Y) (e := e2) hp c
          refine S_assign (E_eq (by walk_at "E") (by rw [bl_abs])) (by walk_at "upd") ?_
          walk_at "ret"
          exact hfin
      · have hop : e1 - e2 < 0 := by have : ¬ 0 < e1 - e2 := by simpa using h
                                     omega
        refine S_if (by walk_at "T") (fun h => ?_) (fun h => by simp at h; omega)
        have hmm : -(e1 - e2) = e2 - e1 := by omega
        by_cases hsp : e2 - e1 > 100 ∧ (intBits Y : Int) + e2 - intBits z1 - e1 > p + 4
        · -- the far one
          refine S_if (by walk_at "T") (fun h => ?_) (fun h => by simp at h; omega)
          walk_at "S"
          refine S_if (by walk_at "T") (fun h => ?_) (fun h => by simp at h; omega)
          walk_at "S"
          refine S_join (ρ₁ := [("s", none), ("t", none), ("prec", some (.int p)), ("rnd", some (.str (rS c))), ("_sub", none), ("ssign", none), ("sman", none), ("sexp", none), ("sbc", none), ("tsign", some (.int (sg (Y * 2 ^ (p + 4) + (if z1 < 0 then -1 else 1))))), ("tman", some (.int (Y * 2 ^ (p + 4) + (if z1 < 0 then -1 else 1)).natAbs)), ("texp", some (.int e2)), ("tbc", none), ("offset", some (.int (p + 4))), ("delta", none), ("man", none), ("bc", none)]) ?_ ?_
          · have hk : ((p : Int) + 4).toNat = p + 4 := by omega
            have hpw : (2 : Int) ≤ 2 ^ (p + 4) := by
              have : (2 : Nat) ^ 1 ≤ 2 ^ (p + 4) := Nat.pow_le_pow_right (by decide) (by omega)
              exact_mod_cast this
            have hq1 : (Y.natAbs : Int) * 2 ^ (p + 4) = (Y * 2 ^ (p + 4)).natAbs := by rw [Int.natAbs_mul, Int.natAbs_pow]; simp
            have hq2 : (Y.natAbs : Int) * 2 ^ (p + 4) ≥ 2 := by
              have := Int.mul_le_mul (show (1 : Int) ≤ Y.natAbs by omega) hpw (by omega) (by omega)
              omega
            have hq3 : sg Y = sg (Y * 2 ^ (p + 4)) := by
              unfold sg
              by_cases hn : Y < 0
              · rw [if_pos hn, if_pos (Int.mul_neg_of_neg_of_pos hn (by omega))]
              · rw [if_neg hn, if_neg (by have := Int.mul_nonneg (Int.not_lt.mp hn) (show (0 : Int) ≤ 2 ^ (p + 4) by omega); omega)]
            refine S_if (by walk_at "T") (fun h => ?_) (fun h => ?_)
            · have h : sg z1 = sg Y := by simpa using h
              walk_at "S"
              walk_at "end"
              · rw [hq3] at h ⊢; unfold sg at h ⊢; congr 1; split at h <;> split at h <;> (split <;> split <;> omega)
              · rw [hk]; rw [hq3] at h; unfold sg at h; rw [hq1] at hq2 ⊢; congr 1; split at h <;> split at h <;> (split <;> omega)
            · have h : sg z1 ≠ sg Y := by simpa using h
              walk_at "S"
              walk_at "end"
              · rw [hq3] at h ⊢; unfold sg at h ⊢; congr 1; split at h <;> split at h <;> (split <;> split <;> omega)
              · rw [hk]; rw [hq3] at h; unfold sg at h; rw [hq1] at hq2 ⊢; congr 1; split at h <;> split at h <;> (split <;> omega)
          have hn := sp_norm (w := w) (z := Y * 2 ^ (p + 4) + (if z1 < 0 then -1 else 1)) (e := e2 - (p + 4)) hp c
          rw [← bl_abs] at hn
          walk_at "ret"
          refine pvR_same hp ?_
          have e1' : val (Y * 2 ^ (p + 4) + (if z1 < 0 then -1 else 1)) (e2 - (p + 4)) = val Y e2 + val (if z1 < 0 then -1 else 1) (e2 - (p + 4)) := by
            rw [← val_add, val_shift]; congr 2; omega
          rw [e1', show val z1 e1 + val Y e2 = val Y e2 + val z1 e1 by grind]
          have hbz := bl_pos hY0
          have hone : val (if z1 < 0 then -1 else 1) (e2 - (p + 4)) = if z1 < 0 then -(2 : Rat) ^ (e2 - (p + 4)) else (2 : Rat) ^ (e2 - (p + 4)) := by
            split
            · rw [val_neg, val_one]
            · rw [val_one]
          have hlt1 : (2 : Rat) ^ (e2 - (p + 4)) < (2 : Rat) ^ ((intBits Y : Int) + e2 - p - 1) := p2_lt (by omega)
          have hlt2 : val z1.natAbs e1 < (2 : Rat) ^ ((intBits Y : Int) + e2 - p - 1) := by
            have a := val_abs_lt (e := e1) (Nat.le_refl (intBits z1))
            have b := p2_le (show (intBits z1 : Int) + e1 ≤ (intBits Y : Int) + e2 - p - 1 by omega)
            grind
          have hYv := val_abs_le z1 e1
          have hp1 := p2_pos (e2 - (p + 4))
          have hp2 := p2_pos ((intBits Y : Int) + e2 - p - 1)
          rw [hone]
          refine same_far hp hY0 (hf2' hsp.1 hsp.2) ?_ ?_ ?_ ?_ ?_
          · split <;> grind
          · split <;> grind
          · grind
          · grind
          · by_cases hn : z1 < 0
            · have : val z1 e1 < 0 := by rw [← val_zero e1]; exact val_lt.mpr hn
              rw [if_pos hn]; right; exact ⟨by grind, this⟩
            · have : 0 < val z1 e1 := by rw [← val_zero e1]; exact val_lt.mpr (by omega)
              rw [if_neg hn]; left; exact ⟨hp1, this⟩
        · refine S_join (ρ₁ := [("s", none), ("t", none), ("prec", some (.int p)), ("rnd", some (.str (rS c))), ("_sub", none), ("ssign", some (.int (sg z1))), ("sman", some (.int z1.natAbs)), ("sexp", some (.int e1)), ("sbc", none), ("tsign", some (.int (sg Y))), ("tman", some (.int Y.natAbs)), ("texp", some (.int e2)), ("tbc", none), ("offset", some (.int (e1 - e2))), ("delta", none), ("man", none), ("bc", none)]) ?_ ?_
          · refine S_if (by walk_at "T") (fun h => ?_) (fun h => ?_)
            · walk_at "S"
              refine S_if (by walk_at "T") (fun h => by simp at h; simp_all; omega) (fun h => ?_)
              walk_at "end"
            · walk_at "end"
          have hk : ((-(e1 - e2)).toNat : Int) = e2 - e1 := by omega
          have hM : (Y.natAbs : Int) * 2 ^ (-(e1 - e2)).toNat = (Y * 2 ^ (-(e1 - e2)).toNat).natAbs := by rw [Int.natAbs_mul, Int.natAbs_pow]; simp
          have hMs : sg Y = sg (Y * 2 ^ (-(e1 - e2)).toNat) := by
            have hpw := pow2_pos (-(e1 - e2)).toNat
            unfold sg
            by_cases hn : Y < 0
            · rw [if_pos hn, if_pos (Int.mul_neg_of_neg_of_pos hn hpw)]
            · rw [if_neg hn, if_neg (by have := Int.mul_nonneg (Int.not_lt.mp hn) (Int.le_of_lt hpw); omega)]
          have hfin : pvR p c (z1 + Y * 2 ^ (-(e1 - e2)).toNat) e1 = pvX p c (val z1 e1 + val Y e2) := by
            rw [pvR_eq hp, ← val_add, val_shift, hk]; congr 3; omega
          generalize hMM : Y * 2 ^ (-(e1 - e2)).toNat = M at hM hMs hfin
          refine S_join (ρ₁ := [("s", none), ("t", none), ("prec", some (.int p)), ("rnd", some (.str (rS c))), ("_sub", none), ("ssign", some (.int (sg (z1 + M)))), ("sman", none), ("sexp", some (.int e1)), ("sbc", none), ("tsign", none), ("tman", none), ("texp", none), ("tbc", none), ("offset", none), ("delta", none), ("man", some (.int (z1 + M).natAbs)), ("bc", none)]) ?_ ?_
          · refine S_if (by walk_at "T") (fun h => ?_) (fun h => ?_)
            · have h : sg z1 = sg Y := by simpa using h
              walk_at "S"
              walk_at "end"
              · rw [hMs] at h; unfold sg at h ⊢; congr 1; split at h <;> split at h <;> (split <;> split <;> omega)
              · rw [hM]; rw [hMs] at h; unfold sg at h; congr 1; split at h <;> split at h <;> omega
            · have h : sg z1 ≠ sg Y := by simpa using h
              refine S_join (ρ₁ := [("s", none), ("t", none), ("prec", some (.int p)), ("rnd", some (.str (rS c))), ("_sub", none), ("ssign", none), ("sman", none), ("sexp", some (.int e1)), ("sbc", none), ("tsign", none), ("tman", none), ("texp", none), ("tbc", none), ("offset", none), ("delta", none), ("man", some (.int (z1 + M))), ("bc", none)]) ?_ ?_
              · refine S_if (by walk_at "T") (fun h' => ?_) (fun h' => ?_)
                · walk_at "S"
                  walk_at "end"
                  rw [hM]; rw [hMs] at h h'; unfold sg at h h'; simp at h'; congr 1; (repeat' (split at h)) <;> omega
                · walk_at "S"
                  walk_at "end"
                  rw [hM]; rw [hMs] at h h'; unfold sg at h h'; simp at h'; congr 1; (repeat' (split at h)) <;> omega
              · refine S_if (by walk_at "T") (fun h' => ?_) (fun h' => ?_)
                · have h' : 0 ≤ z1 + M := by simpa using h'
                  walk_at "S"
                  walk_at "end"
                  · unfold sg; rw [if_neg (by omega)]
                  · congr 1; omega
                · have h' : ¬ 0 ≤ z1 + M := by simpa using h'
                  walk_at "S"
                  walk_at "end"
                  · unfold sg; rw [if_pos (by omega)]
                  · congr 1; omega
          have hn := sp_norm (w := w) (z := z1 + M) (e := e1) hp c
          refine S_assign (E_eq (by walk_at "E") (by rw [bl_abs])) (by walk_at "upd") ?_
          walk_at "ret"
          exact hfin
    · have ho : e1 = e2 := by have : e1 - e2 = 0 := by simpa using h
                              omega
      subst ho
      walk_at "S"
      have hfin : pvR p c (z1 + Y) e1 = pvX p c (val z1 e1 + val Y e1) := by
        rw [pvR_eq hp, ← val_add]
      refine S_join (ρ₁ := [("s", none), ("t", none), ("prec", some (.int p)), ("rnd", some (.str (rS c))), ("_sub", none), ("ssign", some (.int (sg (z1 + Y)))), ("sman", none), ("sexp", none), ("sbc", none), ("tsign", none), ("tman", none), ("texp", some (.int e1)), ("tbc", none), ("offset", none), ("delta", none), ("man", some (.int (z1 + Y).natAbs)), ("bc", none)]) ?_ ?_
      · refine S_if (by walk_at "T") (fun h => ?_) (fun h => ?_)
        · have h : sg z1 = sg Y := by simpa using h
          walk_at "S"
          walk_at "end"
          · unfold sg at h ⊢; congr 1; split at h <;> split at h <;> (split <;> split <;> omega)
          · unfold sg at h; congr 1; split at h <;> split at h <;> omega
        · have h : sg z1 ≠ sg Y := by simpa using h
          refine S_join (ρ₁ := [("s", none), ("t", none), ("prec", some (.int p)), ("rnd", some (.str (rS c))), ("_sub", none), ("ssign", none), ("sman", none), ("sexp", none), ("sbc", none), ("tsign", none), ("tman", none), ("texp", some (.int e1)), ("tbc", none), ("offset", none), ("delta", none), ("man", some (.int (z1 + Y))), ("bc", none)]) ?_ ?_
          · refine S_if (by walk_at "T") (fun h' => ?_) (fun h' => ?_)
            · walk_at "S"
              walk_at "end"
              unfold sg at h h'; simp at h'; congr 1; (repeat' (split at h)) <;> omega
            · walk_at "S"
              walk_at "end"
              unfold sg at h h'; simp at h'; congr 1; (repeat' (split at h)) <;> omega
          · refine S_if (by walk_at "T") (fun h' => ?_) (fun h' => ?_)
            · have h' : 0 ≤ z1 + Y := by simpa using h'
              walk_at "S"
              walk_at "end"
              · unfold sg; rw [if_neg (by omega)]
              · congr 1; omega
            · have h' : ¬ 0 ≤ z1 + Y := by simpa using h'
              walk_at "S"
              walk_at "end"
              · unfold sg; rw [if_pos (by omega)]
              · congr 1; omega
      have hn := sp_norm (w := w) (z := z1 + Y) (e := e1) hp c
      refine S_assign (E_eq (by walk_at "E") (by rw [bl_abs])) (by walk_at "upd") ?_
      walk_at "ret"
      exact hfin
  · walk_at "S"
    have hz : z1 = 0 ∨ z2 = 0 := by simp at h; omega
    have hneg := sp_neg (w := w) h2
    refine S_join (ρ₁ := [("s", some (pvM z1 e1)), ("t", some (pvM (if σ = 1 then -z2 else z2) e2)), ("prec", some (.int p)), ("rnd", some (.str (rS c))), ("_sub", none), ("ssign", some (.int (sg z1))), ("sman", some (.int z1.natAbs)), ("sexp", some (.int e1)), ("sbc", some (.int (intBits z1))), ("tsign", some (.int (bitXor (sg z2) σ))), ("tman", some (.int z2.natAbs)), ("texp", some (.int e2)), ("tbc", some (.int (intBits z2))), ("offset", none), ("delta", none), ("man", none), ("bc", none)]) ?_ ?_
    · refine S_if (by walk_at "T") (fun h => ?_) (fun h => ?_)
      · have hs : σ = 1 := by simp at h; omega
        walk_at "S"
        walk_at "end"
        rw [if_pos hs]
      · have hs : σ = 0 := by simpa using h
        walk_at "end"
        rw [if_neg (by omega)]
    refine S_if (by walk_at "T") (fun h => ?_) (fun h => ?_)
    · have hz1 : z1 = 0 := by simpa using h
      have he1 := can_exp h1 hz1
      subst hz1 he1
      refine S_if (by walk_at "T") (fun h => by simp at h) (fun h => ?_)
      walk_at "S"
      refine S_if (by walk_at "T") (fun h => ?_) (fun h => ?_)
      · have hz2 : z2 ≠ 0 := by simpa using h
        have hn := sp_norm (w := w) (z := if σ = 1 then -z2 else z2) (e := e2) hp c
        have ea : ((if σ = 1 then -z2 else z2).natAbs : Int) = z2.natAbs := by split <;> simp
        have eb : intBits (if σ = 1 then -z2 else z2) = intBits z2 := by split <;> simp [bl_neg]
        rw [← xor_sg hσ hz2, ea, eb] at hn
        walk_at "ret"
        rw [val_zero, Rat.zero_add]; exact pvR_eq hp c _ _
      · have hz2 : z2 = 0 := by simpa using h
        have he2 := can_exp h2 hz2
        subst hz2 he2
        walk_at "S"
        walk_at "ret"
        have : (if σ = 1 then -(0 : Int) else 0) = 0 := by split <;> rfl
        rw [this, val_zero, Rat.zero_add]
        refine (pvX_eq (.inl ⟨rfl, rfl⟩) ?_).symm
        rw [val_zero]
        exact ⟨⟨0, 0, by simp, (val_zero 0).symm⟩, by cases c <;> exact ⟨Rat.le_refl, fun u _ h => h⟩⟩
    · have hz1 : z1 ≠ 0 := by simpa using h
      have hz2 : z2 = 0 := by omega
      have he2 := can_exp h2 hz2
      subst hz2 he2
      walk_at "S"
      refine S_if (by walk_at "T") (fun h => by simp at h) (fun h => ?_)
      walk_at "S"
      refine S_if (by walk_at "T") (fun h => ?_) (fun h => by simp at h; omega)
      have hn := sp_norm (w := w) (z := z1) (e := e1) hp c
      walk_at "ret"
      have : (if σ = 1 then -(0 : Int) else 0) = 0 := by split <;> rfl
      rw [this, val_zero, Rat.add_zero]
      exact pvR_eq hp c _ _
end Mine
end

-- WaD
section
namespace Mine
open PySem.Builtin (bitAnd bitXor)
open PySem.Builtin.Int (intBits)
local macro_rules | `(tactic| walk_at "mem") => `(tactic| with_reducible (first | exact List.mem_cons_self | (refine List.mem_cons_of_mem _ ?_; walk_at "mem")))
local macro_rules | `(tactic| walk_at "upd") => `(tactic| with_reducible (first | exact Upd.head | (apply Upd.tail; walk_at "upd")))
local macro_rules | `(tactic| walk_at "upds") => `(tactic| first | exact Upds.nil | exact Upds.cons (by walk_at "upd") (by walk_at "upds"))
local macro_rules | `(tactic| walk_at "names") => `(tactic| first | exact Names.nil | exact Names.cons (by walk_at "names"))
local macro_rules | `(tactic| walk_at "side") => `(tactic| first | assumption | decide | omega)
local macro_rules | `(tactic| walk_at "B") => `(tactic| with_reducible first
  | exact B_add | exact B_sub | (show BinV .Mult _ _ _; exact B_mul (by walk_at "side")) | (show BinV .FloorDiv _ _ _; exact B_fdiv (by walk_at "side") (by walk_at "side")) | (show BinV .Mod _ _ _; exact B_mod (by walk_at "side"))
  | (show BinV .LShift _ _ _; exact B_shl (by walk_at "side") (by walk_at "side")) | (show BinV .RShift _ _ _; exact B_shr (by walk_at "side")) | (show BinV .Pow _ _ _; exact B_pow (by walk_at "side") (by walk_at "side"))
  | exact B_and | exact B_xor | (show BinV .Add (.str _) _ _; exact B_adds (by walk_at "side")))
local macro_rules | `(tactic| walk_at "I") => `(tactic| with_reducible first
  | exact I_add | exact I_sub | (show IBinV .LShift _ _ _; exact I_shl (by walk_at "side") (by walk_at "side")) | (show IBinV .RShift _ _ _; exact I_shr (by walk_at "side")) | exact I_xor | (show IBinV .Add (.str _) _ _; exact I_adds (by walk_at "side")))
local macro_rules | `(tactic| walk_at "C") => `(tactic| with_reducible first
  | exact C_eq | exact C_ne | exact C_lt | exact C_le | exact C_gt | exact C_ge | exact C_eqs | exact C_nes
  | (show CmpV .Eq (.tuple _) (.tuple _) _; exact C_eqd (by with_unfolding_all rfl) (by with_unfolding_all rfl) (by with_unfolding_all exact Nat.le_of_ble_eq_true rfl))
  | (show CmpV .NotEq (.tuple _) (.tuple _) _; exact C_ned (by with_unfolding_all rfl) (by with_unfolding_all rfl) (by with_unfolding_all exact Nat.le_of_ble_eq_true rfl)))
local macro_rules | `(tactic| walk_at "U") => `(tactic| with_reducible first | exact U_neg | (show UnV .Not _ _; exact U_not (by walk_at "R")))
local macro_rules | `(tactic| walk_at "R") => `(tactic| with_reducible first | exact R_int | exact R_bool | (show TruV (.str _) _; exact R_str (by walk_at "side")))
local macro_rules | `(tactic| walk_at "G") => `(tactic| with_reducible first
  | exact gl_fzero | exact gl_zero | exact gl_one | exact gl_near | exact gl_floor | exact gl_ceil | exact gl_up | exact gl_down | exact gl_fnan | exact gl_finf | exact gl_fninf | exact gl_blog | exact gl_digits)
local macro_rules | `(tactic| walk_at "L") => `(tactic| with_reducible first | exact L_nil | (show EvL _ _ _ _ (_ :: _) _ _; exact L_cons (by walk_at "E") (by walk_at "L")))
local macro_rules | `(tactic| walk_at "M0") => `(tactic| with_reducible first | exact M_bitlen | (show Meth0 _ (.str _) _; first | exact M_strip (by walk_at "side") | exact M_lower (by walk_at "side")))
local macro_rules | `(tactic| walk_at "K") => `(tactic| with_reducible first | assumption | exact K_int | exact K_abs | exact K_max | exact K_min | (show CallV (.builtin "len") _ _; exact K_len (by walk_at "side")) | (show CallV (.builtin "divmod") _ _; exact K_divmod (by walk_at "side") (by walk_at "side")))
local macro_rules | `(tactic| walk_at "Ebi") => `(tactic| with_reducible first
  | (show EvE _ _ _ _ (.Call (.Name (Str.ofString "int") _) _ _ _) _ _; exact E_bi bi_int (by walk_at "mem") rfl (by walk_at "L") (by walk_at "K"))
  | (show EvE _ _ _ _ (.Call (.Name (Str.ofString "len") _) _ _ _) _ _; exact E_bi bi_len (by walk_at "mem") rfl (by walk_at "L") (by walk_at "K"))
  | (show EvE _ _ _ _ (.Call (.Name (Str.ofString "abs") _) _ _ _) _ _; exact E_bi bi_abs (by walk_at "mem") rfl (by walk_at "L") (by walk_at "K"))
  | (show EvE _ _ _ _ (.Call (.Name (Str.ofString "max") _) _ _ _) _ _; exact E_bi bi_max (by walk_at "mem") rfl (by walk_at "L") (by walk_at "K"))
  | (show EvE _ _ _ _ (.Call (.Name (Str.ofString "min") _) _ _ _) _ _; exact E_bi bi_min (by walk_at "mem") rfl (by walk_at "L") (by walk_at "K"))
  | (show EvE _ _ _ _ (.Call (.Name (Str.ofString "divmod") _) _ _ _) _ _; exact E_bi bi_divmod (by walk_at "mem") rfl (by walk_at "L") (by walk_at "K"))
  | (show EvE _ _ _ _ (.Call (.Name (Str.ofString "str") _) _ _ _) _ _; exact E_bi bi_str (by walk_at "mem") rfl (by walk_at "L") (by walk_at "K"))
  | (show EvE _ _ _ _ (.Call (.Name (Str.ofString "pow") _) _ _ _) _ _; exact E_bi bi_pow (by walk_at "mem") rfl (by walk_at "L") (by walk_at "K"))
  | (show EvE _ _ _ _ (.Call (.Name (Str.ofString "isinstance") _) _ _ _) _ _; exact E_isint (by walk_at "mem") (by walk_at "mem") (by walk_at "E")))
local macro_rules | `(tactic| walk_at "E") => `(tactic| with_reducible first
  | assumption
  | (show EvE _ _ _ _ (.Name _ _) _ _; first | exact E_name (by walk_at "mem") | exact E_gl (by walk_at "mem") (by walk_at "G"))
  | exact E_int
  | (show EvE _ _ _ _ (.BinOp _ _ _ _) _ _; exact E_bin (by walk_at "E") (by walk_at "E") (by walk_at "B"))
  | exact E_str | exact E_bool | exact E_none
  | (show EvE _ _ _ _ (.UnaryOp _ _ _) _ _; exact E_un (by walk_at "E") (by walk_at "U"))
  | (show EvE _ _ _ _ (.Tuple _ _ _) _ _; exact E_tup (by walk_at "L"))
  | (show EvE _ _ _ _ (.Call (.Name _ _) _ _ _) _ _; first | walk_at "Ebi" | exact E_call (by walk_at "mem") (by walk_at "L") (by assumption))
  | (show EvE _ _ _ _ (.BoolOp .Or [_, _] _) _ _; exact E_orp (by walk_at "E") (by walk_at "side"))
  | (show EvE _ _ _ _ (.Call (.Attribute _ _ _) [] [] _) _ _; exact E_meth0 (by walk_at "E") (by walk_at "M0"))
  | (show EvE _ _ _ _ (.Compare _ [_] [_] _) _ _; exact E_cmp (by walk_at "E") (by walk_at "E") (by walk_at "C")))
local macro_rules | `(tactic| walk_at "T") => `(tactic| with_reducible first
  | assumption
  | (show EvT _ _ _ _ (.UnaryOp .Not _ _) _ _; exact T_not (by walk_at "T")) | (show EvT _ _ _ _ (.Compare _ [_] [_] _) _ _; exact T_cmp (by walk_at "E") (by walk_at "E") (by walk_at "C"))
  | (show EvT _ _ _ _ (.Compare _ [_, _] [_, _] _) _ _; exact T_chain (by walk_at "E") (by walk_at "E") (by walk_at "C") (fun _ => by walk_at "E") (fun _ => by walk_at "C"))
  | (show EvT _ _ _ _ (.BoolOp _ _ _) _ _; exact T_bool (by walk_at "A")) | exact T_val (by walk_at "E") (by walk_at "R"))
local macro_rules | `(tactic| walk_at "A") => `(tactic| with_reducible first
  | exact A_and0 | exact A_or0 | (show EvA _ _ _ _ .And _ _ _; exact A_and (by walk_at "T") (fun _ => by walk_at "A")) | exact A_or (by walk_at "T") (fun _ => by walk_at "A"))
local macro_rules | `(tactic| walk_at "S1") => `(tactic| with_reducible first
  | refine S_pop ?_
  | (show Exs _ _ _ _ ((.Assign [.Name _ _] _ _ :: _) :: _) _; refine S_assign (by walk_at "E") (by walk_at "upd") ?_)
  | (show Exs _ _ _ _ ((.AugAssign _ _ _ _ :: _) :: _) _; refine S_aug (by walk_at "mem") (by walk_at "E") (by walk_at "I") (by walk_at "upd") ?_)
  | (show Exs _ _ _ _ ((.Assign [.Tuple _ _ _] _ _ :: _) :: _) _; refine S_unpack (by walk_at "E") (by walk_at "names") (by walk_at "upds") ?_))
local macro_rules | `(tactic| walk_at "S") => `(tactic| repeat walk_at "S1")
local macro_rules | `(tactic| walk_at "ret") => `(tactic| (with_reducible show Exs _ _ _ _ ((.Return _ _ :: _) :: _) _; with_reducible apply S_ret'; walk_at "E"))
local macro_rules | `(tactic| walk_at "weak") => `(tactic| with_reducible first | exact Weak.nil | (apply Weak.skip; walk_at "weak") | (apply Weak.same; walk_at "weak") | (apply Weak.keep; rotate_left; walk_at "weak"))
local macro_rules | `(tactic| walk_at "end") => `(tactic| ((repeat (with_reducible refine S_pop ?_)); with_reducible apply S_end'; walk_at "weak"))
local macro_rules | `(tactic| walk_at "weak") => `(tactic| with_reducible first | exact Weak.nil | (apply Weak.skip; walk_at "weak") | (apply Weak.same; walk_at "weak") | (apply Weak.keep; rotate_left; walk_at "weak"))
local macro_rules | `(tactic| walk_at "end") => `(tactic| ((repeat (with_reducible refine S_pop ?_)); with_reducible apply S_end'; walk_at "weak"))

theorem sp_sub {w : World} {z1 e1 z2 e2 : Int} {p : Nat} (h1 : Can z1 e1) (h2 : Can z2 e2) (hp : 1 ≤ p) (c : Bool)
    (hs1 : intBits z1 ≤ 100000) (hs2 : intBits z2 ≤ 100000) (hx1 : -100000 ≤ e1 ∧ e1 ≤ 100000) (hx2 : -100000 ≤ e2 ∧ e2 ≤ 100000) (hps : p ≤ 100000)
    (hf1 : z1 ≠ 0 → z2 ≠ 0 → e1 - e2 > 100 → (intBits z1 : Int) + e1 - intBits z2 - e2 > p + 4 → intBits z1 ≤ p)
    (hf2 : z1 ≠ 0 → z2 ≠ 0 → e2 - e1 > 100 → (intBits z2 : Int) + e2 - intBits z1 - e1 > p + 4 → intBits z2 ≤ p) :
    FnSpec w 6 "mpf_sub" [pvM z1 e1, pvM z2 e2, .int p, .str (rS c)] (pvX p c (val z1 e1 - val z2 e2)) := by
  refine fn_intro (Γ := ["mpf_add"]) 189 (by kernel_rfl) (by rfl) (by kernel_rfl) ["s", "t", "prec", "rnd"] [] [pvM z1 e1, pvM z2 e2, .int p, .str (rS c)] (by decide +kernel) rfl ?_ ?_
  · intro s vs ks H ra rk
    refine bindN ra rk fun vs hv => ?_
    match vs, hv with
    | [a, b, c, d], _ => exact binds_K (K := KK w) H.K rfl (by rfl) rfl rfl rfl
  intro ρ hρ; simp only [envZip_cons, envZip_nil, envZip_nil'] at hρ; subst hρ
  have F := (sp_add (w := w) (σ := 1) h1 h2 hp c (.inr rfl) hs1 hs2 hx1 hx2 hps hf1 hf2).1
  walk_at "ret"
  rw [if_pos rfl, val_neg, Rat.sub_eq_add_neg]

theorem xor_mul {z1 z2 : Int} (h1 : z1 ≠ 0) (h2 : z2 ≠ 0) : bitXor (sg z1) (sg z2) = sg (z1 * z2) := by
  unfold sg
  by_cases a : z1 < 0
  · by_cases b : z2 < 0
    · rw [if_pos a, if_pos b, if_neg (by have := Int.mul_pos_of_neg_of_neg a b; omega)]; decide
    · rw [if_pos a, if_neg b, if_pos (Int.mul_neg_of_neg_of_pos a (by omega))]; decide
  · by_cases b : z2 < 0
    · rw [if_neg a, if_pos b, if_pos (Int.mul_neg_of_pos_of_neg (by omega) b)]; decide
    · rw [if_neg a, if_neg b, if_neg (by have := Int.mul_pos (show 0 < z1 by omega) (show 0 < z2 by omega); omega)]; decide

theorem pvX_zero {p : Nat} {c : Bool} : pvX p c 0 = pvM 0 0 := by
  refine pvX_eq (.inl ⟨rfl, rfl⟩) ?_
  rw [val_zero]
  exact ⟨⟨0, 0, by simp, (val_zero 0).symm⟩, by cases c <;> exact ⟨Rat.le_refl, fun u _ h => h⟩⟩

theorem sp_mul {w : World} {z1 e1 z2 e2 : Int} {p : Nat} (h1 : Can z1 e1) (h2 : Can z2 e2) (hp : 1 ≤ p) (c : Bool) (hs1 : intBits z1 ≤ 100000) (hs2 : intBits z2 ≤ 100000) :
    FnSpec w 4 "mpf_mul" [pvM z1 e1, pvM z2 e2, .int p, .str (rS c)] (pvX p c (val z1 e1 * val z2 e2)) := by
  refine fn_intro (Γ := ["normalize", "fzero", "fnan", "finf", "fninf", "mpf_sign"]) 197 (by kernel_rfl) (by rfl) (by kernel_rfl) ["s", "t", "prec", "rnd"] ["ssign", "sman", "sexp", "sbc", "tsign", "tman", "texp", "tbc", "sign", "man", "bc", "s_special", "t_special"]
    [pvM z1 e1, pvM z2 e2, .int p, .str (rS c)] (by decide +kernel) rfl ?_ ?_
  · intro s vs ks H ra rk
    refine bindN ra rk fun vs hv => ?_
    match vs, hv with
    | [a, b, c, d], _ => exact binds_K (K := KK w) H.K rfl (by rfl) rfl rfl rfl
  intro ρ hρ; simp only [envZip_cons, envZip_nil, envZip_nil'] at hρ; subst hρ
  have hm : IntMulOk (z1.natAbs : Int) (z2.natAbs : Int) := IntMulOk.of_le (m := 100000) (n := 100000) (by rw [bl_abs]; exact hs1) (by rw [bl_abs]; exact hs2) (by decide)
  walk_at "S"
  have ha : (z1.natAbs : Int) * z2.natAbs = (z1 * z2).natAbs := by rw [Int.natAbs_mul]; simp
  rw [ha]
  refine S_if (by walk_at "T") (fun h => ?_) (fun h => ?_)
  · have hz : z1 * z2 ≠ 0 := by simp at h ⊢; exact h
    have hz1 : z1 ≠ 0 := fun h => hz (by rw [h]; simp)
    have hz2 : z2 ≠ 0 := fun h => hz (by rw [h]; simp)
    rw [xor_mul hz1 hz2]
    refine S_assign (E_eq (by walk_at "E") (by rw [bl_abs])) (by walk_at "upd") ?_
    refine S_if (by walk_at "T") (fun h => ?_) (fun h => by simp at h; omega)
    have hn := sp_norm (w := w) (z := z1 * z2) (e := e1 + e2) hp c
    walk_at "ret"
    rw [val_mul]; exact pvR_eq hp c _ _
  · have hz : z1 * z2 = 0 := by simp at h ⊢; exact h
    have hsp : ∀ {z e : Int}, Can z e → ∃ d b, TruV d b ∧ b = false ∧ (((!((z.natAbs : Int) != 0)) = true → d = .int e) ∧ ((!((z.natAbs : Int) != 0)) = false → d = .bool (!((z.natAbs : Int) != 0)))) := fun {z e} hc => by
      by_cases h0 : z = 0
      · have := can_exp hc h0
        subst h0 this
        exact ⟨.int 0, _, R_int, rfl, fun _ => rfl, fun h => by simp at h⟩
      · exact ⟨.bool false, _, R_bool, rfl, fun h => by simp at h; omega, fun h => by rw [h]⟩
    obtain ⟨d1, b1, t1, rfl, k1, k1'⟩ := hsp h1
    obtain ⟨d2, b2, t2, rfl, k2, k2'⟩ := hsp h2
    walk_at "S"
    refine S_assign (d := d1) (E_and2 (by walk_at "E") R_bool (fun h => by rw [k1 h]; walk_at "E") k1') (by walk_at "upd") ?_
    refine S_assign (d := d2) (E_and2 (by walk_at "E") R_bool (fun h => by rw [k2 h]; walk_at "E") k2') (by walk_at "upd") ?_
    refine S_if (T_bool (A_and (T_not (T_val (by walk_at "E") t1)) (fun _ => A_and (T_not (T_val (by walk_at "E") t2)) (fun _ => A_and0)))) (fun h => ?_) (fun h => by simp at h)
    walk_at "ret"
    rw [val_mul, hz, val_zero, pvX_zero]
    rfl
end Mine
end

-- WaE
section
set_option exponentiation.threshold 100000
namespace Mine
open PySem.Builtin (bitAnd bitXor)
open PySem.Builtin.Int (intBits)
local macro_rules | `(tactic| walk_at "mem") => `(tactic| with_reducible (first | exact List.mem_cons_self | (refine List.mem_cons_of_mem _ ?_; walk_at "mem")))
local macro_rules | `(tactic| walk_at "upd") => `(tactic| with_reducible (first | exact Upd.head | (apply Upd.tail; walk_at "upd")))
local macro_rules | `(tactic| walk_at "upds") => `(tactic| first | exact Upds.nil | exact Upds.cons (by walk_at "upd") (by walk_at "upds"))
local macro_rules | `(tactic| walk_at "names") => `(tactic| first | exact Names.nil | exact Names.cons (by walk_at "names"))
local macro_rules | `(tactic| walk_at "side") => `(tactic| first | assumption | decide | omega)
local macro_rules | `(tactic| walk_at "B") => `(tactic| with_reducible first
  | exact B_add | exact B_sub | (show BinV .Mult _ _ _; exact B_mul (by walk_at "side")) | (show BinV .FloorDiv _ _ _; exact B_fdiv (by walk_at "side") (by walk_at "side")) | (show BinV .Mod _ _ _; exact B_mod (by walk_at "side"))
  | (show BinV .LShift _ _ _; exact B_shl (by walk_at "side") (by walk_at "side")) | (show BinV .RShift _ _ _; exact B_shr (by walk_at "side")) | (show BinV .Pow _ _ _; exact B_pow (by walk_at "side") (by walk_at "side"))
  | exact B_and | exact B_xor | (show BinV .Add (.str _) _ _; exact B_adds (by walk_at "side")))
local macro_rules | `(tactic| walk_at "I") => `(tactic| with_reducible first
  | exact I_add | exact I_sub | (show IBinV .LShift _ _ _; exact I_shl (by walk_at "side") (by walk_at "side")) | (show IBinV .RShift _ _ _; exact I_shr (by walk_at "side")) | exact I_xor | (show IBinV .Add (.str _) _ _; exact I_adds (by walk_at "side")))
local macro_rules | `(tactic| walk_at "C") => `(tactic| with_reducible first
  | exact C_eq | exact C_ne | exact C_lt | exact C_le | exact C_gt | exact C_ge | exact C_eqs | exact C_nes
  | (show CmpV .Eq (.tuple _) (.tuple _) _; exact C_eqd (by with_unfolding_all rfl) (by with_unfolding_all rfl) (by with_unfolding_all exact Nat.le_of_ble_eq_true rfl))
  | (show CmpV .NotEq (.tuple _) (.tuple _) _; exact C_ned (by with_unfolding_all rfl) (by with_unfolding_all rfl) (by with_unfolding_all exact Nat.le_of_ble_eq_true rfl)))
local macro_rules | `(tactic| walk_at "U") => `(tactic| with_reducible first | exact U_neg | (show UnV .Not _ _; exact U_not (by walk_at "R")))
local macro_rules | `(tactic| walk_at "R") => `(tactic| with_reducible first | exact R_int | exact R_bool | (show TruV (.str _) _; exact R_str (by walk_at "side")))
local macro_rules | `(tactic| walk_at "G") => `(tactic| with_reducible first
  | exact gl_fzero | exact gl_zero | exact gl_one | exact gl_near | exact gl_floor | exact gl_ceil | exact gl_up | exact gl_down | exact gl_fnan | exact gl_finf | exact gl_fninf | exact gl_blog | exact gl_digits)
local macro_rules | `(tactic| walk_at "L") => `(tactic| with_reducible first | exact L_nil | (show EvL _ _ _ _ (_ :: _) _ _; exact L_cons (by walk_at "E") (by walk_at "L")))
local macro_rules | `(tactic| walk_at "M0") => `(tactic| with_reducible first | exact M_bitlen | (show Meth0 _ (.str _) _; first | exact M_strip (by walk_at "side") | exact M_lower (by walk_at "side")))
local macro_rules | `(tactic| walk_at "K") => `(tactic| with_reducible first | assumption | exact K_int | exact K_abs | exact K_max | exact K_min | (show CallV (.builtin "len") _ _; exact K_len (by walk_at "side")) | (show CallV (.builtin "divmod") _ _; exact K_divmod (by walk_at "side") (by walk_at "side")))
local macro_rules | `(tactic| walk_at "Ebi") => `(tactic| with_reducible first
  | (show EvE _ _ _ _ (.Call (.Name (Str.ofString "int") _) _ _ _) _ _; exact E_bi bi_int (by walk_at "mem") rfl (by walk_at "L") (by walk_at "K"))
  | (show EvE _ _ _ _ (.Call (.Name (Str.ofString "len") _) _ _ _) _ _; exact E_bi bi_len (by walk_at "mem") rfl (by walk_at "L") (by walk_at "K"))
  | (show EvE _ _ _ _ (.Call (.Name (Str.ofString "abs") _) _ _ _) _ _; exact E_bi bi_abs (by walk_at "mem") rfl (by walk_at "L") (by walk_at "K"))
  | (show EvE _ _ _ _ (.Call (.Name (Str.ofString "max") _) _ _ _) _ _; exact E_bi bi_max (by walk_at "mem") rfl (by walk_at "L") (by walk_at "K"))
  | (show EvE _ _ _ _ (.Call (.Name (Str.ofString "min") _) _ _ _) _ _; exact E_bi bi_min (by walk_at "mem") rfl (by walk_at "L") (by walk_at "K"))
  | (show EvE _ _ _ _ (.Call (.Name (Str.ofString "divmod") _) _ _ _) _ _; exact E_bi bi_divmod (by walk_at "mem") rfl (by walk_at "L") (by walk_at "K"))
  | (show EvE _ _ _ _ (.Call (.Name (Str.ofString "str") _) _ _ _) _ _; exact E_bi bi_str (by walk_at "mem") rfl (by walk_at "L") (by walk_at "K"))
  | (show EvE _ _ _ _ (.Call (.Name (Str.ofString "pow") _) _ _ _) _ _; exact E_bi bi_pow (by walk_at "mem") rfl (by walk_at "L") (by walk_at "K"))
  | (show EvE _ _ _ _ (.Call (.Name (Str.ofString "isinstance") _) _ _ _) _ _; exact E_isint (by walk_at "mem") (by walk_at "mem") (by walk_at "E")))
local macro_rules | `(tactic| walk_at "E") => `(tactic| with_reducible first
  | assumption
  | (show EvE _ _ _ _ (.Name _ _) _ _; first | exact E_name (by walk_at "mem") | exact E_gl (by walk_at "mem") (by walk_at "G"))
  | exact E_int
  | (show EvE _ _ _ _ (.BinOp _ _ _ _) _ _; exact E_bin (by walk_at "E") (by walk_at "E") (by walk_at "B"))
  | exact E_str | exact E_bool | exact E_none
  | (show EvE _ _ _ _ (.UnaryOp _ _ _) _ _; exact E_un (by walk_at "E") (by walk_at "U"))
  | (show EvE _ _ _ _ (.Tuple _ _ _) _ _; exact E_tup (by walk_at "L"))
  | (show EvE _ _ _ _ (.Call (.Name _ _) _ _ _) _ _; first | walk_at "Ebi" | exact E_call (by walk_at "mem") (by walk_at "L") (by assumption))
  | (show EvE _ _ _ _ (.BoolOp .Or [_, _] _) _ _; exact E_orp (by walk_at "E") (by walk_at "side"))
  | (show EvE _ _ _ _ (.Call (.Attribute _ _ _) [] [] _) _ _; exact E_meth0 (by walk_at "E") (by walk_at "M0"))
  | (show EvE _ _ _ _ (.Compare _ [_] [_] _) _ _; exact E_cmp (by walk_at "E") (by walk_at "E") (by walk_at "C")))
local macro_rules | `(tactic| walk_at "T") => `(tactic| with_reducible first
  | assumption
  | (show EvT _ _ _ _ (.UnaryOp .Not _ _) _ _; exact T_not (by walk_at "T")) | (show EvT _ _ _ _ (.Compare _ [_] [_] _) _ _; exact T_cmp (by walk_at "E") (by walk_at "E") (by walk_at "C"))
  | (show EvT _ _ _ _ (.Compare _ [_, _] [_, _] _) _ _; exact T_chain (by walk_at "E") (by walk_at "E") (by walk_at "C") (fun _ => by walk_at "E") (fun _ => by walk_at "C"))
  | (show EvT _ _ _ _ (.BoolOp _ _ _) _ _; exact T_bool (by walk_at "A")) | exact T_val (by walk_at "E") (by walk_at "R"))
local macro_rules | `(tactic| walk_at "A") => `(tactic| with_reducible first
  | exact A_and0 | exact A_or0 | (show EvA _ _ _ _ .And _ _ _; exact A_and (by walk_at "T") (fun _ => by walk_at "A")) | exact A_or (by walk_at "T") (fun _ => by walk_at "A"))
local macro_rules | `(tactic| walk_at "S1") => `(tactic| with_reducible first
  | refine S_pop ?_
  | (show Exs _ _ _ _ ((.Assign [.Name _ _] _ _ :: _) :: _) _; refine S_assign (by walk_at "E") (by walk_at "upd") ?_)
  | (show Exs _ _ _ _ ((.AugAssign _ _ _ _ :: _) :: _) _; refine S_aug (by walk_at "mem") (by walk_at "E") (by walk_at "I") (by walk_at "upd") ?_)
  | (show Exs _ _ _ _ ((.Assign [.Tuple _ _ _] _ _ :: _) :: _) _; refine S_unpack (by walk_at "E") (by walk_at "names") (by walk_at "upds") ?_))
local macro_rules | `(tactic| walk_at "S") => `(tactic| repeat walk_at "S1")
local macro_rules | `(tactic| walk_at "ret") => `(tactic| (with_reducible show Exs _ _ _ _ ((.Return _ _ :: _) :: _) _; with_reducible apply S_ret'; walk_at "E"))
local macro_rules | `(tactic| walk_at "weak") => `(tactic| with_reducible first | exact Weak.nil | (apply Weak.skip; walk_at "weak") | (apply Weak.same; walk_at "weak") | (apply Weak.keep; rotate_left; walk_at "weak"))
local macro_rules | `(tactic| walk_at "end") => `(tactic| ((repeat (with_reducible refine S_pop ?_)); with_reducible apply S_end'; walk_at "weak"))
local macro_rules | `(tactic| walk_at "weak") => `(tactic| with_reducible first | exact Weak.nil | (apply Weak.skip; walk_at "weak") | (apply Weak.same; walk_at "weak") | (apply Weak.keep; rotate_left; walk_at "weak"))
local macro_rules | `(tactic| walk_at "end") => `(tactic| ((repeat (with_reducible refine S_pop ?_)); with_reducible apply S_end'; walk_at "weak"))

theorem log2_lt {x : Int} {k : Nat} (h : intBits x ≤ k) (hk : k < 9000) : x.natAbs.log2 < 9000 := by
  by_cases h0 : x.natAbs = 0
  · rw [h0]; decide
  · have h1 := bl_le.mp h
    have := (Nat.log2_lt h0).mpr h1
    omega
/-- the sign of a product times a size -/
theorem sgmul {S q : Int} (hq : 0 < q) : sg (if S < 0 then -q else q) = sg S ∧ (if S < 0 then -q else q).natAbs = q.natAbs := by
  unfold sg
  split <;> (refine ⟨by split <;> omega, by omega⟩)

theorem sp_div {w : World} {z1 e1 z2 e2 : Int} {p : Nat} (h1 : Can z1 e1) (h2 : Can z2 e2) (hp : 1 ≤ p) (c : Bool) (hz2 : z2 ≠ 0) (hs1 : intBits z1 ≤ 8000) (hs2 : intBits z2 ≤ 8000) (hps : p ≤ 8000) :
    FnSpec w 4 "mpf_div" [pvM z1 e1, pvM z2 e2, .int p, .str (rS c)] (pvX p c (val z1 e1 / val z2 e2)) := by
  refine fn_intro (Γ := ["fzero", "ZeroDivisionError", "fnan", "finf", "fninf", "mpf_sign", "normalize", "max", "divmod"]) 205 (by kernel_rfl) (by rfl) (by kernel_rfl) ["s", "t", "prec", "rnd"] ["ssign", "sman", "sexp", "sbc", "tsign", "tman", "texp", "tbc", "s_special", "t_special", "sign", "extra", "quot", "rem", "bc"]
    [pvM z1 e1, pvM z2 e2, .int p, .str (rS c)] (by decide +kernel) rfl ?_ ?_
  · intro s vs ks H ra rk
    refine bindN ra rk fun vs hv => ?_
    match vs, hv with
    | [a, b, c, d], _ => exact binds_K (K := KK w) H.K rfl (by rfl) rfl rfl rfl
  intro ρ hρ; simp only [envZip_cons, envZip_nil, envZip_nil'] at hρ; subst hρ
  walk_at "S"
  refine S_if (by walk_at "T") (fun h => ?_) (fun h => ?_)
  · have hz1 : z1 = 0 := by simp at h; omega
    have he1 := can_exp h1 hz1
    subst hz1 he1
    refine S_if (T_eq (b₂ := true) (by walk_at "T") (by decide +kernel)) (fun _ => ?_) (fun h => by cases h)
    have q1 : PyData.eqv (pvM z2 e2) (.tuple [.int 0, .int 0, .int 0, .int 0]) = false := by
      simp only [PyData.eqv, PyData.eqvAll]
      have : ((z2.natAbs : Int) == 0) = false := by simpa using hz2
      rw [this]; simp
    have q2 : PyData.eqv (pvM z2 e2) (.tuple [.int 0, .int 0, .int (-123), .int (-1)]) = false := by
      simp only [PyData.eqv, PyData.eqvAll]
      have : ((z2.natAbs : Int) == 0) = false := by simpa using hz2
      rw [this]; simp
    refine S_if (T_eq (b₂ := false) (by walk_at "T") q1) (fun h => by cases h) (fun _ => ?_)
    walk_at "S"
    refine S_if (T_eq (b₂ := false) (by walk_at "T") q2) (fun h => by cases h) (fun _ => ?_)
    walk_at "S"
    walk_at "ret"
    rw [val_zero, Rat.div_def, Rat.zero_mul, pvX_zero]
    rfl
  have hz1 : z1 ≠ 0 := by simp at h; omega
  walk_at "S"
  rw [xor_mul hz1 hz2]
  have hb1 := bl_abs z1
  have hb2 := bl_abs z2
  have hY := div_sign (e1 := e1) (e2 := e2) hz1 hz2
  generalize hSS : z1 * z2 = S at hY ⊢
  have hS0 : S ≠ 0 := by rw [← hSS]; intro h; rcases Int.mul_eq_zero.mp h with h | h <;> omega
  have hN : val z2.natAbs e2 ≠ 0 := val_ne (by omega)
  refine S_if (by walk_at "T") (fun h => ?_) (fun h => ?_)
  · have ht : (z2.natAbs : Int) = 1 := by simpa using h
    obtain ⟨g1, g2⟩ := sgmul (S := S) (q := z1.natAbs) (by omega)
    have hn := sp_norm (w := w) (z := if S < 0 then -(z1.natAbs : Int) else z1.natAbs) (e := e1 - e2) hp c
    have hb : intBits (if S < 0 then -(z1.natAbs : Int) else z1.natAbs) = intBits z1 := by split <;> simp [bl_neg, bl_abs]
    rw [g1, g2, Int.natAbs_natCast, hb] at hn
    walk_at "ret"
    rw [pvR_eq hp, hY, ht]
    have hd : val z1.natAbs (e1 - e2) = val z1.natAbs e1 / val 1 e2 := by
      have := div_exact (a := z1.natAbs) (d := 1) (e1 := e1) (e2 := e2) (x := 0) (by decide) (by simp)
      simpa using this
    rw [← hd]
    split
    · rw [val_neg]
    · rfl
  have ht : (z2.natAbs : Int) ≠ 1 := by simpa using h
  walk_at "S"
  refine S_if (by walk_at "T") (fun h => by simp at h; omega) (fun h => ?_)
  have hl1 := bl_pos hz1
  have hl2 := bl_pos hz2
  walk_at "S"
  refine S_join (ρ₁ := [("s", none), ("t", none), ("prec", some (.int p)), ("rnd", some (.str (rS c))), ("ssign", none), ("sman", some (.int z1.natAbs)), ("sexp", some (.int e1)), ("sbc", none), ("tsign", none), ("tman", some (.int z2.natAbs)), ("texp", some (.int e2)), ("tbc", none), ("s_special", none), ("t_special", none), ("sign", some (.int (sg S))), ("extra", some (.int (max ((p : Int) - intBits z1 + intBits z2 + 5) 5))), ("quot", none), ("rem", none), ("bc", none)]) ?_ ?_
  · refine S_if (by walk_at "T") (fun h => ?_) (fun h => ?_)
    · have h : (p : Int) - intBits z1 + intBits z2 + 5 < 5 := by simpa using h
      walk_at "S"
      walk_at "end"
      congr 1; omega
    · have h : ¬ (p : Int) - intBits z1 + intBits z2 + 5 < 5 := by simpa using h
      walk_at "end"
      congr 1; omega
  generalize hX : max ((p : Int) - intBits z1 + intBits z2 + 5) 5 = X
  obtain ⟨x, rfl⟩ : ∃ x : Nat, X = x := ⟨X.toNat, by omega⟩
  have hx1 : (intBits z2 : Int) + p + 5 ≤ intBits z1 + x := by omega
  have hx2 : x ≤ 16005 := by omega
  have hlog : (z2.natAbs : Int).natAbs.log2 < 9000 := log2_lt (k := 8000) (by rw [hb2]; exact hs2) (by decide)
  have ha0 : 0 < (z1.natAbs : Int) := by omega
  have hd0 : 0 < (z2.natAbs : Int) := by omega
  have hA : intBits ((z1.natAbs : Int) * 2 ^ x) ≤ 24005 := by
    refine bl_le.mpr ?_
    rw [Int.natAbs_mul, Int.natAbs_pow, Int.natAbs_natCast]
    have a := bl_lt z1
    have b : z1.natAbs * 2 ^ x < 2 ^ intBits z1 * 2 ^ x := Nat.mul_lt_mul_of_pos_right a (Nat.two_pow_pos x)
    rw [← Nat.pow_add] at b
    exact Nat.lt_of_lt_of_le b (Nat.pow_le_pow_right (by decide) (by omega))
  have hbig : 2 ^ p * (z2.natAbs : Int) ≤ z1.natAbs * 2 ^ x := by
    have a := bl_ge hz1
    have b := bl_lt z2
    have c1 : 2 ^ p * z2.natAbs ≤ 2 ^ p * 2 ^ intBits z2 := Nat.mul_le_mul_left _ (Nat.le_of_lt b)
    have c2 : 2 ^ (intBits z1 - 1) * 2 ^ x ≤ z1.natAbs * 2 ^ x := Nat.mul_le_mul_right _ a
    rw [← Nat.pow_add] at c1 c2
    have c3 : (2 : Nat) ^ (p + intBits z2) ≤ 2 ^ (intBits z1 - 1 + x) := Nat.pow_le_pow_right (by decide) (by omega)
    have : 2 ^ p * z2.natAbs ≤ z1.natAbs * 2 ^ x := by omega
    exact_mod_cast this
  have hsh : (intBits (z1.natAbs : Int) : Int) + (x : Int) ≤ 2 ^ 27 := by omega
  refine S_unpack (ds := [.int ((z1.natAbs : Int) * 2 ^ x / z2.natAbs), .int ((z1.natAbs : Int) * 2 ^ x % z2.natAbs)]) (E_eq (by walk_at "E") (by rw [Int.fdiv_eq_ediv_of_nonneg _ (by omega), Int.fmod_eq_emod_of_nonneg _ (by omega), Int.toNat_natCast])) (by walk_at "names") (by walk_at "upds") ?_
  have hex := div_exact (a := z1.natAbs) (d := z2.natAbs) (e1 := e1) (e2 := e2) (x := x) hd0
  have hst := div_sticky hp (a := z1.natAbs) (d := z2.natAbs) (e1 := e1) (e2 := e2) (x := x) hd0 hbig
  have hq : 2 ^ p ≤ (z1.natAbs : Int) * 2 ^ x / z2.natAbs := (Int.le_ediv_iff_mul_le hd0).mpr hbig
  have hqb : intBits ((z1.natAbs : Int) * 2 ^ x / z2.natAbs) ≤ 24005 := by
    refine intBits_le_of_natAbs ?_ hA
    have := Int.ediv_le_self (z2.natAbs : Int) (show 0 ≤ (z1.natAbs : Int) * 2 ^ x by have := pow2_pos x; exact Int.mul_nonneg (by omega) (by omega))
    have := pow2_pos p
    omega
  have hpp := pow2_pos p
  generalize (z1.natAbs : Int) * 2 ^ x / z2.natAbs = q at hex hst hq hqb ⊢
  generalize (z1.natAbs : Int) * 2 ^ x % z2.natAbs = r at hex hst ⊢
  refine S_if (by walk_at "T") (fun h => ?_) (fun h => ?_)
  · have hr : r ≠ 0 := by simpa using h
    have hst' := hst hr
    have hsh2 : (intBits q : Int) + 1 ≤ 2 ^ 27 := by omega
    walk_at "S"
    rw [show q * 2 ^ (1 : Int).toNat + 1 = q * 2 + 1 from rfl]
    obtain ⟨g1, g2⟩ := sgmul (S := S) (q := q * 2 + 1) (by omega)
    have hn := sp_norm (w := w) (z := if S < 0 then -(q * 2 + 1) else q * 2 + 1) (e := e1 - e2 - (x + 1)) hp c
    have hb : intBits (if S < 0 then -(q * 2 + 1) else q * 2 + 1) = intBits (q * 2 + 1) := by split <;> simp [bl_neg]
    rw [g1, g2, hb, show ((q * 2 + 1).natAbs : Int) = q * 2 + 1 by omega] at hn
    walk_at "ret"
    refine pvR_same hp ?_
    rw [hY, show e1 - e2 - ((x : Int) + 1) = e1 - e2 - x - 1 by omega]
    split
    · rw [val_neg]; exact hst'.neg
    · exact hst'
  · have hr : r = 0 := by simpa using h
    have hex' := hex hr
    walk_at "S"
    obtain ⟨g1, g2⟩ := sgmul (S := S) (q := q) (by omega)
    have hn := sp_norm (w := w) (z := if S < 0 then -q else q) (e := e1 - e2 - x) hp c
    have hb : intBits (if S < 0 then -q else q) = intBits q := by split <;> simp [bl_neg]
    rw [g1, g2, hb, show (q.natAbs : Int) = q by omega] at hn
    walk_at "ret"
    rw [pvR_eq hp, hY, ← hex']
    split
    · rw [val_neg]
    · rfl

theorem sp_rat {w : World} {n d : Int} {p : Nat} (hp : 1 ≤ p) (c : Bool) (hd : d ≠ 0) (hs1 : intBits n ≤ 8000) (hs2 : intBits d ≤ 8000) (hps : p ≤ 8000) :
    FnSpec w 6 "from_rational" [.int n, .int d, .int p, .str (rS c)] (pvX p c ((n : Rat) / (d : Rat))) := by
  refine fn_intro (Γ := ["mpf_div", "from_int"]) 100 (by kernel_rfl) (by rfl) (by kernel_rfl) ["p", "q", "prec", "rnd"] [] [.int n, .int d, .int p, .str (rS c)] (by decide +kernel) rfl ?_ ?_
  · intro s vs ks H ra rk
    refine bindN ra rk fun vs hv => ?_
    match vs, hv with
    | [a, b, c, d], _ => exact binds_K (K := KK w) H.K rfl (by rfl) rfl rfl rfl
  intro ρ hρ; simp only [envZip_cons, envZip_nil, envZip_nil'] at hρ; subst hρ
  have F1 := sp_int0 (w := w) (n := n)
  have F2 := sp_int0 (w := w) (n := d)
  have hb : ∀ z : Int, intBits z ≤ 8000 → intBits (nrmZ z) ≤ 8000 := fun z hz => by
    by_cases h : z = 0
    · rw [h, nrmZ_zero, bl_zero]; decide
    · have := nrm_bl h; omega
  have F := sp_div (w := w) (can_nrm n 0) (can_nrm d 0) hp c (nrm_ne hd) (hb n hs1) (hb d hs2) hps
  walk_at "ret"
  rw [val_nrm, val_nrm]
  unfold val
  rw [Rat.zpow_zero, Rat.mul_one, Rat.mul_one]
end Mine
end

-- WaF
section
namespace Mine
open PySem.Builtin (bitAnd bitXor)
open PySem.Builtin.Int (intBits)
local macro_rules | `(tactic| walk_at "mem") => `(tactic| with_reducible (first | exact List.mem_cons_self | (refine List.mem_cons_of_mem _ ?_; walk_at "mem")))
local macro_rules | `(tactic| walk_at "upd") => `(tactic| with_reducible (first | exact Upd.head | (apply Upd.tail; walk_at "upd")))
local macro_rules | `(tactic| walk_at "upds") => `(tactic| first | exact Upds.nil | exact Upds.cons (by walk_at "upd") (by walk_at "upds"))
local macro_rules | `(tactic| walk_at "names") => `(tactic| first | exact Names.nil | exact Names.cons (by walk_at "names"))
local macro_rules | `(tactic| walk_at "side") => `(tactic| first | assumption | decide | omega)
local macro_rules | `(tactic| walk_at "B") => `(tactic| with_reducible first
  | exact B_add | exact B_sub | (show BinV .Mult _ _ _; exact B_mul (by walk_at "side")) | (show BinV .FloorDiv _ _ _; exact B_fdiv (by walk_at "side") (by walk_at "side")) | (show BinV .Mod _ _ _; exact B_mod (by walk_at "side"))
  | (show BinV .LShift _ _ _; exact B_shl (by walk_at "side") (by walk_at "side")) | (show BinV .RShift _ _ _; exact B_shr (by walk_at "side")) | (show BinV .Pow _ _ _; exact B_pow (by walk_at "side") (by walk_at "side"))
  | exact B_and | exact B_xor | (show BinV .Add (.str _) _ _; exact B_adds (by walk_at "side")))
local macro_rules | `(tactic| walk_at "I") => `(tactic| with_reducible first
  | exact I_add | exact I_sub | (show IBinV .LShift _ _ _; exact I_shl (by walk_at "side") (by walk_at "side")) | (show IBinV .RShift _ _ _; exact I_shr (by walk_at "side")) | exact I_xor | (show IBinV .Add (.str _) _ _; exact I_adds (by walk_at "side")))
local macro_rules | `(tactic| walk_at "C") => `(tactic| with_reducible first
  | exact C_eq | exact C_ne | exact C_lt | exact C_le | exact C_gt | exact C_ge | exact C_eqs | exact C_nes
  | (show CmpV .Eq (.tuple _) (.tuple _) _; exact C_eqd (by with_unfolding_all rfl) (by with_unfolding_all rfl) (by with_unfolding_all exact Nat.le_of_ble_eq_true rfl))
  | (show CmpV .NotEq (.tuple _) (.tuple _) _; exact C_ned (by with_unfolding_all rfl) (by with_unfolding_all rfl) (by with_unfolding_all exact Nat.le_of_ble_eq_true rfl)))
local macro_rules | `(tactic| walk_at "U") => `(tactic| with_reducible first | exact U_neg | (show UnV .Not _ _; exact U_not (by walk_at "R")))
local macro_rules | `(tactic| walk_at "R") => `(tactic| with_reducible first | exact R_int | exact R_bool | (show TruV (.str _) _; exact R_str (by walk_at "side")))
local macro_rules | `(tactic| walk_at "G") => `(tactic| with_reducible first
  | exact gl_fzero | exact gl_zero | exact gl_one | exact gl_near | exact gl_floor | exact gl_ceil | exact gl_up | exact gl_down | exact gl_fnan | exact gl_finf | exact gl_fninf | exact gl_blog | exact gl_digits)
local macro_rules | `(tactic| walk_at "L") => `(tactic| with_reducible first | exact L_nil | (show EvL _ _ _ _ (_ :: _) _ _; exact L_cons (by walk_at "E") (by walk_at "L")))
local macro_rules | `(tactic| walk_at "M0") => `(tactic| with_reducible first | exact M_bitlen | (show Meth0 _ (.str _) _; first | exact M_strip (by walk_at "side") | exact M_lower (by walk_at "side")))
local macro_rules | `(tactic| walk_at "K") => `(tactic| with_reducible first | assumption | exact K_int | exact K_abs | exact K_max | exact K_min | (show CallV (.builtin "len") _ _; exact K_len (by walk_at "side")) | (show CallV (.builtin "divmod") _ _; exact K_divmod (by walk_at "side") (by walk_at "side")))
local macro_rules | `(tactic| walk_at "Ebi") => `(tactic| with_reducible first
  | (show EvE _ _ _ _ (.Call (.Name (Str.ofString "int") _) _ _ _) _ _; exact E_bi bi_int (by walk_at "mem") rfl (by walk_at "L") (by walk_at "K"))
  | (show EvE _ _ _ _ (.Call (.Name (Str.ofString "len") _) _ _ _) _ _; exact E_bi bi_len (by walk_at "mem") rfl (by walk_at "L") (by walk_at "K"))
  | (show EvE _ _ _ _ (.Call (.Name (Str.ofString "abs") _) _ _ _) _ _; exact E_bi bi_abs (by walk_at "mem") rfl (by walk_at "L") (by walk_at "K"))
  | (show EvE _ _ _ _ (.Call (.Name (Str.ofString "max") _) _ _ _) _ _; exact E_bi bi_max (by walk_at "mem") rfl (by walk_at "L") (by walk_at "K"))
  | (show EvE _ _ _ _ (.Call (.Name (Str.ofString "min") _) _ _ _) _ _; exact E_bi bi_min (by walk_at "mem") rfl (by walk_at "L") (by walk_at "K"))
  | (show EvE _ _ _ _ (.Call (.Name (Str.ofString "divmod") _) _ _ _) _ _; exact E_bi bi_divmod (by walk_at "mem") rfl (by walk_at "L") (by walk_at "K"))
  | (show EvE _ _ _ _ (.Call (.Name (Str.ofString "str") _) _ _ _) _ _; exact E_bi bi_str (by walk_at "mem") rfl (by walk_at "L") (by walk_at "K"))
  | (show EvE _ _ _ _ (.Call (.Name (Str.ofString "pow") _) _ _ _) _ _; exact E_bi bi_pow (by walk_at "mem") rfl (by walk_at "L") (by walk_at "K"))
  | (show EvE _ _ _ _ (.Call (.Name (Str.ofString "isinstance") _) _ _ _) _ _; exact E_isint (by walk_at "mem") (by walk_at "mem") (by walk_at "E")))
local macro_rules | `(tactic| walk_at "E") => `(tactic| with_reducible first
  | assumption
  | (show EvE _ _ _ _ (.Name _ _) _ _; first | exact E_name (by walk_at "mem") | exact E_gl (by walk_at "mem") (by walk_at "G"))
  | exact E_int
  | (show EvE _ _ _ _ (.BinOp _ _ _ _) _ _; exact E_bin (by walk_at "E") (by walk_at "E") (by walk_at "B"))
  | exact E_str | exact E_bool | exact E_none
  | (show EvE _ _ _ _ (.UnaryOp _ _ _) _ _; exact E_un (by walk_at "E") (by walk_at "U"))
  | (show EvE _ _ _ _ (.Tuple _ _ _) _ _; exact E_tup (by walk_at "L"))
  | (show EvE _ _ _ _ (.Call (.Name _ _) _ _ _) _ _; first | walk_at "Ebi" | exact E_call (by walk_at "mem") (by walk_at "L") (by assumption))
  | (show EvE _ _ _ _ (.BoolOp .Or [_, _] _) _ _; exact E_orp (by walk_at "E") (by walk_at "side"))
  | (show EvE _ _ _ _ (.Call (.Attribute _ _ _) [] [] _) _ _; exact E_meth0 (by walk_at "E") (by walk_at "M0"))
  | (show EvE _ _ _ _ (.Compare _ [_] [_] _) _ _; exact E_cmp (by walk_at "E") (by walk_at "E") (by walk_at "C")))
local macro_rules | `(tactic| walk_at "T") => `(tactic| with_reducible first
  | assumption
  | (show EvT _ _ _ _ (.UnaryOp .Not _ _) _ _; exact T_not (by walk_at "T")) | (show EvT _ _ _ _ (.Compare _ [_] [_] _) _ _; exact T_cmp (by walk_at "E") (by walk_at "E") (by walk_at "C"))
  | (show EvT _ _ _ _ (.Compare _ [_, _] [_, _] _) _ _; exact T_chain (by walk_at "E") (by walk_at "E") (by walk_at "C") (fun _ => by walk_at "E") (fun _ => by walk_at "C"))
  | (show EvT _ _ _ _ (.BoolOp _ _ _) _ _; exact T_bool (by walk_at "A")) | exact T_val (by walk_at "E") (by walk_at "R"))
local macro_rules | `(tactic| walk_at "A") => `(tactic| with_reducible first
  | exact A_and0 | exact A_or0 | (show EvA _ _ _ _ .And _ _ _; exact A_and (by walk_at "T") (fun _ => by walk_at "A")) | exact A_or (by walk_at "T") (fun _ => by walk_at "A"))
local macro_rules | `(tactic| walk_at "S1") => `(tactic| with_reducible first
  | refine S_pop ?_
  | (show Exs _ _ _ _ ((.Assign [.Name _ _] _ _ :: _) :: _) _; refine S_assign (by walk_at "E") (by walk_at "upd") ?_)
  | (show Exs _ _ _ _ ((.AugAssign _ _ _ _ :: _) :: _) _; refine S_aug (by walk_at "mem") (by walk_at "E") (by walk_at "I") (by walk_at "upd") ?_)
  | (show Exs _ _ _ _ ((.Assign [.Tuple _ _ _] _ _ :: _) :: _) _; refine S_unpack (by walk_at "E") (by walk_at "names") (by walk_at "upds") ?_))
local macro_rules | `(tactic| walk_at "S") => `(tactic| repeat walk_at "S1")
local macro_rules | `(tactic| walk_at "ret") => `(tactic| (with_reducible show Exs _ _ _ _ ((.Return _ _ :: _) :: _) _; with_reducible apply S_ret'; walk_at "E"))
local macro_rules | `(tactic| walk_at "weak") => `(tactic| with_reducible first | exact Weak.nil | (apply Weak.skip; walk_at "weak") | (apply Weak.same; walk_at "weak") | (apply Weak.keep; rotate_left; walk_at "weak"))
local macro_rules | `(tactic| walk_at "end") => `(tactic| ((repeat (with_reducible refine S_pop ?_)); with_reducible apply S_end'; walk_at "weak"))
local macro_rules | `(tactic| walk_at "weak") => `(tactic| with_reducible first | exact Weak.nil | (apply Weak.skip; walk_at "weak") | (apply Weak.same; walk_at "weak") | (apply Weak.keep; rotate_left; walk_at "weak"))
local macro_rules | `(tactic| walk_at "end") => `(tactic| ((repeat (with_reducible refine S_pop ?_)); with_reducible apply S_end'; walk_at "weak"))

theorem eqv_zero {z e : Int} (hz : z ≠ 0) (a b c : Int) : PyData.eqv (pvM z e) (.tuple [.int a, .int 0, .int b, .int c]) = false := by
  simp only [PyData.eqv, PyData.eqvAll]
  have : ((z.natAbs : Int) == 0) = false := by simpa using hz
  rw [this]; simp

theorem sp_cmp0 {w : World} {z e : Int} (hc : Can z e) (hz : 0 ≤ z) : ∃ k : Int, 0 ≤ k ∧ FnSpec w 7 "mpf_cmp" [pvM z e, pvM 0 0] (.int k) := by
  by_cases h0 : z = 0
  · have he := can_exp hc h0
    subst h0 he
    refine ⟨0, Int.le_refl _, ?_⟩
    refine fn_intro (Γ := ["fzero", "mpf_sign", "fnan", "finf", "fninf", "mpf_sub", "round_floor"]) 114 (by kernel_rfl) (by rfl) (by kernel_rfl) ["s", "t"] ["ssign", "sman", "sexp", "sbc", "tsign", "tman", "texp", "tbc", "a", "b", "delta"] [pvM 0 0, pvM 0 0] (by decide +kernel) rfl ?_ ?_
    · intro s vs ks H ra rk
      refine bindN ra rk fun vs hv => ?_
      match vs, hv with
      | [a, b], _ => exact BindsTo.of_eq (by rfl)
    intro ρ hρ; simp only [envZip_cons, envZip_nil, envZip_nil'] at hρ; subst hρ
    walk_at "S"
    refine S_if (by walk_at "T") (fun _ => ?_) (fun h => by simp at h)
    refine S_if (T_eq (b₂ := true) (by walk_at "T") (by decide +kernel)) (fun _ => ?_) (fun h => by cases h)
    have := sp_sign (w := w) (z := 0) (e := 0) (.inl ⟨rfl, rfl⟩)
    walk_at "ret"
    rfl
  · refine ⟨1, by decide, ?_⟩
    refine fn_intro (Γ := ["fzero", "mpf_sign", "fnan", "finf", "fninf", "mpf_sub", "round_floor"]) 114 (by kernel_rfl) (by rfl) (by kernel_rfl) ["s", "t"] ["ssign", "sman", "sexp", "sbc", "tsign", "tman", "texp", "tbc", "a", "b", "delta"] [pvM z e, pvM 0 0] (by decide +kernel) rfl ?_ ?_
    · intro s vs ks H ra rk
      refine bindN ra rk fun vs hv => ?_
      match vs, hv with
      | [a, b], _ => exact BindsTo.of_eq (by rfl)
    intro ρ hρ; simp only [envZip_cons, envZip_nil, envZip_nil'] at hρ; subst hρ
    walk_at "S"
    refine S_if (by walk_at "T") (fun _ => ?_) (fun h => by simp at h)
    refine S_if (T_eq (b₂ := false) (by walk_at "T") (eqv_zero h0 _ _ _)) (fun h => by cases h) (fun _ => ?_)
    walk_at "S"
    refine S_if (T_eq (b₂ := true) (by walk_at "T") (by decide +kernel)) (fun _ => ?_) (fun h => by cases h)
    have := sp_sign (w := w) hc
    walk_at "ret"
    rw [if_neg (by omega), if_neg h0]

/-- two positive numbers are compared, whichever way -/
theorem sp_cmp {w : World} {z1 e1 z2 e2 : Int} (h1 : Can z1 e1) (h2 : Can z2 e2) (hz1 : 0 < z1) (hz2 : 0 < z2)
    (hs1 : intBits z1 ≤ 10000) (hs2 : intBits z2 ≤ 10000) (hx1 : -10000 ≤ e1 ∧ e1 ≤ 10000) (hx2 : -10000 ≤ e2 ∧ e2 ≤ 10000) :
    ∃ k : Int, FnSpec w 7 "mpf_cmp" [pvM z1 e1, pvM z2 e2] (.int k) := by
  obtain ⟨z3, e3, hc3, hr3, hd3⟩ := pvX_ex (p := 5) (by decide) false (val z1 e1 - val z2 e2)
  refine ⟨if e1 = e2 then (if z1 = z2 then 0 else if z2 < z1 then 1 else -1) else if (intBits z1 : Int) + e1 < intBits z2 + e2 then -1 else if (intBits z2 : Int) + e2 < intBits z1 + e1 then 1 else if z3 < 0 then -1 else 1, ?_⟩
  refine fn_intro (Γ := ["fzero", "mpf_sign", "fnan", "finf", "fninf", "mpf_sub", "round_floor"]) 114 (by kernel_rfl) (by rfl) (by kernel_rfl) ["s", "t"] ["ssign", "sman", "sexp", "sbc", "tsign", "tman", "texp", "tbc", "a", "b", "delta"] [pvM z1 e1, pvM z2 e2] (by decide +kernel) rfl ?_ ?_
  · intro s vs ks H ra rk
    refine bindN ra rk fun vs hv => ?_
    match vs, hv with
    | [a, b], _ => exact BindsTo.of_eq (by rfl)
  intro ρ hρ; simp only [envZip_cons, envZip_nil, envZip_nil'] at hρ; subst hρ
  have g1 : sg z1 = 0 := by unfold sg; rw [if_neg (by omega)]
  have g2 : sg z2 = 0 := by unfold sg; rw [if_neg (by omega)]
  walk_at "S"
  refine S_if (by walk_at "T") (fun h => by simp at h; omega) (fun _ => ?_)
  walk_at "S"
  refine S_if (T_eq (b₂ := false) (by walk_at "T") (by rw [g1, g2]; rfl)) (fun h => by cases h) (fun _ => ?_)
  walk_at "S"
  refine S_if (by walk_at "T") (fun h => ?_) (fun h => ?_)
  · have he : e1 = e2 := by simpa using h
    rw [if_pos he]
    refine S_if (by walk_at "T") (fun h => ?_) (fun h => ?_)
    · have : z1 = z2 := by simp at h; omega
      walk_at "ret"
      rw [if_pos this]
    · have hne : z1 ≠ z2 := by simp at h; omega
      rw [if_neg hne]
      walk_at "S"
      refine S_if (by walk_at "T") (fun h => ?_) (fun h => ?_)
      · have : z2 < z1 := by simp at h; omega
        rw [if_pos this, g1]
        refine S_if (by walk_at "T") (fun h => by simp at h) (fun _ => ?_)
        walk_at "ret"
        rfl
      · have : ¬ z2 < z1 := by simp at h; omega
        rw [if_neg this, g1]
        refine S_if (by walk_at "T") (fun h => by simp at h) (fun _ => ?_)
        walk_at "ret"
        rfl
  · have he : e1 ≠ e2 := by simpa using h
    rw [if_neg he]
    walk_at "S"
    rw [g1]
    refine S_if (by walk_at "T") (fun h => by simp at h) (fun _ => ?_)
    refine S_if (by walk_at "T") (fun h => ?_) (fun h => ?_)
    · have : (intBits z1 : Int) + e1 < intBits z2 + e2 := by simpa using h
      rw [if_pos this]
      walk_at "ret"
      rfl
    have k1 : ¬ (intBits z1 : Int) + e1 < intBits z2 + e2 := by simpa using h
    rw [if_neg k1]
    walk_at "S"
    refine S_if (by walk_at "T") (fun h => ?_) (fun h => ?_)
    · have : (intBits z2 : Int) + e2 < intBits z1 + e1 := by simpa using h
      rw [if_pos this]
      walk_at "ret"
      rfl
    have k2 : ¬ (intBits z2 : Int) + e2 < intBits z1 + e1 := by simpa using h
    rw [if_neg k2]
    walk_at "S"
    have F := sp_sub (w := w) h1 h2 (p := 5) (by decide) false (by omega) (by omega) (by omega) (by omega) (by decide) (fun _ _ _ h => by omega) (fun _ _ _ h => by omega)
    rw [hd3] at F
    have F' : FnSpec w 6 "mpf_sub" [pvM z1 e1, pvM z2 e2, .int 5, .str (Str.ofString "f")] (pvM z3 e3) := F
    walk_at "S"
    refine S_if (T_val (E_tupitem (by walk_at "E") (by walk_at "E") (by decide) (by decide) (j := 0) rfl rfl) R_int) (fun h => ?_) (fun h => ?_)
    · have : z3 < 0 := by unfold sg at h; simp at h; exact h
      rw [if_pos this]
      walk_at "ret"
      rfl
    · have : ¬ z3 < 0 := by unfold sg at h; simp at h; omega
      rw [if_neg this]
      walk_at "S"
      walk_at "ret"
      rfl
end Mine
end

-- WaG
section
namespace Mine
open PySem.Builtin (bitAnd bitXor)
open PySem.Builtin.Int (intBits)
local macro_rules | `(tactic| walk_at "mem") => `(tactic| with_reducible (first | exact List.mem_cons_self | (refine List.mem_cons_of_mem _ ?_; walk_at "mem")))
local macro_rules | `(tactic| walk_at "upd") => `(tactic| with_reducible (first | exact Upd.head | (apply Upd.tail; walk_at "upd")))
local macro_rules | `(tactic| walk_at "upds") => `(tactic| first | exact Upds.nil | exact Upds.cons (by walk_at "upd") (by walk_at "upds"))
local macro_rules | `(tactic| walk_at "names") => `(tactic| first | exact Names.nil | exact Names.cons (by walk_at "names"))
local macro_rules | `(tactic| walk_at "side") => `(tactic| first | assumption | decide | omega)
local macro_rules | `(tactic| walk_at "B") => `(tactic| with_reducible first
  | exact B_add | exact B_sub | (show BinV .Mult _ _ _; exact B_mul (by walk_at "side")) | (show BinV .FloorDiv _ _ _; exact B_fdiv (by walk_at "side") (by walk_at "side")) | (show BinV .Mod _ _ _; exact B_mod (by walk_at "side"))
  | (show BinV .LShift _ _ _; exact B_shl (by walk_at "side") (by walk_at "side")) | (show BinV .RShift _ _ _; exact B_shr (by walk_at "side")) | (show BinV .Pow _ _ _; exact B_pow (by walk_at "side") (by walk_at "side"))
  | exact B_and | exact B_xor | (show BinV .Add (.str _) _ _; exact B_adds (by walk_at "side")))
local macro_rules | `(tactic| walk_at "I") => `(tactic| with_reducible first
  | exact I_add | exact I_sub | (show IBinV .LShift _ _ _; exact I_shl (by walk_at "side") (by walk_at "side")) | (show IBinV .RShift _ _ _; exact I_shr (by walk_at "side")) | exact I_xor | (show IBinV .Add (.str _) _ _; exact I_adds (by walk_at "side")))
local macro_rules | `(tactic| walk_at "C") => `(tactic| with_reducible first
  | exact C_eq | exact C_ne | exact C_lt | exact C_le | exact C_gt | exact C_ge | exact C_eqs | exact C_nes
  | (show CmpV .Eq (.tuple _) (.tuple _) _; exact C_eqd (by with_unfolding_all rfl) (by with_unfolding_all rfl) (by with_unfolding_all exact Nat.le_of_ble_eq_true rfl))
  | (show CmpV .NotEq (.tuple _) (.tuple _) _; exact C_ned (by with_unfolding_all rfl) (by with_unfolding_all rfl) (by with_unfolding_all exact Nat.le_of_ble_eq_true rfl)))
local macro_rules | `(tactic| walk_at "U") => `(tactic| with_reducible first | exact U_neg | (show UnV .Not _ _; exact U_not (by walk_at "R")))
local macro_rules | `(tactic| walk_at "R") => `(tactic| with_reducible first | exact R_int | exact R_bool | (show TruV (.str _) _; exact R_str (by walk_at "side")))
local macro_rules | `(tactic| walk_at "G") => `(tactic| with_reducible first
  | exact gl_fzero | exact gl_zero | exact gl_one | exact gl_near | exact gl_floor | exact gl_ceil | exact gl_up | exact gl_down | exact gl_fnan | exact gl_finf | exact gl_fninf | exact gl_blog | exact gl_digits)
local macro_rules | `(tactic| walk_at "L") => `(tactic| with_reducible first | exact L_nil | (show EvL _ _ _ _ (_ :: _) _ _; exact L_cons (by walk_at "E") (by walk_at "L")))
local macro_rules | `(tactic| walk_at "M0") => `(tactic| with_reducible first | exact M_bitlen | (show Meth0 _ (.str _) _; first | exact M_strip (by walk_at "side") | exact M_lower (by walk_at "side")))
local macro_rules | `(tactic| walk_at "K") => `(tactic| with_reducible first | assumption | exact K_int | exact K_abs | exact K_max | exact K_min | (show CallV (.builtin "len") _ _; exact K_len (by walk_at "side")) | (show CallV (.builtin "divmod") _ _; exact K_divmod (by walk_at "side") (by walk_at "side")))
local macro_rules | `(tactic| walk_at "Ebi") => `(tactic| with_reducible first
  | (show EvE _ _ _ _ (.Call (.Name (Str.ofString "int") _) _ _ _) _ _; exact E_bi bi_int (by walk_at "mem") rfl (by walk_at "L") (by walk_at "K"))
  | (show EvE _ _ _ _ (.Call (.Name (Str.ofString "len") _) _ _ _) _ _; exact E_bi bi_len (by walk_at "mem") rfl (by walk_at "L") (by walk_at "K"))
  | (show EvE _ _ _ _ (.Call (.Name (Str.ofString "abs") _) _ _ _) _ _; exact E_bi bi_abs (by walk_at "mem") rfl (by walk_at "L") (by walk_at "K"))
  | (show EvE _ _ _ _ (.Call (.Name (Str.ofString "max") _) _ _ _) _ _; exact E_bi bi_max (by walk_at "mem") rfl (by walk_at "L") (by walk_at "K"))
  | (show EvE _ _ _ _ (.Call (.Name (Str.ofString "min") _) _ _ _) _ _; exact E_bi bi_min (by walk_at "mem") rfl (by walk_at "L") (by walk_at "K"))
  | (show EvE _ _ _ _ (.Call (.Name (Str.ofString "divmod") _) _ _ _) _ _; exact E_bi bi_divmod (by walk_at "mem") rfl (by walk_at "L") (by walk_at "K"))
  | (show EvE _ _ _ _ (.Call (.Name (Str.ofString "str") _) _ _ _) _ _; exact E_bi bi_str (by walk_at "mem") rfl (by walk_at "L") (by walk_at "K"))
  | (show EvE _ _ _ _ (.Call (.Name (Str.ofString "pow") _) _ _ _) _ _; exact E_bi bi_pow (by walk_at "mem") rfl (by walk_at "L") (by walk_at "K"))
  | (show EvE _ _ _ _ (.Call (.Name (Str.ofString "isinstance") _) _ _ _) _ _; exact E_isint (by walk_at "mem") (by walk_at "mem") (by walk_at "E")))
local macro_rules | `(tactic| walk_at "E") => `(tactic| with_reducible first
  | assumption
  | (show EvE _ _ _ _ (.Name _ _) _ _; first | exact E_name (by walk_at "mem") | exact E_gl (by walk_at "mem") (by walk_at "G"))
  | exact E_int
  | (show EvE _ _ _ _ (.BinOp _ _ _ _) _ _; exact E_bin (by walk_at "E") (by walk_at "E") (by walk_at "B"))
  | exact E_str | exact E_bool | exact E_none
  | (show EvE _ _ _ _ (.UnaryOp _ _ _) _ _; exact E_un (by walk_at "E") (by walk_at "U"))
  | (show EvE _ _ _ _ (.Tuple _ _ _) _ _; exact E_tup (by walk_at "L"))
  | (show EvE _ _ _ _ (.Call (.Name _ _) _ _ _) _ _; first | walk_at "Ebi" | exact E_call (by walk_at "mem") (by walk_at "L") (by assumption))
  | (show EvE _ _ _ _ (.BoolOp .Or [_, _] _) _ _; exact E_orp (by walk_at "E") (by walk_at "side"))
  | (show EvE _ _ _ _ (.Call (.Attribute _ _ _) [] [] _) _ _; exact E_meth0 (by walk_at "E") (by walk_at "M0"))
  | (show EvE _ _ _ _ (.Compare _ [_] [_] _) _ _; exact E_cmp (by walk_at "E") (by walk_at "E") (by walk_at "C")))
local macro_rules | `(tactic| walk_at "T") => `(tactic| with_reducible first
  | assumption
  | (show EvT _ _ _ _ (.UnaryOp .Not _ _) _ _; exact T_not (by walk_at "T")) | (show EvT _ _ _ _ (.Compare _ [_] [_] _) _ _; exact T_cmp (by walk_at "E") (by walk_at "E") (by walk_at "C"))
  | (show EvT _ _ _ _ (.Compare _ [_, _] [_, _] _) _ _; exact T_chain (by walk_at "E") (by walk_at "E") (by walk_at "C") (fun _ => by walk_at "E") (fun _ => by walk_at "C"))
  | (show EvT _ _ _ _ (.BoolOp _ _ _) _ _; exact T_bool (by walk_at "A")) | exact T_val (by walk_at "E") (by walk_at "R"))
local macro_rules | `(tactic| walk_at "A") => `(tactic| with_reducible first
  | exact A_and0 | exact A_or0 | (show EvA _ _ _ _ .And _ _ _; exact A_and (by walk_at "T") (fun _ => by walk_at "A")) | exact A_or (by walk_at "T") (fun _ => by walk_at "A"))
local macro_rules | `(tactic| walk_at "S1") => `(tactic| with_reducible first
  | refine S_pop ?_
  | (show Exs _ _ _ _ ((.Assign [.Name _ _] _ _ :: _) :: _) _; refine S_assign (by walk_at "E") (by walk_at "upd") ?_)
  | (show Exs _ _ _ _ ((.AugAssign _ _ _ _ :: _) :: _) _; refine S_aug (by walk_at "mem") (by walk_at "E") (by walk_at "I") (by walk_at "upd") ?_)
  | (show Exs _ _ _ _ ((.Assign [.Tuple _ _ _] _ _ :: _) :: _) _; refine S_unpack (by walk_at "E") (by walk_at "names") (by walk_at "upds") ?_))
local macro_rules | `(tactic| walk_at "S") => `(tactic| repeat walk_at "S1")
local macro_rules | `(tactic| walk_at "ret") => `(tactic| (with_reducible show Exs _ _ _ _ ((.Return _ _ :: _) :: _) _; with_reducible apply S_ret'; walk_at "E"))
local macro_rules | `(tactic| walk_at "weak") => `(tactic| with_reducible first | exact Weak.nil | (apply Weak.skip; walk_at "weak") | (apply Weak.same; walk_at "weak") | (apply Weak.keep; rotate_left; walk_at "weak"))
local macro_rules | `(tactic| walk_at "end") => `(tactic| ((repeat (with_reducible refine S_pop ?_)); with_reducible apply S_end'; walk_at "weak"))
local macro_rules | `(tactic| walk_at "weak") => `(tactic| with_reducible first | exact Weak.nil | (apply Weak.skip; walk_at "weak") | (apply Weak.same; walk_at "weak") | (apply Weak.keep; rotate_left; walk_at "weak"))
local macro_rules | `(tactic| walk_at "end") => `(tactic| ((repeat (with_reducible refine S_pop ?_)); with_reducible apply S_end'; walk_at "weak"))

theorem eqv_nan {z e : Int} (hc : Can z e) : PyData.eqv (pvM z e) (.tuple [.int 0, .int 0, .int (-123), .int (-1)]) = false := by
  by_cases h : z = 0
  · have := can_exp hc h
    subst h this
    decide +kernel
  · exact eqv_zero h _ _ _

theorem sp_ge_of {w : World} {z1 e1 z2 e2 k : Int} (h1 : Can z1 e1) (h2 : Can z2 e2) (F : FnSpec w 7 "mpf_cmp" [pvM z1 e1, pvM z2 e2] (.int k)) :
    FnSpec w 8 "mpf_ge" [pvM z1 e1, pvM z2 e2] (.bool (decide (0 ≤ k))) := by
  refine fn_intro (Γ := ["fnan", "mpf_cmp"]) 135 (by kernel_rfl) (by rfl) (by kernel_rfl) ["s", "t"] [] [pvM z1 e1, pvM z2 e2] (by decide +kernel) rfl ?_ ?_
  · intro s vs ks H ra rk
    refine bindN ra rk fun vs hv => ?_
    match vs, hv with
    | [a, b], _ => exact BindsTo.of_eq (by rfl)
  intro ρ hρ; simp only [envZip_cons, envZip_nil, envZip_nil'] at hρ; subst hρ
  refine S_if (T_eq (b₂ := false) (by walk_at "T") (by rw [eqv_nan h1, eqv_nan h2]; rfl)) (fun h => by cases h) (fun _ => ?_)
  walk_at "S"
  walk_at "ret"
  rfl
theorem sp_ge0 {w : World} {z e : Int} (hc : Can z e) (hz : 0 ≤ z) : FnSpec w 8 "mpf_ge" [pvM z e, pvM 0 0] (.bool true) := by
  obtain ⟨k, hk, F⟩ := sp_cmp0 (w := w) hc hz
  have := sp_ge_of hc (.inl ⟨rfl, rfl⟩) F
  rwa [decide_eq_true hk] at this
theorem sp_max {w : World} {z1 e1 z2 e2 : Int} (h1 : Can z1 e1) (h2 : Can z2 e2) (hz : (z1 = 0 ∧ z2 = 0) ∨ (0 < z1 ∧ 0 < z2))
    (hs1 : intBits z1 ≤ 10000) (hs2 : intBits z2 ≤ 10000) (hx1 : -10000 ≤ e1 ∧ e1 ≤ 10000) (hx2 : -10000 ≤ e2 ∧ e2 ≤ 10000) :
    ∃ z e, ((z = z1 ∧ e = e1) ∨ (z = z2 ∧ e = e2)) ∧ FnSpec w 9 "MAX" [pvM z1 e1, pvM z2 e2] (pvM z e) := by
  have hg : ∃ b, FnSpec w 8 "mpf_ge" [pvM z1 e1, pvM z2 e2] (.bool b) := by
    rcases hz with ⟨a, b⟩ | ⟨a, b⟩
    · have i := can_exp h1 a; have j := can_exp h2 b
      subst a b i j
      exact ⟨true, sp_ge0 (.inl ⟨rfl, rfl⟩) (Int.le_refl _)⟩
    · obtain ⟨k, F⟩ := sp_cmp (w := w) h1 h2 a b hs1 hs2 hx1 hx2
      exact ⟨_, sp_ge_of h1 h2 F⟩
  obtain ⟨b, F⟩ := hg
  cases b with
  | true =>
    refine ⟨z1, e1, .inl ⟨rfl, rfl⟩, ?_⟩
    refine fn_intro (Γ := ["mpf_ge"]) 307 (by kernel_rfl) (by rfl) (by kernel_rfl) ["x", "y"] [] [pvM z1 e1, pvM z2 e2] (by decide +kernel) rfl ?_ ?_
    · intro s vs ks H ra rk
      refine bindN ra rk fun vs hv => ?_
      match vs, hv with
      | [a, b], _ => exact BindsTo.of_eq (by rfl)
    intro ρ hρ; simp only [envZip_cons, envZip_nil, envZip_nil'] at hρ; subst hρ
    refine S_if (by walk_at "T") (fun _ => ?_) (fun h => by cases h)
    walk_at "ret"
    rfl
  | false =>
    refine ⟨z2, e2, .inr ⟨rfl, rfl⟩, ?_⟩
    refine fn_intro (Γ := ["mpf_ge"]) 307 (by kernel_rfl) (by rfl) (by kernel_rfl) ["x", "y"] [] [pvM z1 e1, pvM z2 e2] (by decide +kernel) rfl ?_ ?_
    · intro s vs ks H ra rk
      refine bindN ra rk fun vs hv => ?_
      match vs, hv with
      | [a, b], _ => exact BindsTo.of_eq (by rfl)
    intro ρ hρ; simp only [envZip_cons, envZip_nil, envZip_nil'] at hρ; subst hρ
    refine S_if (by walk_at "T") (fun h => by cases h) (fun _ => ?_)
    walk_at "S"
    walk_at "ret"
    rfl

/-! ## intervals -/
abbrev pvI (a b : PV) : PV := .tuple [a, b]
theorem sp_ipos {w : World} {z1 e1 z2 e2 : Int} {p : Nat} (h1 : Can z1 e1) (h2 : Can z2 e2) (hp : 1 ≤ p) :
    FnSpec w 5 "mpi_pos" [pvI (pvM z1 e1) (pvM z2 e2), .int p] (pvI (pvX p false (val z1 e1)) (pvX p true (val z2 e2))) := by
  refine fn_intro (Γ := ["mpf_pos", "round_floor", "round_ceiling"]) 277 (by kernel_rfl) (by rfl) (by kernel_rfl) ["s", "prec"] ["sa", "sb", "a", "b"] [pvI (pvM z1 e1) (pvM z2 e2), .int p] (by decide +kernel) rfl ?_ ?_
  · intro s vs ks H ra rk
    refine bindN ra rk fun vs hv => ?_
    match vs, hv with
    | [a, b], _ => exact BindsTo.of_eq (by rfl)
  intro ρ hρ; simp only [envZip_cons, envZip_nil, envZip_nil'] at hρ; subst hρ
  have F1 : FnSpec w 4 "mpf_pos" [pvM z1 e1, .int p, .str (Str.ofString "f")] (pvR p false z1 e1) := sp_pos h1 hp false
  have F2 : FnSpec w 4 "mpf_pos" [pvM z2 e2, .int p, .str (Str.ofString "c")] (pvR p true z2 e2) := sp_pos h2 hp true
  walk_at "S"
  walk_at "ret"
  rw [pvR_eq hp, pvR_eq hp]
theorem sp_ineg {w : World} {z1 e1 z2 e2 : Int} (h1 : Can z1 e1) (h2 : Can z2 e2) :
    FnSpec w 2 "mpi_neg" [pvI (pvM z1 e1) (pvM z2 e2)] (pvI (pvM (-z2) e2) (pvM (-z1) e1)) := by
  refine fn_intro (Γ := ["mpf_neg", "round_floor", "round_ceiling"]) 285 (by kernel_rfl) (by rfl) (by kernel_rfl) ["s", "prec"] ["sa", "sb", "a", "b"] [pvI (pvM z1 e1) (pvM z2 e2), .int 0] (by decide +kernel) rfl ?_ ?_
  · intro s vs ks H ra rk
    obtain ⟨v, rfl, r⟩ := repAll1 ra
    exact ⟨[v, .int 0 _], binds_K (K := KK w) H.K rfl (by rfl) rfl rfl rfl, .cons r (.cons rep_int .nil)⟩
  intro ρ hρ; simp only [envZip_cons, envZip_nil, envZip_nil'] at hρ; subst hρ
  have F1 := sp_neg3 (w := w) (r := Str.ofString "c") h1
  have F2 := sp_neg3 (w := w) (r := Str.ofString "f") h2
  walk_at "S"
  walk_at "ret"
  rfl
/-- what an addition asks of sizes -/
structure AddOk (p : Nat) (z1 e1 z2 e2 : Int) : Prop where
  s1 : intBits z1 ≤ 8000
  s2 : intBits z2 ≤ 8000
  x1 : -10000 ≤ e1 ∧ e1 ≤ 10000
  x2 : -10000 ≤ e2 ∧ e2 ≤ 10000
  pl : p ≤ 8000
  g1 : z1 ≠ 0 → z2 ≠ 0 → e1 - e2 > 100 → (intBits z1 : Int) + e1 - intBits z2 - e2 > p + 4 → intBits z1 ≤ p
  g2 : z1 ≠ 0 → z2 ≠ 0 → e2 - e1 > 100 → (intBits z2 : Int) + e2 - intBits z1 - e1 > p + 4 → intBits z2 ≤ p
theorem sp_iadd {w : World} {a1 f1 a2 f2 b1 g1 b2 g2 : Int} {p : Nat} (ha1 : Can a1 f1) (ha2 : Can a2 f2) (hb1 : Can b1 g1) (hb2 : Can b2 g2) (hp : 1 ≤ p) (ka : AddOk p a1 f1 b1 g1) (kb : AddOk p a2 f2 b2 g2) :
    FnSpec w 6 "mpi_add" [pvI (pvM a1 f1) (pvM a2 f2), pvI (pvM b1 g1) (pvM b2 g2), .int p] (pvI (pvX p false (val a1 f1 + val b1 g1)) (pvX p true (val a2 f2 + val b2 g2))) := by
  obtain ⟨z1, e1, hc1, hr1, hd1⟩ := pvX_ex hp false (val a1 f1 + val b1 g1)
  obtain ⟨z2, e2, hc2, hr2, hd2⟩ := pvX_ex hp true (val a2 f2 + val b2 g2)
  have F1 : FnSpec w 5 "mpf_add" [pvM a1 f1, pvM b1 g1, .int p, .str (Str.ofString "f")] (pvM z1 e1) := by
    have := (sp_add (w := w) (σ := 0) ha1 hb1 hp false (.inl rfl) (by have := ka.s1; omega) (by have := ka.s2; omega) (by have := ka.x1; omega) (by have := ka.x2; omega) (by have := ka.pl; omega) ka.g1 ka.g2).2 rfl
    rw [if_neg (by decide), hd1] at this
    exact this
  have F2 : FnSpec w 5 "mpf_add" [pvM a2 f2, pvM b2 g2, .int p, .str (Str.ofString "c")] (pvM z2 e2) := by
    have := (sp_add (w := w) (σ := 0) ha2 hb2 hp true (.inl rfl) (by have := kb.s1; omega) (by have := kb.s2; omega) (by have := kb.x1; omega) (by have := kb.x2; omega) (by have := kb.pl; omega) kb.g1 kb.g2).2 rfl
    rw [if_neg (by decide), hd2] at this
    exact this
  rw [hd1, hd2]
  refine fn_intro (Γ := ["mpf_add", "round_floor", "round_ceiling", "fnan", "fninf", "finf"]) 270 (by kernel_rfl) (by rfl) (by kernel_rfl) ["s", "t", "prec"] ["sa", "sb", "ta", "tb", "a", "b"] [pvI (pvM a1 f1) (pvM a2 f2), pvI (pvM b1 g1) (pvM b2 g2), .int p] (by decide +kernel) rfl ?_ ?_
  · intro s vs ks H ra rk
    refine bindN ra rk fun vs hv => ?_
    match vs, hv with
    | [a, b, c], _ => exact binds_K (K := KK w) H.K rfl (by rfl) rfl rfl rfl
  intro ρ hρ; simp only [envZip_cons, envZip_nil, envZip_nil'] at hρ; subst hρ
  walk_at "S"
  refine S_if (T_eq (b₂ := false) (by walk_at "T") (eqv_nan hc1)) (fun h => by cases h) (fun _ => ?_)
  walk_at "S"
  refine S_if (T_eq (b₂ := false) (by walk_at "T") (eqv_nan hc2)) (fun h => by cases h) (fun _ => ?_)
  walk_at "S"
  walk_at "ret"
  rfl
end Mine
end

-- WaH
section
namespace Mine
open PySem.Builtin (bitAnd bitXor)
open PySem.Builtin.Int (intBits)
local macro_rules | `(tactic| walk_at "mem") => `(tactic| with_reducible (first | exact List.mem_cons_self | (refine List.mem_cons_of_mem _ ?_; walk_at "mem")))
local macro_rules | `(tactic| walk_at "upd") => `(tactic| with_reducible (first | exact Upd.head | (apply Upd.tail; walk_at "upd")))
local macro_rules | `(tactic| walk_at "upds") => `(tactic| first | exact Upds.nil | exact Upds.cons (by walk_at "upd") (by walk_at "upds"))
local macro_rules | `(tactic| walk_at "names") => `(tactic| first | exact Names.nil | exact Names.cons (by walk_at "names"))
local macro_rules | `(tactic| walk_at "side") => `(tactic| first | assumption | decide | omega)
local macro_rules | `(tactic| walk_at "B") => `(tactic| with_reducible first
  | exact B_add | exact B_sub | (show BinV .Mult _ _ _; exact B_mul (by walk_at "side")) | (show BinV .FloorDiv _ _ _; exact B_fdiv (by walk_at "side") (by walk_at "side")) | (show BinV .Mod _ _ _; exact B_mod (by walk_at "side"))
  | (show BinV .LShift _ _ _; exact B_shl (by walk_at "side") (by walk_at "side")) | (show BinV .RShift _ _ _; exact B_shr (by walk_at "side")) | (show BinV .Pow _ _ _; exact B_pow (by walk_at "side") (by walk_at "side"))
  | exact B_and | exact B_xor | (show BinV .Add (.str _) _ _; exact B_adds (by walk_at "side")))
local macro_rules | `(tactic| walk_at "I") => `(tactic| with_reducible first
  | exact I_add | exact I_sub | (show IBinV .LShift _ _ _; exact I_shl (by walk_at "side") (by walk_at "side")) | (show IBinV .RShift _ _ _; exact I_shr (by walk_at "side")) | exact I_xor | (show IBinV .Add (.str _) _ _; exact I_adds (by walk_at "side")))
local macro_rules | `(tactic| walk_at "C") => `(tactic| with_reducible first
  | exact C_eq | exact C_ne | exact C_lt | exact C_le | exact C_gt | exact C_ge | exact C_eqs | exact C_nes
  | (show CmpV .Eq (.tuple _) (.tuple _) _; exact C_eqd (by with_unfolding_all rfl) (by with_unfolding_all rfl) (by with_unfolding_all exact Nat.le_of_ble_eq_true rfl))
  | (show CmpV .NotEq (.tuple _) (.tuple _) _; exact C_ned (by with_unfolding_all rfl) (by with_unfolding_all rfl) (by with_unfolding_all exact Nat.le_of_ble_eq_true rfl)))
local macro_rules | `(tactic| walk_at "U") => `(tactic| with_reducible first | exact U_neg | (show UnV .Not _ _; exact U_not (by walk_at "R")))
local macro_rules | `(tactic| walk_at "R") => `(tactic| with_reducible first | exact R_int | exact R_bool | (show TruV (.str _) _; exact R_str (by walk_at "side")))
local macro_rules | `(tactic| walk_at "G") => `(tactic| with_reducible first
  | exact gl_fzero | exact gl_zero | exact gl_one | exact gl_near | exact gl_floor | exact gl_ceil | exact gl_up | exact gl_down | exact gl_fnan | exact gl_finf | exact gl_fninf | exact gl_blog | exact gl_digits)
local macro_rules | `(tactic| walk_at "L") => `(tactic| with_reducible first | exact L_nil | (show EvL _ _ _ _ (_ :: _) _ _; exact L_cons (by walk_at "E") (by walk_at "L")))
local macro_rules | `(tactic| walk_at "M0") => `(tactic| with_reducible first | exact M_bitlen | (show Meth0 _ (.str _) _; first | exact M_strip (by walk_at "side") | exact M_lower (by walk_at "side")))
local macro_rules | `(tactic| walk_at "K") => `(tactic| with_reducible first | assumption | exact K_int | exact K_abs | exact K_max | exact K_min | (show CallV (.builtin "len") _ _; exact K_len (by walk_at "side")) | (show CallV (.builtin "divmod") _ _; exact K_divmod (by walk_at "side") (by walk_at "side")))
local macro_rules | `(tactic| walk_at "Ebi") => `(tactic| with_reducible first
  | (show EvE _ _ _ _ (.Call (.Name (Str.ofString "int") _) _ _ _) _ _; exact E_bi bi_int (by walk_at "mem") rfl (by walk_at "L") (by walk_at "K"))
  | (show EvE _ _ _ _ (.Call (.Name (Str.ofString "len") _) _ _ _) _ _; exact E_bi bi_len (by walk_at "mem") rfl (by walk_at "L") (by walk_at "K"))
  | (show EvE _ _ _ _ (.Call (.Name (Str.ofString "abs") _) _ _ _) _ _; exact E_bi bi_abs (by walk_at "mem") rfl (by walk_at "L") (by walk_at "K"))
  | (show EvE _ _ _ _ (.Call (.Name (Str.ofString "max") _) _ _ _) _ _; exact E_bi bi_max (by walk_at "mem") rfl (by walk_at "L") (by walk_at "K"))
  | (show EvE _ _ _ _ (.Call (.Name (Str.ofString "min") _) _ _ _) _ _; exact E_bi bi_min (by walk_at "mem") rfl (by walk_at "L") (by walk_at "K"))
  | (show EvE _ _ _ _ (.Call (.Name (Str.ofString "divmod") _) _ _ _) _ _; exact E_bi bi_divmod (by walk_at "mem") rfl (by walk_at "L") (by walk_at "K"))
  | (show EvE _ _ _ _ (.Call (.Name (Str.ofString "str") _) _ _ _) _ _; exact E_bi bi_str (by walk_at "mem") rfl (by walk_at "L") (by walk_at "K"))
  | (show EvE _ _ _ _ (.Call (.Name (Str.ofString "pow") _) _ _ _) _ _; exact E_bi bi_pow (by walk_at "mem") rfl (by walk_at "L") (by walk_at "K"))
  | (show EvE _ _ _ _ (.Call (.Name (Str.ofString "isinstance") _) _ _ _) _ _; exact E_isint (by walk_at "mem") (by walk_at "mem") (by walk_at "E")))
local macro_rules | `(tactic| walk_at "E") => `(tactic| with_reducible first
  | assumption
  | (show EvE _ _ _ _ (.Name _ _) _ _; first | exact E_name (by walk_at "mem") | exact E_gl (by walk_at "mem") (by walk_at "G"))
  | exact E_int
  | (show EvE _ _ _ _ (.BinOp _ _ _ _) _ _; exact E_bin (by walk_at "E") (by walk_at "E") (by walk_at "B"))
  | exact E_str | exact E_bool | exact E_none
  | (show EvE _ _ _ _ (.UnaryOp _ _ _) _ _; exact E_un (by walk_at "E") (by walk_at "U"))
  | (show EvE _ _ _ _ (.Tuple _ _ _) _ _; exact E_tup (by walk_at "L"))
  | (show EvE _ _ _ _ (.Call (.Name _ _) _ _ _) _ _; first | walk_at "Ebi" | exact E_call (by walk_at "mem") (by walk_at "L") (by assumption))
  | (show EvE _ _ _ _ (.BoolOp .Or [_, _] _) _ _; exact E_orp (by walk_at "E") (by walk_at "side"))
  | (show EvE _ _ _ _ (.Call (.Attribute _ _ _) [] [] _) _ _; exact E_meth0 (by walk_at "E") (by walk_at "M0"))
  | (show EvE _ _ _ _ (.Compare _ [_] [_] _) _ _; exact E_cmp (by walk_at "E") (by walk_at "E") (by walk_at "C")))
local macro_rules | `(tactic| walk_at "T") => `(tactic| with_reducible first
  | assumption
  | (show EvT _ _ _ _ (.UnaryOp .Not _ _) _ _; exact T_not (by walk_at "T")) | (show EvT _ _ _ _ (.Compare _ [_] [_] _) _ _; exact T_cmp (by walk_at "E") (by walk_at "E") (by walk_at "C"))
  | (show EvT _ _ _ _ (.Compare _ [_, _] [_, _] _) _ _; exact T_chain (by walk_at "E") (by walk_at "E") (by walk_at "C") (fun _ => by walk_at "E") (fun _ => by walk_at "C"))
  | (show EvT _ _ _ _ (.BoolOp _ _ _) _ _; exact T_bool (by walk_at "A")) | exact T_val (by walk_at "E") (by walk_at "R"))
local macro_rules | `(tactic| walk_at "A") => `(tactic| with_reducible first
  | exact A_and0 | exact A_or0 | (show EvA _ _ _ _ .And _ _ _; exact A_and (by walk_at "T") (fun _ => by walk_at "A")) | exact A_or (by walk_at "T") (fun _ => by walk_at "A"))
local macro_rules | `(tactic| walk_at "S1") => `(tactic| with_reducible first
  | refine S_pop ?_
  | (show Exs _ _ _ _ ((.Assign [.Name _ _] _ _ :: _) :: _) _; refine S_assign (by walk_at "E") (by walk_at "upd") ?_)
  | (show Exs _ _ _ _ ((.AugAssign _ _ _ _ :: _) :: _) _; refine S_aug (by walk_at "mem") (by walk_at "E") (by walk_at "I") (by walk_at "upd") ?_)
  | (show Exs _ _ _ _ ((.Assign [.Tuple _ _ _] _ _ :: _) :: _) _; refine S_unpack (by walk_at "E") (by walk_at "names") (by walk_at "upds") ?_))
local macro_rules | `(tactic| walk_at "S") => `(tactic| repeat walk_at "S1")
local macro_rules | `(tactic| walk_at "ret") => `(tactic| (with_reducible show Exs _ _ _ _ ((.Return _ _ :: _) :: _) _; with_reducible apply S_ret'; walk_at "E"))
local macro_rules | `(tactic| walk_at "weak") => `(tactic| with_reducible first | exact Weak.nil | (apply Weak.skip; walk_at "weak") | (apply Weak.same; walk_at "weak") | (apply Weak.keep; rotate_left; walk_at "weak"))
local macro_rules | `(tactic| walk_at "end") => `(tactic| ((repeat (with_reducible refine S_pop ?_)); with_reducible apply S_end'; walk_at "weak"))
local macro_rules | `(tactic| walk_at "weak") => `(tactic| with_reducible first | exact Weak.nil | (apply Weak.skip; walk_at "weak") | (apply Weak.same; walk_at "weak") | (apply Weak.keep; rotate_left; walk_at "weak"))
local macro_rules | `(tactic| walk_at "end") => `(tactic| ((repeat (with_reducible refine S_pop ?_)); with_reducible apply S_end'; walk_at "weak"))

theorem sp_signP {w : World} {z e : Int} (hc : Can z e) (h : 0 < z) : FnSpec w 1 "mpf_sign" [pvM z e] (.int 1) := by
  have := sp_sign (w := w) hc
  rwa [if_neg (by omega), if_neg (by omega)] at this
theorem sp_signN {w : World} {z e : Int} (hc : Can z e) (h : z < 0) : FnSpec w 1 "mpf_sign" [pvM z e] (.int (-1)) := by
  have := sp_sign (w := w) hc
  rwa [if_pos h] at this
theorem sp_signZ {w : World} : FnSpec w 1 "mpf_sign" [pvM 0 0] (.int 0) := sp_sign (w := w) (z := 0) (e := 0) (.inl ⟨rfl, rfl⟩)

/-- an interval that does not straddle the zero -/
inductive Side (z1 e1 z2 e2 : Int) : Prop
  | zero : z1 = 0 → e1 = 0 → z2 = 0 → e2 = 0 → Side z1 e1 z2 e2
  | pos : 0 < z1 → 0 < z2 → Side z1 e1 z2 e2
  | neg : z1 < 0 → z2 < 0 → Side z1 e1 z2 e2

theorem mulF {w : World} {z1 e1 z2 e2 : Int} {p : Nat} (h1 : Can z1 e1) (h2 : Can z2 e2) (hp : 1 ≤ p) (c : Bool) (hs1 : intBits z1 ≤ 8000) (hs2 : intBits z2 ≤ 8000) :
    ∃ z e, Can z e ∧ pvX p c (val z1 e1 * val z2 e2) = pvM z e ∧ FnSpec w 4 "mpf_mul" [pvM z1 e1, pvM z2 e2, .int p, .str (rS c)] (pvM z e) := by
  obtain ⟨z, e, hc, hr, hd⟩ := pvX_ex hp c (val z1 e1 * val z2 e2)
  have := sp_mul (w := w) h1 h2 hp c (by omega) (by omega)
  rw [hd] at this
  exact ⟨z, e, hc, hd, this⟩
theorem divF {w : World} {z1 e1 z2 e2 : Int} {p : Nat} (h1 : Can z1 e1) (h2 : Can z2 e2) (hp : 1 ≤ p) (c : Bool) (hz2 : z2 ≠ 0) (hs1 : intBits z1 ≤ 8000) (hs2 : intBits z2 ≤ 8000) (hps : p ≤ 8000) :
    ∃ z e, Can z e ∧ pvX p c (val z1 e1 / val z2 e2) = pvM z e ∧ FnSpec w 4 "mpf_div" [pvM z1 e1, pvM z2 e2, .int p, .str (rS c)] (pvM z e) := by
  obtain ⟨z, e, hc, hr, hd⟩ := pvX_ex hp c (val z1 e1 / val z2 e2)
  have := sp_div (w := w) h1 h2 hp c hz2 hs1 hs2 hps
  rw [hd] at this
  exact ⟨z, e, hc, hd, this⟩
theorem mul_le {a b c d : Rat} (ha : 0 ≤ a) (hab : a ≤ b) (hc : 0 ≤ c) (hcd : c ≤ d) : a * c ≤ b * d :=
  Rat.le_trans (Rat.mul_le_mul_of_nonneg_right hab hc) (Rat.mul_le_mul_of_nonneg_left hcd (Rat.le_trans ha hab))

theorem eqv_zero' {z e : Int} (hz : z ≠ 0) (d b c : Int) : PyData.eqv (pvM z e) (.tuple [.int d, .int 0, .int b, .int c]) = false := by
  simp only [PyData.eqv, PyData.eqvAll]
  have : ((z.natAbs : Int) == 0) = false := by simpa using hz
  rw [this]; simp
theorem eqv_fninf {z e : Int} (hc : Can z e) : PyData.eqv (pvM z e) (.tuple [.int 1, .int 0, .int (-789), .int (-3)]) = false := by
  by_cases h : z = 0
  · have := can_exp hc h
    subst h this
    decide +kernel
  · exact eqv_zero' h _ _ _
theorem eqv_finf {z e : Int} (hc : Can z e) : PyData.eqv (pvM z e) (.tuple [.int 0, .int 0, .int (-456), .int (-2)]) = false := by
  by_cases h : z = 0
  · have := can_exp hc h
    subst h this
    decide +kernel
  · exact eqv_zero h _ _ _
theorem val_negv {z e : Int} (h : z < 0) : val z e < 0 := by rw [← val_zero e]; exact val_lt.mpr h
/-- a product of two ends -/
def Prd (a1 f1 a2 f2 b1 g1 b2 g2 : Int) (r : Rat) : Prop := r = 0 ∨ ∃ u f v g : Int, ((u = a1 ∧ f = f1) ∨ (u = a2 ∧ f = f2)) ∧ ((v = b1 ∧ g = g1) ∨ (v = b2 ∧ g = g2)) ∧ r = val u f * val v g
set_option maxHeartbeats 8000000 in
theorem sp_imul {w : World} {a1 f1 a2 f2 b1 g1 b2 g2 : Int} {p : Nat} (ha1 : Can a1 f1) (ha2 : Can a2 f2) (hb1 : Can b1 g1) (hb2 : Can b2 g2) (hp : 1 ≤ p)
    (sx : Side a1 f1 a2 f2) (sy : Side b1 g1 b2 g2) (ka1 : intBits a1 ≤ 8000) (ka2 : intBits a2 ≤ 8000) (kb1 : intBits b1 ≤ 8000) (kb2 : intBits b2 ≤ 8000)
    {x y : Rat} (hx1 : val a1 f1 ≤ x) (hx2 : x ≤ val a2 f2) (hy1 : val b1 g1 ≤ y) (hy2 : y ≤ val b2 g2) :
    ∃ A B : Rat, A ≤ x * y ∧ x * y ≤ B ∧ Prd a1 f1 a2 f2 b1 g1 b2 g2 A ∧ Prd a1 f1 a2 f2 b1 g1 b2 g2 B ∧ FnSpec w 5 "mpi_mul" [pvI (pvM a1 f1) (pvM a2 f2), pvI (pvM b1 g1) (pvM b2 g2), .int p] (pvI (pvX p false A) (pvX p true B)) := by
  have zz : ∀ (u v : PV), u = pvX p false 0 → v = pvX p true 0 → pvI u v = pvI (pvX p false 0) (pvX p true 0) := fun u v h1 h2 => by rw [h1, h2]
  rcases sx with ⟨rfl, rfl, rfl, rfl⟩ | ⟨px1, px2⟩ | ⟨nx1, nx2⟩
  · have hx : x = 0 := by rw [val_zero] at hx1 hx2; exact Rat.le_antisymm hx2 hx1
    refine ⟨0, 0, by rw [hx, Rat.zero_mul]; exact Rat.le_refl, by rw [hx, Rat.zero_mul]; exact Rat.le_refl, .inl rfl, .inl rfl, ?_⟩
    have F0 := sp_signZ (w := w)
    have F1 := sp_sign (w := w) hb1
    have F2 := sp_sign (w := w) hb2
    generalize (if b1 < 0 then (-1 : Int) else if b1 = 0 then 0 else 1) = t1 at F1
    generalize (if b2 < 0 then (-1 : Int) else if b2 = 0 then 0 else 1) = t2 at F2
    refine fn_intro (Γ := ["mpf_sign", "fninf", "finf", "fzero", "mpf_mul", "round_floor", "round_ceiling", "fnan", "mpf_min_max", "mpf_pos"]) 293 (by kernel_rfl) (by rfl) (by kernel_rfl) ["s", "t", "prec"] ["sa", "sb", "ta", "tb", "sas", "sbs", "tas", "tbs", "a", "b", "cases"] [pvI (pvM 0 0) (pvM 0 0), pvI (pvM b1 g1) (pvM b2 g2), .int p] (by decide +kernel) rfl ?_ ?_
    · intro s vs ks H ra rk
      refine bindN ra rk fun vs hv => ?_
      match vs, hv with
      | [a, b, c], _ => exact binds_K (K := KK w) H.K rfl (by rfl) rfl rfl rfl
    intro ρ hρ; simp only [envZip_cons, envZip_nil, envZip_nil'] at hρ; subst hρ
    walk_at "S"
    refine S_if (by walk_at "T") (fun _ => ?_) (fun h => by cases h)
    refine S_if (T_eq (b₂ := false) (by walk_at "T") (by rw [eqv_fninf hb1, eqv_finf hb2]; rfl)) (fun h => by cases h) (fun _ => ?_)
    walk_at "S"
    walk_at "ret"
    exact zz _ _ pvX_zero.symm pvX_zero.symm
  · have F1 := sp_signP (w := w) ha1 px1
    have F2 := sp_signP (w := w) ha2 px2
    rcases sy with ⟨rfl, rfl, rfl, rfl⟩ | ⟨py1, py2⟩ | ⟨ny1, ny2⟩
    · have hy : y = 0 := by rw [val_zero] at hy1 hy2; exact Rat.le_antisymm hy2 hy1
      refine ⟨0, 0, by rw [hy, Rat.mul_zero]; exact Rat.le_refl, by rw [hy, Rat.mul_zero]; exact Rat.le_refl, .inl rfl, .inl rfl, ?_⟩
      have F3 := sp_signZ (w := w)
      refine fn_intro (Γ := ["mpf_sign", "fninf", "finf", "fzero", "mpf_mul", "round_floor", "round_ceiling", "fnan", "mpf_min_max", "mpf_pos"]) 293 (by kernel_rfl) (by rfl) (by kernel_rfl) ["s", "t", "prec"] ["sa", "sb", "ta", "tb", "sas", "sbs", "tas", "tbs", "a", "b", "cases"] [pvI (pvM a1 f1) (pvM a2 f2), pvI (pvM 0 0) (pvM 0 0), .int p] (by decide +kernel) rfl ?_ ?_
      · intro s vs ks H ra rk
        refine bindN ra rk fun vs hv => ?_
        match vs, hv with
        | [a, b, c], _ => exact binds_K (K := KK w) H.K rfl (by rfl) rfl rfl rfl
      intro ρ hρ; simp only [envZip_cons, envZip_nil, envZip_nil'] at hρ; subst hρ
      walk_at "S"
      refine S_if (by walk_at "T") (fun h => by cases h) (fun _ => ?_)
      walk_at "S"
      refine S_if (by walk_at "T") (fun _ => ?_) (fun h => by cases h)
      refine S_if (T_eq (b₂ := false) (by walk_at "T") (by rw [eqv_fninf ha1, eqv_finf ha2]; rfl)) (fun h => by cases h) (fun _ => ?_)
      walk_at "S"
      walk_at "ret"
      exact zz _ _ pvX_zero.symm pvX_zero.symm
    · have F3 := sp_signP (w := w) hb1 py1
      have F4 := sp_signP (w := w) hb2 py2
      obtain ⟨z, e, hc, hd, M1⟩ := mulF (w := w) ha1 hb1 hp false ka1 kb1
      obtain ⟨z', e', hc', hd', M2⟩ := mulF (w := w) ha2 hb2 hp true ka2 kb2
      have M1' : FnSpec w 4 "mpf_mul" [pvM a1 f1, pvM b1 g1, .int p, .str (Str.ofString "f")] (pvM z e) := M1
      have M2' : FnSpec w 4 "mpf_mul" [pvM a2 f2, pvM b2 g2, .int p, .str (Str.ofString "c")] (pvM z' e') := M2
      clear M1 M2
      refine ⟨val a1 f1 * val b1 g1, val a2 f2 * val b2 g2, ?_, ?_, .inr ⟨_, _, _, _, by simp, by simp, rfl⟩, .inr ⟨_, _, _, _, by simp, by simp, rfl⟩, ?_⟩
      · exact mul_le (Rat.le_of_lt (val_pos.mpr px1)) hx1 (Rat.le_of_lt (val_pos.mpr py1)) hy1
      · exact mul_le (Rat.le_trans (Rat.le_of_lt (val_pos.mpr px1)) hx1) hx2 (Rat.le_trans (Rat.le_of_lt (val_pos.mpr py1)) hy1) hy2
      rw [hd, hd']
      refine fn_intro (Γ := ["mpf_sign", "fninf", "finf", "fzero", "mpf_mul", "round_floor", "round_ceiling", "fnan", "mpf_min_max", "mpf_pos"]) 293 (by kernel_rfl) (by rfl) (by kernel_rfl) ["s", "t", "prec"] ["sa", "sb", "ta", "tb", "sas", "sbs", "tas", "tbs", "a", "b", "cases"] [pvI (pvM a1 f1) (pvM a2 f2), pvI (pvM b1 g1) (pvM b2 g2), .int p] (by decide +kernel) rfl ?_ ?_
      · intro s vs ks H ra rk
        refine bindN ra rk fun vs hv => ?_
        match vs, hv with
        | [a, b, c], _ => exact binds_K (K := KK w) H.K rfl (by rfl) rfl rfl rfl
      intro ρ hρ; simp only [envZip_cons, envZip_nil, envZip_nil'] at hρ; subst hρ
      walk_at "S"
      refine S_if (by walk_at "T") (fun h => by cases h) (fun _ => ?_)
      walk_at "S"
      refine S_if (by walk_at "T") (fun h => by cases h) (fun _ => ?_)
      walk_at "S"
      refine S_if (by walk_at "T") (fun _ => ?_) (fun h => by cases h)
      refine S_if (by walk_at "T") (fun _ => ?_) (fun h => by cases h)
      walk_at "S"
      refine S_if (T_eq (b₂ := false) (by walk_at "T") (eqv_nan hc)) (fun h => by cases h) (fun _ => ?_)
      walk_at "S"
      refine S_if (T_eq (b₂ := false) (by walk_at "T") (eqv_nan hc')) (fun h => by cases h) (fun _ => ?_)
      walk_at "S"
      walk_at "ret"
      rfl
    · have F3 := sp_signN (w := w) hb1 ny1
      have F4 := sp_signN (w := w) hb2 ny2
      obtain ⟨z, e, hc, hd, M1⟩ := mulF (w := w) ha2 hb1 hp false ka2 kb1
      obtain ⟨z', e', hc', hd', M2⟩ := mulF (w := w) ha1 hb2 hp true ka1 kb2
      have M1' : FnSpec w 4 "mpf_mul" [pvM a2 f2, pvM b1 g1, .int p, .str (Str.ofString "f")] (pvM z e) := M1
      have M2' : FnSpec w 4 "mpf_mul" [pvM a1 f1, pvM b2 g2, .int p, .str (Str.ofString "c")] (pvM z' e') := M2
      clear M1 M2
      refine ⟨val a2 f2 * val b1 g1, val a1 f1 * val b2 g2, ?_, ?_, .inr ⟨_, _, _, _, by simp, by simp, rfl⟩, .inr ⟨_, _, _, _, by simp, by simp, rfl⟩, ?_⟩
      · have h2 := val_negv (e := g2) ny2; have h := mul_le (a := x) (b := val a2 f2) (c := -y) (d := -val b1 g1) (Rat.le_trans (Rat.le_of_lt (val_pos.mpr px1)) hx1) hx2 (by grind) (by grind); grind
      · have h2 := val_negv (e := g2) ny2; have h := mul_le (a := val a1 f1) (b := x) (c := -val b2 g2) (d := -y) (Rat.le_of_lt (val_pos.mpr px1)) hx1 (by grind) (by grind); grind
      rw [hd, hd']
      refine fn_intro (Γ := ["mpf_sign", "fninf", "finf", "fzero", "mpf_mul", "round_floor", "round_ceiling", "fnan", "mpf_min_max", "mpf_pos"]) 293 (by kernel_rfl) (by rfl) (by kernel_rfl) ["s", "t", "prec"] ["sa", "sb", "ta", "tb", "sas", "sbs", "tas", "tbs", "a", "b", "cases"] [pvI (pvM a1 f1) (pvM a2 f2), pvI (pvM b1 g1) (pvM b2 g2), .int p] (by decide +kernel) rfl ?_ ?_
      · intro s vs ks H ra rk
        refine bindN ra rk fun vs hv => ?_
        match vs, hv with
        | [a, b, c], _ => exact binds_K (K := KK w) H.K rfl (by rfl) rfl rfl rfl
      intro ρ hρ; simp only [envZip_cons, envZip_nil, envZip_nil'] at hρ; subst hρ
      walk_at "S"
      refine S_if (by walk_at "T") (fun h => by cases h) (fun _ => ?_)
      walk_at "S"
      refine S_if (by walk_at "T") (fun h => by cases h) (fun _ => ?_)
      walk_at "S"
      refine S_if (by walk_at "T") (fun _ => ?_) (fun h => by cases h)
      refine S_if (by walk_at "T") (fun h => by cases h) (fun _ => ?_)
      refine S_if (by walk_at "T") (fun _ => ?_) (fun h => by cases h)
      walk_at "S"
      refine S_if (T_eq (b₂ := false) (by walk_at "T") (eqv_nan hc)) (fun h => by cases h) (fun _ => ?_)
      walk_at "S"
      refine S_if (T_eq (b₂ := false) (by walk_at "T") (eqv_nan hc')) (fun h => by cases h) (fun _ => ?_)
      walk_at "S"
      walk_at "ret"
      rfl
  · have F1 := sp_signN (w := w) ha1 nx1
    have F2 := sp_signN (w := w) ha2 nx2
    rcases sy with ⟨rfl, rfl, rfl, rfl⟩ | ⟨py1, py2⟩ | ⟨ny1, ny2⟩
    · have hy : y = 0 := by rw [val_zero] at hy1 hy2; exact Rat.le_antisymm hy2 hy1
      refine ⟨0, 0, by rw [hy, Rat.mul_zero]; exact Rat.le_refl, by rw [hy, Rat.mul_zero]; exact Rat.le_refl, .inl rfl, .inl rfl, ?_⟩
      have F3 := sp_signZ (w := w)
      refine fn_intro (Γ := ["mpf_sign", "fninf", "finf", "fzero", "mpf_mul", "round_floor", "round_ceiling", "fnan", "mpf_min_max", "mpf_pos"]) 293 (by kernel_rfl) (by rfl) (by kernel_rfl) ["s", "t", "prec"] ["sa", "sb", "ta", "tb", "sas", "sbs", "tas", "tbs", "a", "b", "cases"] [pvI (pvM a1 f1) (pvM a2 f2), pvI (pvM 0 0) (pvM 0 0), .int p] (by decide +kernel) rfl ?_ ?_
      · intro s vs ks H ra rk
        refine bindN ra rk fun vs hv => ?_
        match vs, hv with
        | [a, b, c], _ => exact binds_K (K := KK w) H.K rfl (by rfl) rfl rfl rfl
      intro ρ hρ; simp only [envZip_cons, envZip_nil, envZip_nil'] at hρ; subst hρ
      walk_at "S"
      refine S_if (by walk_at "T") (fun h => by cases h) (fun _ => ?_)
      walk_at "S"
      refine S_if (by walk_at "T") (fun _ => ?_) (fun h => by cases h)
      refine S_if (T_eq (b₂ := false) (by walk_at "T") (by rw [eqv_fninf ha1, eqv_finf ha2]; rfl)) (fun h => by cases h) (fun _ => ?_)
      walk_at "S"
      walk_at "ret"
      exact zz _ _ pvX_zero.symm pvX_zero.symm
    · have F3 := sp_signP (w := w) hb1 py1
      have F4 := sp_signP (w := w) hb2 py2
      obtain ⟨z, e, hc, hd, M1⟩ := mulF (w := w) ha1 hb2 hp false ka1 kb2
      obtain ⟨z', e', hc', hd', M2⟩ := mulF (w := w) ha2 hb1 hp true ka2 kb1
      have M1' : FnSpec w 4 "mpf_mul" [pvM a1 f1, pvM b2 g2, .int p, .str (Str.ofString "f")] (pvM z e) := M1
      have M2' : FnSpec w 4 "mpf_mul" [pvM a2 f2, pvM b1 g1, .int p, .str (Str.ofString "c")] (pvM z' e') := M2
      clear M1 M2
      refine ⟨val a1 f1 * val b2 g2, val a2 f2 * val b1 g1, ?_, ?_, .inr ⟨_, _, _, _, by simp, by simp, rfl⟩, .inr ⟨_, _, _, _, by simp, by simp, rfl⟩, ?_⟩
      · have h2 := val_negv (e := f2) nx2; have h := mul_le (a := -x) (b := -val a1 f1) (c := y) (d := val b2 g2) (by grind) (by grind) (Rat.le_trans (Rat.le_of_lt (val_pos.mpr py1)) hy1) hy2; grind
      · have h2 := val_negv (e := f2) nx2; have h := mul_le (a := -val a2 f2) (b := -x) (c := val b1 g1) (d := y) (by grind) (by grind) (Rat.le_of_lt (val_pos.mpr py1)) hy1; grind
      rw [hd, hd']
      refine fn_intro (Γ := ["mpf_sign", "fninf", "finf", "fzero", "mpf_mul", "round_floor", "round_ceiling", "fnan", "mpf_min_max", "mpf_pos"]) 293 (by kernel_rfl) (by rfl) (by kernel_rfl) ["s", "t", "prec"] ["sa", "sb", "ta", "tb", "sas", "sbs", "tas", "tbs", "a", "b", "cases"] [pvI (pvM a1 f1) (pvM a2 f2), pvI (pvM b1 g1) (pvM b2 g2), .int p] (by decide +kernel) rfl ?_ ?_
      · intro s vs ks H ra rk
        refine bindN ra rk fun vs hv => ?_
        match vs, hv with
        | [a, b, c], _ => exact binds_K (K := KK w) H.K rfl (by rfl) rfl rfl rfl
      intro ρ hρ; simp only [envZip_cons, envZip_nil, envZip_nil'] at hρ; subst hρ
      walk_at "S"
      refine S_if (by walk_at "T") (fun h => by cases h) (fun _ => ?_)
      walk_at "S"
      refine S_if (by walk_at "T") (fun h => by cases h) (fun _ => ?_)
      walk_at "S"
      refine S_if (by walk_at "T") (fun h => by cases h) (fun _ => ?_)
      refine S_if (by walk_at "T") (fun _ => ?_) (fun h => by cases h)
      refine S_if (by walk_at "T") (fun _ => ?_) (fun h => by cases h)
      walk_at "S"
      refine S_if (T_eq (b₂ := false) (by walk_at "T") (eqv_nan hc)) (fun h => by cases h) (fun _ => ?_)
      walk_at "S"
      refine S_if (T_eq (b₂ := false) (by walk_at "T") (eqv_nan hc')) (fun h => by cases h) (fun _ => ?_)
      walk_at "S"
      walk_at "ret"
      rfl
    · have F3 := sp_signN (w := w) hb1 ny1
      have F4 := sp_signN (w := w) hb2 ny2
      obtain ⟨z, e, hc, hd, M1⟩ := mulF (w := w) ha2 hb2 hp false ka2 kb2
      obtain ⟨z', e', hc', hd', M2⟩ := mulF (w := w) ha1 hb1 hp true ka1 kb1
      have M1' : FnSpec w 4 "mpf_mul" [pvM a2 f2, pvM b2 g2, .int p, .str (Str.ofString "f")] (pvM z e) := M1
      have M2' : FnSpec w 4 "mpf_mul" [pvM a1 f1, pvM b1 g1, .int p, .str (Str.ofString "c")] (pvM z' e') := M2
      clear M1 M2
      refine ⟨val a2 f2 * val b2 g2, val a1 f1 * val b1 g1, ?_, ?_, .inr ⟨_, _, _, _, by simp, by simp, rfl⟩, .inr ⟨_, _, _, _, by simp, by simp, rfl⟩, ?_⟩
      · have h2 := val_negv (e := f2) nx2; have h3 := val_negv (e := g2) ny2; have h := mul_le (a := -val a2 f2) (b := -x) (c := -val b2 g2) (d := -y) (by grind) (by grind) (by grind) (by grind); grind
      · have h2 := val_negv (e := f2) nx2; have h3 := val_negv (e := g2) ny2; have h := mul_le (a := -x) (b := -val a1 f1) (c := -y) (d := -val b1 g1) (by grind) (by grind) (by grind) (by grind); grind
      rw [hd, hd']
      refine fn_intro (Γ := ["mpf_sign", "fninf", "finf", "fzero", "mpf_mul", "round_floor", "round_ceiling", "fnan", "mpf_min_max", "mpf_pos"]) 293 (by kernel_rfl) (by rfl) (by kernel_rfl) ["s", "t", "prec"] ["sa", "sb", "ta", "tb", "sas", "sbs", "tas", "tbs", "a", "b", "cases"] [pvI (pvM a1 f1) (pvM a2 f2), pvI (pvM b1 g1) (pvM b2 g2), .int p] (by decide +kernel) rfl ?_ ?_
      · intro s vs ks H ra rk
        refine bindN ra rk fun vs hv => ?_
        match vs, hv with
        | [a, b, c], _ => exact binds_K (K := KK w) H.K rfl (by rfl) rfl rfl rfl
      intro ρ hρ; simp only [envZip_cons, envZip_nil, envZip_nil'] at hρ; subst hρ
      walk_at "S"
      refine S_if (by walk_at "T") (fun h => by cases h) (fun _ => ?_)
      walk_at "S"
      refine S_if (by walk_at "T") (fun h => by cases h) (fun _ => ?_)
      walk_at "S"
      refine S_if (by walk_at "T") (fun h => by cases h) (fun _ => ?_)
      refine S_if (by walk_at "T") (fun _ => ?_) (fun h => by cases h)
      refine S_if (by walk_at "T") (fun h => by cases h) (fun _ => ?_)
      refine S_if (by walk_at "T") (fun _ => ?_) (fun h => by cases h)
      walk_at "S"
      refine S_if (T_eq (b₂ := false) (by walk_at "T") (eqv_nan hc)) (fun h => by cases h) (fun _ => ?_)
      walk_at "S"
      refine S_if (T_eq (b₂ := false) (by walk_at "T") (eqv_nan hc')) (fun h => by cases h) (fun _ => ?_)
      walk_at "S"
      walk_at "ret"
      rfl
end Mine
end

-- WaI
section
namespace Mine
open PySem.Builtin (bitAnd bitXor)
open PySem.Builtin.Int (intBits)
local macro_rules | `(tactic| walk_at "mem") => `(tactic| with_reducible (first | exact List.mem_cons_self | (refine List.mem_cons_of_mem _ ?_; walk_at "mem")))
local macro_rules | `(tactic| walk_at "upd") => `(tactic| with_reducible (first | exact Upd.head | (apply Upd.tail; walk_at "upd")))
local macro_rules | `(tactic| walk_at "upds") => `(tactic| first | exact Upds.nil | exact Upds.cons (by walk_at "upd") (by walk_at "upds"))
local macro_rules | `(tactic| walk_at "names") => `(tactic| first | exact Names.nil | exact Names.cons (by walk_at "names"))
local macro_rules | `(tactic| walk_at "side") => `(tactic| first | assumption | decide | omega)
local macro_rules | `(tactic| walk_at "B") => `(tactic| with_reducible first
  | exact B_add | exact B_sub | (show BinV .Mult _ _ _; exact B_mul (by walk_at "side")) | (show BinV .FloorDiv _ _ _; exact B_fdiv (by walk_at "side") (by walk_at "side")) | (show BinV .Mod _ _ _; exact B_mod (by walk_at "side"))
  | (show BinV .LShift _ _ _; exact B_shl (by walk_at "side") (by walk_at "side")) | (show BinV .RShift _ _ _; exact B_shr (by walk_at "side")) | (show BinV .Pow _ _ _; exact B_pow (by walk_at "side") (by walk_at "side"))
  | exact B_and | exact B_xor | (show BinV .Add (.str _) _ _; exact B_adds (by walk_at "side")))
local macro_rules | `(tactic| walk_at "I") => `(tactic| with_reducible first
  | exact I_add | exact I_sub | (show IBinV .LShift _ _ _; exact I_shl (by walk_at "side") (by walk_at "side")) | (show IBinV .RShift _ _ _; exact I_shr (by walk_at "side")) | exact I_xor | (show IBinV .Add (.str _) _ _; exact I_adds (by walk_at "side")))
local macro_rules | `(tactic| walk_at "C") => `(tactic| with_reducible first
  | exact C_eq | exact C_ne | exact C_lt | exact C_le | exact C_gt | exact C_ge | exact C_eqs | exact C_nes
  | (show CmpV .Eq (.tuple _) (.tuple _) _; exact C_eqd (by with_unfolding_all rfl) (by with_unfolding_all rfl) (by with_unfolding_all exact Nat.le_of_ble_eq_true rfl))
  | (show CmpV .NotEq (.tuple _) (.tuple _) _; exact C_ned (by with_unfolding_all rfl) (by with_unfolding_all rfl) (by with_unfolding_all exact Nat.le_of_ble_eq_true rfl)))
local macro_rules | `(tactic| walk_at "U") => `(tactic| with_reducible first | exact U_neg | (show UnV .Not _ _; exact U_not (by walk_at "R")))
local macro_rules | `(tactic| walk_at "R") => `(tactic| with_reducible first | exact R_int | exact R_bool | (show TruV (.str _) _; exact R_str (by walk_at "side")))
local macro_rules | `(tactic| walk_at "G") => `(tactic| with_reducible first
  | exact gl_fzero | exact gl_zero | exact gl_one | exact gl_near | exact gl_floor | exact gl_ceil | exact gl_up | exact gl_down | exact gl_fnan | exact gl_finf | exact gl_fninf | exact gl_blog | exact gl_digits)
local macro_rules | `(tactic| walk_at "L") => `(tactic| with_reducible first | exact L_nil | (show EvL _ _ _ _ (_ :: _) _ _; exact L_cons (by walk_at "E") (by walk_at "L")))
local macro_rules | `(tactic| walk_at "M0") => `(tactic| with_reducible first | exact M_bitlen | (show Meth0 _ (.str _) _; first | exact M_strip (by walk_at "side") | exact M_lower (by walk_at "side")))
local macro_rules | `(tactic| walk_at "K") => `(tactic| with_reducible first | assumption | exact K_int | exact K_abs | exact K_max | exact K_min | (show CallV (.builtin "len") _ _; exact K_len (by walk_at "side")) | (show CallV (.builtin "divmod") _ _; exact K_divmod (by walk_at "side") (by walk_at "side")))
local macro_rules | `(tactic| walk_at "Ebi") => `(tactic| with_reducible first
  | (show EvE _ _ _ _ (.Call (.Name (Str.ofString "int") _) _ _ _) _ _; exact E_bi bi_int (by walk_at "mem") rfl (by walk_at "L") (by walk_at "K"))
  | (show EvE _ _ _ _ (.Call (.Name (Str.ofString "len") _) _ _ _) _ _; exact E_bi bi_len (by walk_at "mem") rfl (by walk_at "L") (by walk_at "K"))
  | (show EvE _ _ _ _ (.Call (.Name (Str.ofString "abs") _) _ _ _) _ _; exact E_bi bi_abs (by walk_at "mem") rfl (by walk_at "L") (by walk_at "K"))
  | (show EvE _ _ _ _ (.Call (.Name (Str.ofString "max") _) _ _ _) _ _; exact E_bi bi_max (by walk_at "mem") rfl (by walk_at "L") (by walk_at "K"))
  | (show EvE _ _ _ _ (.Call (.Name (Str.ofString "min") _) _ _ _) _ _; exact E_bi bi_min (by walk_at "mem") rfl (by walk_at "L") (by walk_at "K"))
  | (show EvE _ _ _ _ (.Call (.Name (Str.ofString "divmod") _) _ _ _) _ _; exact E_bi bi_divmod (by walk_at "mem") rfl (by walk_at "L") (by walk_at "K"))
  | (show EvE _ _ _ _ (.Call (.Name (Str.ofString "str") _) _ _ _) _ _; exact E_bi bi_str (by walk_at "mem") rfl (by walk_at "L") (by walk_at "K"))
  | (show EvE _ _ _ _ (.Call (.Name (Str.ofString "pow") _) _ _ _) _ _; exact E_bi bi_pow (by walk_at "mem") rfl (by walk_at "L") (by walk_at "K"))
  | (show EvE _ _ _ _ (.Call (.Name (Str.ofString "isinstance") _) _ _ _) _ _; exact E_isint (by walk_at "mem") (by walk_at "mem") (by walk_at "E")))
local macro_rules | `(tactic| walk_at "E") => `(tactic| with_reducible first
  | assumption
  | (show EvE _ _ _ _ (.Name _ _) _ _; first | exact E_name (by walk_at "mem") | exact E_gl (by walk_at "mem") (by walk_at "G"))
  | exact E_int
  | (show EvE _ _ _ _ (.BinOp _ _ _ _) _ _; exact E_bin (by walk_at "E") (by walk_at "E") (by walk_at "B"))
  | exact E_str | exact E_bool | exact E_none
  | (show EvE _ _ _ _ (.UnaryOp _ _ _) _ _; exact E_un (by walk_at "E") (by walk_at "U"))
  | (show EvE _ _ _ _ (.Tuple _ _ _) _ _; exact E_tup (by walk_at "L"))
  | (show EvE _ _ _ _ (.Call (.Name _ _) _ _ _) _ _; first | walk_at "Ebi" | exact E_call (by walk_at "mem") (by walk_at "L") (by assumption))
  | (show EvE _ _ _ _ (.BoolOp .Or [_, _] _) _ _; exact E_orp (by walk_at "E") (by walk_at "side"))
  | (show EvE _ _ _ _ (.Call (.Attribute _ _ _) [] [] _) _ _; exact E_meth0 (by walk_at "E") (by walk_at "M0"))
  | (show EvE _ _ _ _ (.Compare _ [_] [_] _) _ _; exact E_cmp (by walk_at "E") (by walk_at "E") (by walk_at "C")))
local macro_rules | `(tactic| walk_at "T") => `(tactic| with_reducible first
  | assumption
  | (show EvT _ _ _ _ (.UnaryOp .Not _ _) _ _; exact T_not (by walk_at "T")) | (show EvT _ _ _ _ (.Compare _ [_] [_] _) _ _; exact T_cmp (by walk_at "E") (by walk_at "E") (by walk_at "C"))
  | (show EvT _ _ _ _ (.Compare _ [_, _] [_, _] _) _ _; exact T_chain (by walk_at "E") (by walk_at "E") (by walk_at "C") (fun _ => by walk_at "E") (fun _ => by walk_at "C"))
  | (show EvT _ _ _ _ (.BoolOp _ _ _) _ _; exact T_bool (by walk_at "A")) | exact T_val (by walk_at "E") (by walk_at "R"))
local macro_rules | `(tactic| walk_at "A") => `(tactic| with_reducible first
  | exact A_and0 | exact A_or0 | (show EvA _ _ _ _ .And _ _ _; exact A_and (by walk_at "T") (fun _ => by walk_at "A")) | exact A_or (by walk_at "T") (fun _ => by walk_at "A"))
local macro_rules | `(tactic| walk_at "S1") => `(tactic| with_reducible first
  | refine S_pop ?_
  | (show Exs _ _ _ _ ((.Assign [.Name _ _] _ _ :: _) :: _) _; refine S_assign (by walk_at "E") (by walk_at "upd") ?_)
  | (show Exs _ _ _ _ ((.AugAssign _ _ _ _ :: _) :: _) _; refine S_aug (by walk_at "mem") (by walk_at "E") (by walk_at "I") (by walk_at "upd") ?_)
  | (show Exs _ _ _ _ ((.Assign [.Tuple _ _ _] _ _ :: _) :: _) _; refine S_unpack (by walk_at "E") (by walk_at "names") (by walk_at "upds") ?_))
local macro_rules | `(tactic| walk_at "S") => `(tactic| repeat walk_at "S1")
local macro_rules | `(tactic| walk_at "ret") => `(tactic| (with_reducible show Exs _ _ _ _ ((.Return _ _ :: _) :: _) _; with_reducible apply S_ret'; walk_at "E"))
local macro_rules | `(tactic| walk_at "weak") => `(tactic| with_reducible first | exact Weak.nil | (apply Weak.skip; walk_at "weak") | (apply Weak.same; walk_at "weak") | (apply Weak.keep; rotate_left; walk_at "weak"))
local macro_rules | `(tactic| walk_at "end") => `(tactic| ((repeat (with_reducible refine S_pop ?_)); with_reducible apply S_end'; walk_at "weak"))
local macro_rules | `(tactic| walk_at "weak") => `(tactic| with_reducible first | exact Weak.nil | (apply Weak.skip; walk_at "weak") | (apply Weak.same; walk_at "weak") | (apply Weak.keep; rotate_left; walk_at "weak"))
local macro_rules | `(tactic| walk_at "end") => `(tactic| ((repeat (with_reducible refine S_pop ?_)); with_reducible apply S_end'; walk_at "weak"))

set_option maxHeartbeats 4000000 in
theorem sp_idiv {w : World} {z e k f : Int} {p : Nat} (hz : Can z e) (hk : Can k f) (h0 : 0 < k) (hp : 1 ≤ p) (hs1 : intBits z ≤ 8000) (hs2 : intBits k ≤ 8000) (hps : p ≤ 8000) :
    FnSpec w 5 "mpi_div" [pvI (pvM z e) (pvM z e), pvI (pvM k f) (pvM k f), .int p] (pvI (pvX p false (val z e / val k f)) (pvX p true (val z e / val k f))) := by
  have F3 := sp_signP (w := w) hk h0
  rcases Int.lt_trichotomy z 0 with hn | rfl | hn
  · have F1 := sp_signN (w := w) hz hn
    obtain ⟨z1, e1, hc, hd, M1⟩ := divF (w := w) hz hk hp false (by omega) hs1 hs2 hps
    obtain ⟨z', e', hc', hd', M2⟩ := divF (w := w) hz hk hp true (by omega) hs1 hs2 hps
    have M1' : FnSpec w 4 "mpf_div" [pvM z e, pvM k f, .int p, .str (Str.ofString "f")] (pvM z1 e1) := M1
    have M2' : FnSpec w 4 "mpf_div" [pvM z e, pvM k f, .int p, .str (Str.ofString "c")] (pvM z' e') := M2
    clear M1 M2
    rw [hd, hd']
    refine fn_intro (Γ := ["mpf_sign", "fninf", "finf", "fzero", "mpf_div", "mpi_neg", "mpi_div", "round_floor", "round_ceiling", "fnan"]) 300 (by kernel_rfl) (by rfl) (by kernel_rfl) ["s", "t", "prec"] ["sa", "sb", "ta", "tb", "sas", "sbs", "tas", "tbs", "a", "b"] [pvI (pvM z e) (pvM z e), pvI (pvM k f) (pvM k f), .int p] (by decide +kernel) rfl ?_ ?_
    · intro s vs ks H ra rk
      refine bindN ra rk fun vs hv => ?_
      match vs, hv with
      | [a, b, c], _ => exact BindsTo.of_eq (by rfl)
    intro ρ hρ; simp only [envZip_cons, envZip_nil, envZip_nil'] at hρ; subst hρ
    walk_at "S"
    refine S_if (by walk_at "T") (fun h => by cases h) (fun _ => ?_)
    refine S_if (by walk_at "T") (fun h => by cases h) (fun _ => ?_)
    refine S_if (by walk_at "T") (fun h => by cases h) (fun _ => ?_)
    refine S_if (by walk_at "T") (fun h => by cases h) (fun _ => ?_)
    refine S_if (by walk_at "T") (fun h => by cases h) (fun _ => ?_)
    refine S_if (by walk_at "T") (fun _ => ?_) (fun h => by cases h)
    walk_at "S"
    refine S_if (T_eq (b₂ := false) (by walk_at "T") (eqv_nan hc)) (fun h => by cases h) (fun _ => ?_)
    walk_at "S"
    refine S_if (T_eq (b₂ := false) (by walk_at "T") (eqv_nan hc')) (fun h => by cases h) (fun _ => ?_)
    walk_at "S"
    walk_at "ret"
    rfl
  · have := can_exp hz rfl
    subst this
    have F1 := sp_signZ (w := w)
    have e0 : val 0 0 / val k f = 0 := by rw [val_zero, Rat.div_def, Rat.zero_mul]
    rw [e0, pvX_zero, pvX_zero]
    refine fn_intro (Γ := ["mpf_sign", "fninf", "finf", "fzero", "mpf_div", "mpi_neg", "mpi_div", "round_floor", "round_ceiling", "fnan"]) 300 (by kernel_rfl) (by rfl) (by kernel_rfl) ["s", "t", "prec"] ["sa", "sb", "ta", "tb", "sas", "sbs", "tas", "tbs", "a", "b"] [pvI (pvM 0 0) (pvM 0 0), pvI (pvM k f) (pvM k f), .int p] (by decide +kernel) rfl ?_ ?_
    · intro s vs ks H ra rk
      refine bindN ra rk fun vs hv => ?_
      match vs, hv with
      | [a, b, c], _ => exact BindsTo.of_eq (by rfl)
    intro ρ hρ; simp only [envZip_cons, envZip_nil, envZip_nil'] at hρ; subst hρ
    walk_at "S"
    refine S_if (by walk_at "T") (fun _ => ?_) (fun h => by cases h)
    refine S_if (by walk_at "T") (fun h => by cases h) (fun _ => ?_)
    walk_at "S"
    walk_at "ret"
    rfl
  · have F1 := sp_signP (w := w) hz hn
    obtain ⟨z1, e1, hc, hd, M1⟩ := divF (w := w) hz hk hp false (by omega) hs1 hs2 hps
    obtain ⟨z', e', hc', hd', M2⟩ := divF (w := w) hz hk hp true (by omega) hs1 hs2 hps
    have M1' : FnSpec w 4 "mpf_div" [pvM z e, pvM k f, .int p, .str (Str.ofString "f")] (pvM z1 e1) := M1
    have M2' : FnSpec w 4 "mpf_div" [pvM z e, pvM k f, .int p, .str (Str.ofString "c")] (pvM z' e') := M2
    clear M1 M2
    rw [hd, hd']
    refine fn_intro (Γ := ["mpf_sign", "fninf", "finf", "fzero", "mpf_div", "mpi_neg", "mpi_div", "round_floor", "round_ceiling", "fnan"]) 300 (by kernel_rfl) (by rfl) (by kernel_rfl) ["s", "t", "prec"] ["sa", "sb", "ta", "tb", "sas", "sbs", "tas", "tbs", "a", "b"] [pvI (pvM z e) (pvM z e), pvI (pvM k f) (pvM k f), .int p] (by decide +kernel) rfl ?_ ?_
    · intro s vs ks H ra rk
      refine bindN ra rk fun vs hv => ?_
      match vs, hv with
      | [a, b, c], _ => exact BindsTo.of_eq (by rfl)
    intro ρ hρ; simp only [envZip_cons, envZip_nil, envZip_nil'] at hρ; subst hρ
    walk_at "S"
    refine S_if (by walk_at "T") (fun h => by cases h) (fun _ => ?_)
    refine S_if (by walk_at "T") (fun h => by cases h) (fun _ => ?_)
    refine S_if (by walk_at "T") (fun h => by cases h) (fun _ => ?_)
    refine S_if (by walk_at "T") (fun h => by cases h) (fun _ => ?_)
    refine S_if (by walk_at "T") (fun _ => ?_) (fun h => by cases h)
    walk_at "S"
    refine S_if (T_eq (b₂ := false) (by walk_at "T") (eqv_nan hc)) (fun h => by cases h) (fun _ => ?_)
    walk_at "S"
    refine S_if (T_eq (b₂ := false) (by walk_at "T") (eqv_nan hc')) (fun h => by cases h) (fun _ => ?_)
    walk_at "S"
    walk_at "ret"
    rfl
end Mine
end

-- TxA
section
namespace Mine
open PySem.Builtin PySem.Builtin.Str PySem.StrLaws

/-- the text with these code points -/
def tx (l : List Nat) : Str := ⟨l.toArray⟩
theorem tx_inj {a b : List Nat} (h : tx a = tx b) : a = b := by
  have := congrArg (fun x => x.cps.toList) h
  simpa [tx] using this
theorem tx_cps (l : List Nat) : (tx l).cps.toList = l := by simp [tx]
theorem tx_len (l : List Nat) : (tx l).length = l.length := by simp [tx, Str.length]
theorem tx_add (a b : List Nat) : tx a ++ tx b = tx (a ++ b) := by
  apply Str.ext'; show (tx a).cps ++ (tx b).cps = _; simp [tx]
theorem tx_of (x : Str) : x = tx x.cps.toList := by apply Str.ext'; simp [tx]

theorem tx_to (l : List Nat) {j : Int} (h : 0 ≤ j ∧ j ≤ l.length) : Txt.slice (tx l) none (some j) = tx (l.take j.toNat) := by
  have := sliceText_to (x := tx l) (j := j) (by rw [tx_cps]; exact h)
  rw [tx_cps, List.drop_zero, Int.sub_zero] at this
  exact this
theorem tx_from (l : List Nat) {i : Int} (h : 0 ≤ i ∧ i ≤ l.length) : Txt.slice (tx l) (some i) none = tx (l.drop i.toNat) := by
  have := sliceText_from (x := tx l) (i := i) (by rw [tx_cps]; exact h)
  rw [tx_cps] at this
  rw [List.take_of_length_le (by simp; omega)] at this
  exact this
theorem tx_item {l : List Nat} {i : Nat} {c : Nat} (h : l[i]? = some c) : Txt.item (tx l) i = tx [c] := by
  unfold Txt.item Txt.charAt
  have hl : i < l.length := (List.getElem?_eq_some_iff.mp h).1
  rw [at_nonneg (i := (i : Int)) (n := c) (by omega) (by simpa [tx] using h)]
  rfl
theorem tx_item_neg {l : List Nat} {c : Nat} (h : l.getLast? = some c) : Txt.item (tx l) (-1) = tx [c] := by
  unfold Txt.item Txt.charAt
  have hl : 0 < l.length := by cases l with | nil => simp at h | cons => simp
  rw [at_neg (i := (-1 : Int)) (n := c) (by omega) (by rw [tx_len]; omega) (by
    rw [tx_len]
    have e : (-1 + (l.length : Int)).toNat = l.length - 1 := by omega
    rw [e]
    rw [List.getLast?_eq_getElem?] at h
    simpa [tx] using h)]
  rfl
theorem tx_has1 (l : List Nat) (c : Nat) : Txt.contains (tx l) (tx [c]) = decide (c ∈ l) := by
  have := found_one (tx l) c
  rw [tx_cps] at this
  exact this

theorem join_nil (p : List (List Nat)) : (Str.join (tx []) (p.map tx)) = tx p.flatten := by
  induction p with
  | nil => rfl
  | cons a r ih =>
    cases r with
    | nil => show tx a = _; simp
    | cons b r =>
      show tx a ++ tx [] ++ Str.join (tx []) ((b :: r).map tx) = _
      rw [ih, tx_add, tx_add]; simp

/-- the join of lists with a separator -/
def jn (s : List Nat) : List (List Nat) → List Nat
  | [] => []
  | [x] => x
  | x :: r => x ++ s ++ jn s r
theorem join_jn (s : List Nat) : ∀ p : List (List Nat), Str.join (tx s) (p.map tx) = tx (jn s p)
  | [] => rfl
  | [x] => rfl
  | x :: y :: r => by
    show tx x ++ tx s ++ Str.join (tx s) ((y :: r).map tx) = tx (x ++ s ++ jn s (y :: r))
    rw [join_jn s (y :: r), tx_add, tx_add]

theorem jn_free {c : Nat} {s : List Nat} (hs : s = [c]) : ∀ (p q : List (List Nat)), p ≠ [] → q ≠ [] → (∀ x ∈ p, c ∉ x) → (∀ x ∈ q, c ∉ x) → jn s p = jn s q → p = q := by
  subst hs
  have cut : ∀ (a b u v : List Nat), c ∉ a → c ∉ b → a ++ c :: u = b ++ c :: v → a = b ∧ u = v := by
    intro a
    induction a with
    | nil =>
      intro b u v _ hb e
      cases b with
      | nil => simpa using e
      | cons y b => simp at e hb; exact absurd e.1 hb.1
    | cons x a ih =>
      intro b u v ha hb e
      cases b with
      | nil => simp at e ha; exact absurd e.1.symm ha.1
      | cons y b =>
        simp at e ha hb
        obtain ⟨e1, e2⟩ := ih b u v ha.2 hb.2 e.2
        exact ⟨by rw [e.1, e1], e2⟩
  have one : ∀ (a b v : List Nat), c ∉ a → a = b ++ c :: v → False := by
    intro a b v ha e; subst e; simp at ha
  intro p
  induction p with
  | nil => intro q hp; exact absurd rfl hp
  | cons x p ih =>
    intro q _ hq fp fq e
    cases q with
    | nil => exact absurd rfl hq
    | cons y q =>
      cases p with
      | nil =>
        cases q with
        | nil => simpa [jn] using e
        | cons z q => exact (one x y (jn [c] (z :: q)) (fp x (by simp)) (by simpa [jn] using e)).elim
      | cons x' p =>
        cases q with
        | nil => exact (one y x (jn [c] (x' :: p)) (fq y (by simp)) (by simpa [jn] using e.symm)).elim
        | cons z q =>
          obtain ⟨e1, e2⟩ := cut x y (jn [c] (x' :: p)) (jn [c] (z :: q)) (fp x (by simp)) (fq y (by simp)) (by simpa [jn] using e)
          rw [e1, ih (z :: q) (by simp) (by simp) (fun a ha => fp a (List.mem_cons_of_mem _ ha)) (fun a ha => fq a (List.mem_cons_of_mem _ ha)) e2]

theorem split_ne (x y : Str) : Txt.split x y ≠ [] := by
  unfold Txt.split
  split
  · simp
  · split
    · simp
    · rw [partsBetween_eq]
      obtain ⟨p, r, e⟩ := partsFrom_ne x y.length 0 (occurrences x y 0 x.length (x.length + 1))
      rw [e]; simp
theorem map_tx (l : List Str) : (l.map (fun x => x.cps.toList)).map tx = l := by
  rw [List.map_map]
  conv => rhs; rw [← List.map_id l]
  exact List.map_congr_left fun x _ => (tx_of x).symm
/-- splitting at a single character -/
theorem tx_split {c : Nat} (p : List (List Nat)) (hp : p ≠ []) (hf : ∀ x ∈ p, c ∉ x) : Txt.split (tx (jn [c] p)) (tx [c]) = p.map tx := by
  have e := join_split (tx (jn [c] p)) (tx [c])
  have hfree := split_free (tx (jn [c] p)) c
  have hne := split_ne (tx (jn [c] p)) (tx [c])
  change ∀ q ∈ Txt.split (tx (jn [c] p)) (tx [c]), c ∉ q.cps.toList at hfree
  generalize Txt.split (tx (jn [c] p)) (tx [c]) = r at *
  rw [← map_tx r, join_jn] at e
  have := jn_free (c := c) (s := [c]) rfl _ _ (by simpa using hne) hp (by simpa using hfree) hf (tx_inj e)
  rw [← map_tx r, this]
theorem tx_split1 {c : Nat} {l : List Nat} (h : c ∉ l) : Txt.split (tx l) (tx [c]) = [tx l] := tx_split [l] (by simp) (by simpa using h)
theorem tx_split2 {c : Nat} {a b : List Nat} (h : c ∉ a) (h' : c ∉ b) : Txt.split (tx (a ++ c :: b)) (tx [c]) = [tx a, tx b] := by
  have := tx_split [a, b] (by simp) (by simp; exact ⟨h, h'⟩)
  simpa [jn] using this

/-- a character is taken out -/
def del (c : Nat) (l : List Nat) : List Nat := l.filter (fun x => decide (x ≠ c))
theorem exists_jn (c : Nat) : ∀ l : List Nat, ∃ p : List (List Nat), p ≠ [] ∧ (∀ x ∈ p, c ∉ x) ∧ jn [c] p = l ∧ p.flatten = del c l
  | [] => ⟨[[]], by simp, by simp, rfl, rfl⟩
  | a :: l => by
    obtain ⟨p, hp, hf, e, e'⟩ := exists_jn c l
    by_cases h : a = c
    · subst h
      refine ⟨[] :: p, by simp, by simpa using hf, ?_, by simpa [del] using e'⟩
      cases p with
      | nil => exact absurd rfl hp
      | cons x p => simp [jn, ← e]
    · cases p with
      | nil => exact absurd rfl hp
      | cons x p =>
        refine ⟨(a :: x) :: p, by simp, ?_, ?_, ?_⟩
        · intro y hy
          rcases List.mem_cons.mp hy with rfl | hy
          · simp only [List.mem_cons, not_or]; exact ⟨Ne.symm h, hf x (by simp)⟩
          · exact hf y (List.mem_cons_of_mem _ hy)
        · cases p with
          | nil => simp [jn] at e ⊢; exact e
          | cons y p => simp [jn] at e ⊢; exact e
        · simp [del, h] at e' ⊢; exact e'
theorem tx_del (l : List Nat) (c : Nat) : Txt.replace (tx l) (tx [c]) (tx []) = tx (del c l) := by
  obtain ⟨p, hp, hf, e, e'⟩ := exists_jn c l
  have := replace_one (tx l) (tx []) c
  change Txt.replace (tx l) (tx [c]) (tx []) = Str.join (tx []) (Txt.split (tx l) (tx [c])) at this
  rw [this, ← e', ← join_nil, ← tx_split p hp hf, e]
theorem del_none {c : Nat} {l : List Nat} (h : c ∉ l) : del c l = l := by
  unfold del
  rw [List.filter_eq_self]
  intro a ha
  have : a ≠ c := by rintro rfl; exact h ha
  simpa using this
theorem del_app (c : Nat) (a b : List Nat) : del c (a ++ b) = del c a ++ del c b := by simp [del]

/-! characters: digits, minus, plus, point, e, slash ... all small, none a space, none upper case -/
theorem low_small : ∀ c : Nat, c < 128 → (c < 65 ∨ 90 < c) → Unicode.lowerOf c = [c] := by decide +kernel
theorem tx_lower {l : List Nat} (h : ∀ c ∈ l, c < 128 ∧ (c < 65 ∨ 90 < c)) : Txt.lower (tx l) = tx l := by
  apply Str.ext'
  unfold Txt.lower placed
  have e : (tx l).cps.mapIdx (fun i c => (Unicode.lowerAt (tx l).cps i).toArray) = l.toArray.map (fun c => #[c]) := by
    apply Array.ext
    · simp [tx]
    · intro i h1 h2
      simp only [Array.getElem_mapIdx, Array.getElem_map]
      have hi : i < l.length := by simpa [tx] using h1
      unfold Unicode.lowerAt
      have e1 : (tx l).cps[i]? = some l[i] := by simp [tx, hi]
      rw [e1]
      have hm := h l[i] (List.getElem_mem hi)
      have e2 : (l[i] == 0x3A3) = false := by simp; omega
      simp only [e2, Bool.false_and, Bool.false_eq_true, if_false]
      rw [low_small _ hm.1 hm.2]
      simp
  simp only [e]
  apply Array.toList_inj.mp
  simp [tx, Array.toList_flatten, List.map_map, Function.comp_def]
  clear h e
  induction l with
  | nil => rfl
  | cons a r ih => simp [ih]
theorem takeWhile_none {p : Nat → Bool} {l : List Nat} (h : ∀ c, l.head? = some c → p c = false) : l.takeWhile p = [] := by
  cases l with
  | nil => rfl
  | cons a r => rw [List.takeWhile_cons, h a rfl]; rfl
theorem tx_strip {l : List Nat} (h1 : ∀ c, l.head? = some c → Unicode.isSpace c = false) (h2 : ∀ c, l.getLast? = some c → Unicode.isSpace c = false) : Txt.strip (tx l) = tx l := by
  unfold Txt.strip Txt.stripBy
  have e1 : stripLo Unicode.isSpace true (tx l) = 0 := by
    unfold stripLo; rw [tx_cps, takeWhile_none h1]; rfl
  have e2 : stripHi Unicode.isSpace true (tx l) 0 = (tx l).length := by
    unfold stripHi
    rw [tx_cps, List.drop_zero, takeWhile_none (by simpa using h2)]; rfl
  have : stripSame Unicode.isSpace true true (tx l) = true := by
    unfold stripSame; rw [e1, e2]; simp
  rw [this]; rfl
/-- the end that is made of c is taken off -/
def rs (c : Nat) (l : List Nat) : List Nat := (l.reverse.dropWhile (· == c)).reverse
theorem rs_split (c : Nat) (l : List Nat) : ∃ k, l = rs c l ++ List.replicate k c ∧ (∀ x, (rs c l).getLast? = some x → x ≠ c) := by
  refine ⟨(l.reverse.takeWhile (· == c)).length, ?_, ?_⟩
  · have e := List.takeWhile_append_dropWhile (p := (· == c)) (l := l.reverse)
    have e' := congrArg List.reverse e
    rw [List.reverse_append, List.reverse_reverse] at e'
    have e2 : (List.takeWhile (· == c) l.reverse).reverse = List.replicate (l.reverse.takeWhile (· == c)).length c := ?_
    · unfold rs; rw [← e2]; exact e'.symm
    rw [List.eq_replicate_iff]
    refine ⟨by simp, fun b hb => ?_⟩
    have hm : b ∈ l.reverse.takeWhile (· == c) := by simpa using hb
    have := List.all_takeWhile (p := (· == c)) (l := l.reverse)
    rw [List.all_eq_true] at this
    simpa using this b hm
  · intro x hx
    unfold rs at hx
    rw [List.getLast?_reverse] at hx
    have := List.head?_dropWhile_not (· == c) l.reverse
    rw [hx] at this
    simpa using this
theorem tx_rs (l : List Nat) (c : Nat) : Txt.rstripChars (tx l) (tx [c]) = tx (rs c l) := by
  unfold Txt.rstripChars Txt.stripBy
  have ec : (tx [c]).cps.contains = (fun x => x == c) := by funext x; rw [Bool.eq_iff_iff]; simp [tx]
  rw [ec]
  have hk : stripHi (fun x => x == c) true (tx l) 0 = (rs c l).length := by
    unfold stripHi rs
    rw [tx_cps, List.drop_zero, tx_len]
    have e := congrArg List.length (List.takeWhile_append_dropWhile (p := (fun x => x == c)) (l := l.reverse))
    simp only [List.length_append, List.length_reverse] at e ⊢
    simp only [if_true]; omega
  have e0 : stripLo (fun x => x == c) false (tx l) = 0 := rfl
  obtain ⟨k, hl, _⟩ := rs_split c l
  split
  · rename_i h
    unfold stripSame at h
    rw [e0, hk, tx_len] at h
    have hlen : (rs c l).length = l.length := by simpa using h
    have : k = 0 := by have := congrArg List.length hl; simp at this; omega
    rw [this] at hl
    simp at hl
    rw [← hl]
  · unfold PySem.stripped
    rw [e0, hk]
    apply Str.ext'
    apply Array.toList_inj.mp
    rw [strSub_toList, tx_cps, tx_cps]
    rw [List.drop_zero, Nat.sub_zero]
    have e := congrArg (List.take (rs c l).length) hl
    rw [e]; simp
end Mine
end

-- PyI
section
namespace Mine
open PySem.Builtin PySem.Builtin.Str
section
variable {w : World} {n : Nat} {Γ : List Str} {ρ ρ₁ ρ₂ ρ₃ : PEnv} {e l r : Expr} {a b c d : PV} {p p' : Pos}

theorem callWith_two {M : Model} {A : Around} {E : Value → Shared → Prop} {s : Shared} {pos : Pos} {id : String} {self : Value} {t₁ t₂ : Sem Value} {Q : Value → Shared → Prop}
    (h : wpAny M A t₁ (fun v s₁ => wpAny M A t₂ (fun u s₂ => wpAny M A (call (.builtin id) [self, v, u]) Q E s₂) E s₁) E s) :
    wpAny M A (callWith pos (.builtin id) [self] [(false, t₁), (false, t₂)] []) Q E s :=
  Calls.callWith_builtin rfl (Calls.evalArgs_plain (Calls.spliced_cons (wpAny_mono h (fun _ _ h₁ => Calls.spliced_cons (wpAny_mono h₁ (fun _ _ h₂ => Calls.spliced_nil h₂) fun _ _ e => e)) fun _ _ e => e)))

theorem E_replace {x y z : Str} {apos p1 p2 : Pos} {k1 k2 : Nat} (h1 : EvE w n Γ ρ e (.str x) ρ₁) (hyz : (y == z) = false) (hb : x.length + (x.length + 1) * z.length ≤ 16777216)
    (hline : (apos.endLine == p.line) = true := by with_unfolding_all rfl)
    (hbase : ∀ env whole, attributeBase e (Str.ofString "replace") env whole = whole := by intros; with_unfolding_all rfl) :
    EvE w n Γ ρ (.Call (.Attribute e (Str.ofString "replace") apos) [.Constant (.str y) k1 p1, .Constant (.str z) k2 p2] [] p) (.str (Txt.replace x y z)) ρ₁ := by
  constructor; intro nm scope L ad cd A h₀ s Q E I R hp h
  refine withToks hp (Call_method2 (hbase _ _) rfl hline (h1.run nm scope L ad cd A h₀ s _ E I R hp fun va h' tk hp' I' g r1 => ?_))
  obtain ⟨t, rfl⟩ := r1.str
  refine ⟨"str", "str.replace", F.plainAttrs_str, F.slot_str_replace, F.type_str_replace, typeIs_str _ _ _, (fun a e => by cases e), callWith_two ?_⟩
  refine wpAny_Constant_str (wpAny_Constant_str ?_)
  refine SC.replace (by show tk ≠ 0; omega) (by show tk + 1 ≠ 0; omega) (by show tk ≠ tk + 1; omega) hyz hb fun t' k hp3 => ?_
  exact h _ h' k hp3 I' g rep_str

theorem repStrs {h : Heap} : ∀ l : List (Str × Tok), RepAll h (strValues l) ((l.map (·.1)).map PyData.str)
  | [] => .nil
  | (x, t) :: l => .cons rep_str (repStrs l)
theorem parts_len (x y : Str) : (partsBetween x (occurrences x y 0 x.length (x.length + 1)) y.length).length ≤ x.length + 2 := by
  unfold partsBetween
  have := StrLaws.occ_length_le_len x y 0 x.length (x.length + 1)
  simp only [List.length_map, List.length_zip, List.length_cons, List.length_append]
  omega
theorem M_split {x y : Str} (hx : x.length + 2 ≤ sizeLine) (hy : (y.length == 0) = false) : Meth1 (Str.ofString "split") (.str x) (.str y) (.list ((Txt.split x y).map .str)) := by
  constructor; intro w A s va tree pos Q E R ra h
  obtain ⟨t, rfl⟩ := ra.str
  refine ⟨"str", "str.split", F.plainAttrs_str, F.slot_str_split, F.type_str_split, typeIs_str _ _ _, (fun a e => by cases e), ?_⟩
  refine Calls.callWith_builtin rfl (Calls.evalArgs_plain (Calls.spliced_cons (wpAny_mono h (fun v s₁ q => Calls.spliced_nil ?_) fun _ _ x => x)))
  obtain ⟨rb, _, k⟩ := q
  obtain ⟨u, rfl⟩ := rb.str
  refine SCH.split1 (P := fun h => Grow s₁.heap h) (keptGrow _) (Grow.refl _) hy (fun D l h' tk e g il => ?_) (by omega) (Nat.le_trans (parts_len _ _) hx)
  refine k _ h' tk g ?_
  rw [← e]
  exact rep_list il (repStrs l)

theorem C_in {x y : Str} : CmpV .In (.str y) (.str x) (Txt.contains x y) := by
  constructor; intro w A s va vb Q E R ra rb h
  obtain ⟨t, rfl⟩ := ra.str
  obtain ⟨u, rfl⟩ := rb.str
  exact SB.contains (h s.heap s.toks (Grow.refl _))
theorem C_notin {x y : Str} : CmpV .NotIn (.str y) (.str x) (!Txt.contains x y) := by
  constructor; intro w A s va vb Q E R ra rb h
  obtain ⟨t, rfl⟩ := ra.str
  obtain ⟨u, rfl⟩ := rb.str
  exact SB.notContains (h s.heap s.toks (Grow.refl _))

theorem K_ints {x : Str} {i : Int} (hn : PySem.intText? x = some i) (hl : x.length ≤ 640) : CallV (.type "int") [.str x] (.int i) := by
  constructor; intro w A s vs Q E R hp H ra h
  obtain ⟨v, rfl, r⟩ := repAll1 ra
  obtain ⟨t, rfl⟩ := r.str
  exact KIN.call_text hn hl (h _ s.heap _ (Grow.refl _) rep_int)
theorem K_str {i : Int} (hn : i.natAbs.log2 < 1920) : CallV (.type "str") [.int i] (.str (Str.ofString (toString i))) := by
  constructor; intro w A s vs Q E R hp H ra h
  obtain ⟨v, rfl, r⟩ := repAll1 ra
  obtain ⟨t, rfl⟩ := r.int
  exact P.str_of_int hn (h _ s.heap _ (Grow.refl _) rep_str)

theorem B_strmul {x : Str} {i : Int} (hok : MulOk x i) : BinV .Mult (.str x) (.int i) (.str (Txt.mul x i)) := by
  constructor; intro w A s va vb Q E R ra rb h
  obtain ⟨t, rfl⟩ := ra.str
  obtain ⟨u, rfl⟩ := rb.int
  exact SB.mul hok fun t' k => h _ s.heap k (Grow.refl _) rep_str

/-! startswith with a tuple -/
theorem meets_starts {x : Str} {t : Tok} {a : Addr} (l : List (Str × Tok)) (hf : ∀ y ∈ l, Txt.startswith x y.1 = false) :
    Meets («str.startswith» ⟨[.str x t, .ref a], []⟩) (fun _ R s => IsTup s.heap a (strValues l).toArray ∧ R (.ok (.ret (.bool false))) s) := by
  refine Meets.of_wp fun prog w A R s hS => ?_
  obtain ⟨⟨o, ho, hc, k, hd⟩, hR⟩ := hS
  unfold Builtin.«str.startswith» affixEntry
  refine wpAny_bind (wpAny_of_eq (a := (.str x t, x, [.ref a])) rfl ?_)
  refine wpAny_bind (wpAny_of_eq (a := (0, min x.length x.length)) rfl ?_)
  refine wpAny_bind (KPt.asStr_ref ho hd ?_)
  refine wpAny_bind (wpAny_isInstance (T := "tuple") ⟨o, ho, hc⟩ KPt.sub_tt ?_)
  refine wpAny_ite_true rfl ?_
  refine wpAny_bind (wpAny_rule ?_)
  refine wpAny_bind (wpAny_seqItems ho hd ?_)
  refine wpAny_bind (MeetsSeq2.wpAny_forIn_array _ (fun rest b s' => b = (none, ()) ∧ s' = s ∧ ∃ l', rest = strValues l' ∧ ∀ y ∈ l', Txt.startswith x y.1 = false) _ ?_ ?_ _ _ ⟨rfl, rfl, l, by simp, hf⟩)
  · rintro yv rest b s' ⟨rfl, rfl, l', e, hl⟩
    cases l' with
    | nil => cases e
    | cons yt l' =>
      obtain ⟨y, u⟩ := yt
      have e1 : yv = .str y u := (List.cons.inj e).1
      have e2 : rest = strValues l' := (List.cons.inj e).2
      subst e1
      refine wpAny_bind (wpAny_of_eq (a := some y) rfl ?_)
      have hy := hl (y, u) (List.mem_cons_self)
      unfold Txt.startswith at hy
      have hy' : (decide (0 + y.length ≤ min x.length x.length) && subAt x y 0) = false := by rw [Nat.min_self]; exact hy
      refine wpAny_ite_false (decide_eq_false (fun hh => Bool.false_ne_true (hy'.symm.trans hh))) ?_
      exact wpAny_pure ⟨rfl, rfl, l', e2, fun y h => hl y (List.mem_cons_of_mem _ h)⟩
  · rintro b s' ⟨rfl, rfl, _⟩
    exact wpAny_pure ⟨_, rfl, hR⟩
theorem strs_of {h : Heap} : ∀ {vs : List Value} {ys : List Str}, RepAll h vs (ys.map PyData.str) → ∃ l : List (Str × Tok), vs = strValues l ∧ l.map (·.1) = ys
  | vs, [], r => ⟨[], by rw [r.unnil]; rfl, rfl⟩
  | vs, y :: ys, r => by
    obtain ⟨v, vr, rfl, r1, r2⟩ := r.uncons
    obtain ⟨t, rfl⟩ := r1.str
    obtain ⟨l, rfl, e⟩ := strs_of r2
    exact ⟨(y, t) :: l, rfl, by simp [e]⟩
theorem M_starts {x : Str} {ys : List Str} (hf : ∀ y ∈ ys, Txt.startswith x y = false) : Meth1 (Str.ofString "startswith") (.str x) (.tuple (ys.map .str)) (.bool false) := by
  constructor; intro w A s va tree pos Q E R ra h
  obtain ⟨t, rfl⟩ := ra.str
  refine ⟨"str", "str.startswith", F.plainAttrs_str, F.slot_str_startswith, F.type_str_startswith, typeIs_str _ _ _, (fun a e => by cases e), ?_⟩
  refine Calls.callWith_builtin rfl (Calls.evalArgs_plain (Calls.spliced_cons (wpAny_mono h (fun v s₁ q => Calls.spliced_nil ?_) fun _ _ x => x)))
  obtain ⟨rb, _, k⟩ := q
  obtain ⟨a, vs, rfl, ht, rv⟩ := rb.tup
  obtain ⟨l, rfl, e⟩ := strs_of rv
  refine call_meets F.slot_str_startswith (typeIs_str _ _ _) F.entry_str_startswith (F.args_str_startswith_2 _ _) (meets_starts l fun y hy => hf _ (by rw [← e]; exact List.mem_map_of_mem hy)) ⟨ht, ?_⟩
  exact k _ s₁.heap s₁.toks (Grow.refl _) rep_bool
end
end Mine
end

-- PyJ
section
namespace Mine
open PySem.Builtin PySem.Builtin.Str

/-! what is read stays read when objects that are no sequences change -/
def NoSeqs (wr : List Addr) (h : Heap) : Prop := ∀ b ∈ wr, ∀ o, h.get? b = some o → ∀ vs k, o.data ≠ .seq vs k
mutual
theorem reads_wr {wr : List Addr} {h h' : Heap} (hL : NoSeqs wr h) (g : ∀ b o, b ∉ wr → h.get? b = some o → h'.get? b = some o) : ∀ {v : Value} {d : PV} {as : List Addr}, noDict d = true → Reads h v d as → Reads h' v d as
  | _, _, _, _, .none => .none
  | _, _, _, _, .bool b => .bool b
  | _, _, _, _, .int i t => .int i t
  | _, _, _, _, .str x t => .str x t
  | _, _, _, hn, .list h1 h2 h3 h4 => .list (g _ _ (fun hb => hL _ hb _ h1 _ _ h3) h1) h2 h3 (readsAll_wr hL g (by simpa [noDict] using hn) h4)
  | _, _, _, hn, .tuple h1 h2 h3 h4 => .tuple (g _ _ (fun hb => hL _ hb _ h1 _ _ h3) h1) h2 h3 (readsAll_wr hL g (by simpa [noDict] using hn) h4)
  | _, _, _, hn, .dict .. => by simp [noDict] at hn
theorem readsAll_wr {wr : List Addr} {h h' : Heap} (hL : NoSeqs wr h) (g : ∀ b o, b ∉ wr → h.get? b = some o → h'.get? b = some o) : ∀ {vs : List Value} {ds : List PV} {as : List Addr}, noDicts ds = true → ReadsAll h vs ds as → ReadsAll h' vs ds as
  | _, _, _, _, .nil => .nil
  | _, _, _, hn, .cons h1 h2 => by
    simp only [noDicts, Bool.and_eq_true] at hn
    exact .cons (reads_wr hL g hn.1 h1) (readsAll_wr hL g hn.2 h2)
end
theorem Rep.wr {wr : List Addr} {h h' : Heap} {v d} (r : Rep h v d) (hL : NoSeqs wr h) (g : ∀ b o, b ∉ wr → h.get? b = some o → h'.get? b = some o) : Rep h' v d := let ⟨a, as, x⟩ := r; ⟨a, as, reads_wr hL g a x⟩

theorem Inv.wr {w : World} {scope : Scope} {Γ : List Str} {L : Addr} {h₀ h h' : Heap} {ρ : PEnv} {wr : List Addr} (I : Inv w scope Γ L h₀ h ρ) (hL : L ∉ wr) (hw : ∀ b ∈ wr, h₀.get? b = none) (hn : NoSeqs wr h)
    (g : ∀ b o, b ∉ wr → h.get? b = some o → h'.get? b = some o) : Inv w scope Γ L h₀ h' ρ where
  fr := by
    obtain ⟨m, F, r⟩ := I.fr
    refine ⟨m, ⟨F.ns.at' fun o e => g _ o hL e, fun b o e => g b o (fun hb => by rw [hw b hb] at e; cases e) (F.keep b o e), F.above⟩, fun x d hx => ?_⟩
    obtain ⟨v, a, b⟩ := r x d hx
    exact ⟨v, a, b.wr hn g⟩
  hok := I.hok
  kind := I.kind
  nodup := I.nodup
  loc := I.loc
  glo := I.glo

/-- the turns of a loop -/
inductive Turns (w : World) (n : Nat) (Γ : List Str) (x : Str) (body : List Stmt) : List PV → PEnv → PEnv → Prop
  | done {ρ : PEnv} : Turns w n Γ x body [] ρ ρ
  | turn {d : PV} {ds : List PV} {ρ ρ₁ ρ₂ ρ₃ : PEnv} : Upd x d ρ ρ₁ → Exs w n Γ ρ₁ [body] (.next ρ₂) → Turns w n Γ x body ds ρ₂ ρ₃ → Turns w n Γ x body (d :: ds) ρ ρ₃
  | brk {d : PV} {ds : List PV} {ρ ρ₁ ρ₂ : PEnv} : Upd x d ρ ρ₁ → Exs w n Γ ρ₁ [body] (.brk ρ₂) → Turns w n Γ x body (d :: ds) ρ ρ₂

/-- something to walk through -/
structure EvI (w : World) (n : Nat) (Γ : List Str) (ρ : PEnv) (e : Expr) (ds : List PV) (ρ' : PEnv) : Prop where
  run : ∀ (nm : Str) (scope : Scope) (L a : Addr) (cd : Value) (A : Around) (h₀ : Heap) (s : Shared) (Q : Value → Shared → Prop) (E : Value → Shared → Prop),
    Inv w scope Γ L h₀ s.heap ρ → Room n A → 0 < s.toks →
    (∀ I fp wr P St h' tk, 0 < tk → Inv w scope Γ L h₀ h' ρ' → Heap.ExtBut L s.heap h' → Walks pg w A I fp wr ds.length P St → St 0 h' → L ∉ fp → (∀ b ∈ wr, h₀.get? b = none) → (∀ b ∈ wr, s.heap.get? b = none) →
      (∀ i h, St i h → NoSeqs wr h) → (∀ i v, P i v → ∃ d, ds[i]? = some d ∧ Rep h' v d) → (∀ b ∈ fp, ∃ o, h'.get? b = some o) → Q (.ref I) { s with heap := h', toks := tk }) →
    wpAny (model pg w) A (eval e (envOf nm scope L a cd)) (fun xv s₁ => wpAny (model pg w) A (pyIter xv) Q E s₁) E s

section
variable {w : World} {n : Nat} {Γ : List Str} {ρ ρ' ρ₁ ρ₂ ρ₃ : PEnv} {e t : Expr} {d a b : PV} {p p' : Pos} {rest body els : List Stmt} {bs : List (List Stmt)} {o : Out} {x : Str}

theorem I_list {ds : List PV} (h1 : EvE w n Γ ρ e (.list ds) ρ₁) : EvI w n Γ ρ e ds ρ₁ := by
  constructor; intro nm scope L ad cd A h₀ s Q E I R hp h
  refine h1.run nm scope L ad cd A h₀ s _ E I R hp fun v h' tk hp' I' g r => ?_
  obtain ⟨l, vs, rfl, il, rv⟩ := r.list
  refine withToks hp' (wpAny_pyIter_list il fun hp3 => ?_)
  have hlt : l < h'.objs.size := by obtain ⟨o, ho, _⟩ := il; exact Heap.lt_size ho
  have hgr := Grow.push h' { cls := .type "list_iterator", data := .fields #[.ref l, .int 0 0] }
  have hW := Walks.list (prog := pg) (w := w) R.hd h'.objs.size l (Nat.ne_of_lt hlt) vs.toArray
  have hsz : vs.toArray.size = ds.length := by rw [← rv.length, List.size_toArray]
  rw [hsz] at hW
  obtain ⟨m, F, _⟩ := I'.fr
  refine h h'.objs.size [h'.objs.size, l] [h'.objs.size] _ _ _ tk hp3 (I'.grow hgr) (g.trans (hgr.but L)) hW ⟨⟨_, Heap.get?_push_size _ rfl, rfl, rfl⟩, il.push _⟩ ?_ ?_ ?_ ?_ ?_ ?_
  · intro hm
    rcases List.mem_cons.mp hm with q | q
    · exact absurd F.ns.lt (by rw [q]; exact Nat.lt_irrefl _)
    · rw [List.mem_singleton] at q
      subst q
      obtain ⟨o, es, ep, e1, e2, _⟩ := F.ns
      obtain ⟨o', e1', _, k, e2'⟩ := il
      rw [e1] at e1'; cases e1'
      rw [e2] at e2'; cases e2'
  · intro b hb
    rw [List.mem_singleton.mp hb]
    exact next_is_new F
  · intro b hb
    rw [List.mem_singleton.mp hb]
    cases hq : s.heap.get? h'.objs.size with
    | none => rfl
    | some o =>
      by_cases hbL : h'.objs.size = L
      · exact absurd F.ns.lt (by rw [← hbL]; exact Nat.lt_irrefl _)
      · exact absurd (Heap.lt_size (g _ o hbL hq)) (Nat.lt_irrefl _)
  · rintro i h3 ⟨⟨o, ho, hc, hd⟩, _⟩ b hb o' ho' xs k e
    rw [List.mem_singleton.mp hb, ho] at ho'
    cases ho'
    rw [hd] at e; cases e
  · intro i v hv
    have hv' : vs[i]? = some v := by simpa using hv
    have hlt : i < ds.length := by rw [← rv.length]; exact (List.getElem?_eq_some_iff.mp hv').1
    obtain ⟨u, hu, ru⟩ := repAll_get rv (List.getElem?_eq_getElem hlt)
    rw [hv'] at hu; cases hu
    exact ⟨_, List.getElem?_eq_getElem hlt, ru.grow hgr⟩
  · intro b hb
    rcases List.mem_cons.mp hb with q | q
    · rw [q]; exact ⟨_, Heap.get?_push_size _ rfl⟩
    · rw [List.mem_singleton.mp q]; obtain ⟨o, ho, _⟩ := il; exact ⟨o, Heap.get?_push_of_some _ ho⟩

theorem S_for {ds : List PV} {px pf : Pos} (h1 : EvI w n Γ ρ e ds ρ₁) (ht : Turns w n Γ x body ds ρ₁ ρ₂) (h2 : Exs w n Γ ρ₂ (rest :: bs) o)
    (hs : ∀ x env, foldedSetIterable e env x = pure x := by intros; with_unfolding_all rfl) : Exs w n Γ ρ ((.For (.Name x px) e body [] pf :: rest) :: bs) o := by
  refine S_one ?_ h2
  constructor; intro nm scope L ad cd A h₀ s Q E I R hp h
  refine wpAny_execs_cons (wpAny_For (h1.run nm scope L ad cd A h₀ s _ E I R hp fun It fp wr P St h' tk hp' I' g W st hLf hwr hws hns hP _ => ?_) (hs · _))
  have hLw : L ∉ wr := fun q => hLf (W.sub _ q)
  refine codeAny_forLoop (fun k s' => ∃ h₁ tk₁ i ρi, s' = { s with heap := h₁, toks := tk₁ } ∧ 0 < tk₁ ∧ St i h₁ ∧ Inv w scope Γ L h₀ h₁ ρi ∧ Heap.ExtBut L s.heap h₁ ∧ (∀ v d, Rep h' v d → Rep h₁ v d) ∧ Turns w n Γ x body (ds.drop i) ρi ρ₂ ∧ i ≤ ds.length ∧ k = ds.length + 1 - i)
    ?_ (ds.length + 1) ⟨h', tk, 0, ρ₁, rfl, hp', st, I', g, fun _ _ r => r, by simpa using ht, Nat.zero_le _, rfl⟩
  rintro k s' ⟨h₁, tk₁, i, ρi, rfl, hp₁, st₁, I₁, g₁, hr₁, ht₁, hi, rfl⟩
  have next : ∀ h₂ : Heap, (∀ b o, b ∉ wr → h₁.get? b = some o → h₂.get? b = some o) → Inv w scope Γ L h₀ h₂ ρi ∧ Heap.ExtBut L s.heap h₂ ∧ (∀ v d, Rep h' v d → Rep h₂ v d) := fun h₂ hk =>
    ⟨I₁.wr hLw hwr (hns _ _ st₁) hk, fun b o hb e => hk b o (fun hw => by rw [hws b hw] at e; cases e) (g₁ b o hb e), fun v d r => (hr₁ v d r).wr (hns _ _ st₁) hk⟩
  by_cases hlt : i < ds.length
  · refine withToks hp₁ (W.item i _ _ _ hlt st₁ fun v h₂ tk₂ hv st₂ hk => fun hp₂ => ?_)
    obtain ⟨I₂, g₂, hr₂⟩ := next h₂ hk
    obtain ⟨d, hd, rv⟩ := hP i v hv
    have hdr : ds.drop i = d :: ds.drop (i + 1) := by
      rw [List.drop_eq_getElem_cons hlt]
      congr 1
      rw [List.getElem?_eq_getElem hlt] at hd
      exact Option.some.inj hd
    rw [hdr] at ht₁
    have go : ∀ {ρa oa}, Upd x d ρi ρa → Exs w n Γ ρa [body] oa → (∀ fl h₃ tk₃, 0 < tk₃ → OutOk w scope Γ L h₀ h₃ fl oa → Heap.ExtBut L h₂ h₃ → (match fl with
          | .next | .cont => ∃ m, m < ds.length + 1 - i ∧ ∃ h₁ tk₁ i ρi, ({ s with heap := h₃, toks := tk₃ } : Shared) = { s with heap := h₁, toks := tk₁ } ∧ 0 < tk₁ ∧ St i h₁ ∧ Inv w scope Γ L h₀ h₁ ρi ∧ Heap.ExtBut L s.heap h₁ ∧ (∀ v d, Rep h' v d → Rep h₁ v d) ∧ Turns w n Γ x body (ds.drop i) ρi ρ₂ ∧ i ≤ ds.length ∧ m = ds.length + 1 - i
          | .brk => wpAny (model pg w) A (execs [] (envOf nm scope L ad cd)) Q E { s with heap := h₃, toks := tk₃ }
          | .ret v => Q (.ret v) { s with heap := h₃, toks := tk₃ })) →
        wpAny (model pg w) A (assign (.Name x px) (envOf nm scope L ad cd) v) (fun _ s₂ => wpAny (model pg w) A (execs body (envOf nm scope L ad cd)) (fun f s₃ => match f with
          | .next | .cont => ∃ m, m < ds.length + 1 - i ∧ ∃ h₁ tk₁ i ρi, s₃ = { s with heap := h₁, toks := tk₁ } ∧ 0 < tk₁ ∧ St i h₁ ∧ Inv w scope Γ L h₀ h₁ ρi ∧ Heap.ExtBut L s.heap h₁ ∧ (∀ v d, Rep h' v d → Rep h₁ v d) ∧ Turns w n Γ x body (ds.drop i) ρi ρ₂ ∧ i ≤ ds.length ∧ m = ds.length + 1 - i
          | .brk => wpAny (model pg w) A (execs [] (envOf nm scope L ad cd)) Q E s₃
          | .ret v => Q (.ret v) s₃) (notedBy (model pg w) A (envOf nm scope L ad cd) fun e s' => cameBackBy (model pg w) A (envOf nm scope L ad cd) E e s') s₂) (notedBy (model pg w) A (envOf nm scope L ad cd) fun e s' => cameBackBy (model pg w) A (envOf nm scope L ad cd) E e s') { s with heap := h₂, toks := tk₂ } := by
      intro ρa oa u hb hq
      refine assign_Name (withToks hp₂ (store_run I₂ u (hr₂ _ _ rv) fun h₃ tk₃ I₃ g₃ => fun hp₃ => ?_))
      have hb' : Ex w n Γ ρa body oa := by simpa [Exs] using hb
      refine hb'.run nm scope L ad cd A h₀ _ _ _ I₃ R hp₃ fun fl h₄ tk₄ hp₄ k g₄ => ?_
      have hq' := hq fl h₄ tk₄ hp₄ k (g₃.trans g₄)
      cases fl <;> exact hq'
    cases ht₁ with
    | turn u hb ht₂ =>
      refine go u hb fun fl h₃ tk₃ hp₃ k g₃ => ?_
      obtain ⟨rfl, I₃⟩ := k
      refine ⟨ds.length + 1 - (i + 1), by omega, h₃, tk₃, i + 1, _, rfl, hp₃, ?_, I₃, g₂.trans g₃, fun v d r => (hr₂ v d r).but I₂.dict g₃, ht₂, hlt, rfl⟩
      exact W.frame _ _ _ st₂ fun b hb o e => g₃ b o (fun q => hLf (q ▸ hb)) e
    | brk u hb =>
      refine go u hb fun fl h₃ tk₃ hp₃ k g₃ => ?_
      obtain ⟨rfl, I₃⟩ := k
      exact wpAny_execs_nil (h _ h₃ tk₃ hp₃ ⟨rfl, I₃⟩ (g₂.trans g₃))
  · have hin : i = ds.length := by omega
    subst hin
    rw [List.drop_length] at ht₁
    refine withToks hp₁ (W.done _ _ _ st₁ fun h₂ tk₂ hk => fun hp₂ => ?_)
    obtain ⟨I₂, g₂, hr₂⟩ := next h₂ hk
    cases ht₁
    exact wpAny_execs_nil (wpAny_execs_nil (h _ h₂ tk₂ hp₂ ⟨rfl, I₂⟩ g₂))
end
end Mine
end

-- PyK
section
namespace Mine
open PySem.Builtin PySem.Builtin.Str

inductive Whiles (w : World) (n : Nat) (Γ : List Str) (t : Expr) (body : List Stmt) : Nat → PEnv → PEnv → Prop
  | done {ρ ρ₁ : PEnv} {k : Nat} : EvT w n Γ ρ t false ρ₁ → Whiles w n Γ t body k ρ ρ₁
  | turn {ρ ρ₁ ρ₂ ρ₃ : PEnv} {k : Nat} : EvT w n Γ ρ t true ρ₁ → Exs w n Γ ρ₁ [body] (.next ρ₂) → Whiles w n Γ t body k ρ₂ ρ₃ → Whiles w n Γ t body (k + 1) ρ ρ₃

section
variable {w : World} {n : Nat} {Γ : List Str} {ρ ρ' ρ₁ ρ₂ ρ₃ : PEnv} {e e₂ l r t : Expr} {d a b c : PV} {p p' p'' : Pos} {es : List Expr} {b₁ b₂ : Bool} {rest body els : List Stmt} {bs : List (List Stmt)} {o : Out} {x : Str}

theorem E_list {ds : List PV} (h1 : EvL w n Γ ρ es ds ρ₁) (hlen : es.length ≤ 1000 := by with_unfolding_all decide) : EvE w n Γ ρ (.List es p) (.list ds) ρ₁ := by
  constructor; intro nm scope L ad cd A h₀ s Q E I R hp h
  refine List_ (h1.run nm scope L ad cd A h₀ s p _ E I R hp fun vs h' tk hp' I' g r => ?_)
  refine wpAny_newObj_type (T := "list") (data := .seq vs.toArray) (dict := none) (h _ _ tk hp' (I'.grow (Grow.push _ _)) (g.trans ((Grow.push _ _).but L)) (rep_list (vs := vs) ⟨_, Heap.get?_push_size _ rfl, rfl, 0, rfl⟩ (r.grow (Grow.push _ _)))) ?_
  show vs.toArray.size ≤ sizeLine
  rw [List.size_toArray, r.length, ← h1.len]
  exact Nat.le_trans hlen (by decide)

/-- the numbers from i on, before j -/
def upto (i j : Int) : List PV := (List.range (j - i).toNat).map fun k => .int (i + (k : Nat))

theorem iter_range {nm : Str} {scope : Scope} {L ad : Addr} {cd : Value} {A : Around} {h₀ : Heap} {s : Shared} {Q : Value → Shared → Prop} {E : Value → Shared → Prop} {i j : Int} {rr : Addr} {u v z : Tok} {h' : Heap} {tk : Nat}
    (hi : -(2 ^ 62) ≤ i) (hi' : i < 2 ^ 62) (hj : -(2 ^ 62) ≤ j) (hj' : j < 2 ^ 62) (hp' : 0 < tk) (I' : Inv w scope Γ L h₀ h' ρ₁) (g : Heap.ExtBut L s.heap h') (R : Room n A) (hr : IsRange h' rr i j 1 u v z)
    (h : ∀ I fp wr P St h' tk, 0 < tk → Inv w scope Γ L h₀ h' ρ₁ → Heap.ExtBut L s.heap h' → Walks pg w A I fp wr (upto i j).length P St → St 0 h' → L ∉ fp → (∀ b ∈ wr, h₀.get? b = none) → (∀ b ∈ wr, s.heap.get? b = none) →
      (∀ i h, St i h → NoSeqs wr h) → (∀ k v, P k v → ∃ d, (upto i j)[k]? = some d ∧ Rep h' v d) → (∀ b ∈ fp, ∃ o, h'.get? b = some o) → Q (.ref I) { s with heap := h', toks := tk }) :
    wpAny (model pg w) A (pyIter (.ref rr)) Q E { s with heap := h', toks := tk } := by
  refine withToks hp' (wpAny_pyIter_range hr (small_one hi hi' hj hj') fun hp3 => ?_)
  have hgr := Grow.push h' { cls := .type "range_iterator", data := .fields #[rawInt i, rawInt (Builtin.Range.rangeSize i j 1), rawInt 1] }
  have hsz : Builtin.Range.rangeSize i j 1 = ((j - i).toNat : Int) := by rw [rangeSize_one]; split <;> omega
  have hlen : (upto i j).length = (j - i).toNat := by simp [upto]
  have hW := Walks.range (prog := pg) (w := w) R.hd h'.objs.size i 1 (j - i).toNat
  rw [← hlen] at hW
  obtain ⟨m, F, _⟩ := I'.fr
  refine h h'.objs.size [h'.objs.size] [h'.objs.size] (fun k v => k < (j - i).toNat ∧ ∃ t, v = .int (i + k * 1) t) (fun k hh => IsRangeIter hh h'.objs.size (i + (k : Nat) * 1) (((upto i j).length : Int) - (k : Nat)) 1) _ tk hp3 (I'.grow hgr) (g.trans (hgr.but L)) ?_ ?_ ?_ ?_ ?_ ?_ ?_ ?_
  · refine ⟨hW.sub, hW.frame, fun k s Q E hk st hQ => hW.item k s Q E hk st fun v h' tk hP st' hk' => hQ v h' tk ⟨by rw [← hlen]; exact hk, hP⟩ st' hk', hW.done, hW.self⟩
  · show IsRangeIter _ _ (i + (0 : Nat) * 1) _ 1
    rw [hlen, hsz]
    simpa using Heap.get?_push_size _ rfl
  · intro hm
    rw [List.mem_singleton] at hm
    exact absurd F.ns.lt (by rw [hm]; exact Nat.lt_irrefl _)
  · intro b hb
    rw [List.mem_singleton.mp hb]
    exact next_is_new F
  · intro b hb
    rw [List.mem_singleton.mp hb]
    cases hq : s.heap.get? h'.objs.size with
    | none => rfl
    | some o =>
      by_cases hbL : h'.objs.size = L
      · exact absurd F.ns.lt (by rw [← hbL]; exact Nat.lt_irrefl _)
      · exact absurd (Heap.lt_size (g _ o hbL hq)) (Nat.lt_irrefl _)
  · rintro k h3 st b hb o' ho' xs kk e
    rw [List.mem_singleton.mp hb, st] at ho'
    cases ho'
    cases e
  · rintro k v ⟨hk, t, rfl⟩
    refine ⟨.int (i + k * 1), ?_, rep_int⟩
    simp [upto, hk]
  · intro b hb
    rw [List.mem_singleton.mp hb]; exact ⟨_, Heap.get?_push_size _ rfl⟩

theorem I_range2 {i j : Int} (hf : Str.ofString "range" ∈ Γ) (h1 : EvL w n Γ ρ [e, e₂] [.int i, .int j] ρ₁) (hi : -(2 ^ 62) ≤ i) (hi' : i < 2 ^ 62) (hj : -(2 ^ 62) ≤ j) (hj' : j < 2 ^ 62)
    (hst : ∀ env, starEach [e, e₂] env = (false, eval e env) :: starEach [e₂] env := by intros; with_unfolding_all rfl) (hpl : ∀ p env, (backTo p (starEach [e₂] env)).any (·.1) = false := by intros; with_unfolding_all rfl) :
    EvI w n Γ ρ (.Call (.Name (Str.ofString "range") p) [e, e₂] [] p') (upto i j) ρ₁ := by
  constructor; intro nm scope L ad cd A h₀ s Q E I R hp h
  obtain ⟨m, Fr, _⟩ := I.fr
  obtain ⟨pp, loose, mean, mg, mb, T⟩ := I.hok.T
  show wpAny _ _ (do callWith p' (← eval (.Name (Str.ofString "range") p) (envOf nm scope L ad cd)) [] (backTo p' (starEach [e, e₂] (envOf nm scope L ad cd))) (backToKw p' (keywordEach [] (envOf nm scope L ad cd)))) _ E s
  refine wpAny_bind (name_B Fr I.hok.K (topRead_of T) (bi_range (w := w)).hn (bi_range (w := w)).hv (bi_range (w := w)).hne ?_ I.kind (by exact (I.glo _ hf).1) (I.glo _ hf).2)
  refine PyProof.Rows.callWith_type1 ?_ (hst _) (hpl _ _)
  refine h1.run nm scope L ad cd A h₀ s p' _ E I R hp fun vs h' tk hp' I' g r => ?_
  obtain ⟨v, u, rfl, r1, r2⟩ := repAll2 r
  obtain ⟨t, rfl⟩ := r1.int
  obtain ⟨t', rfl⟩ := r2.int
  refine call_range_2 ?_
  exact iter_range (s := s) (nm := nm) (ad := ad) (cd := cd) hi hi' hj hj' (Nat.succ_pos _) (I'.grow (Grow.push _ _)) (g.trans ((Grow.push _ _).but L)) R (IsRange.new _ _ _ _ _ _ _) h
theorem I_range1 {j : Int} (hf : Str.ofString "range" ∈ Γ) (h1 : EvL w n Γ ρ [e] [.int j] ρ₁) (hj : -(2 ^ 62) ≤ j) (hj' : j < 2 ^ 62)
    (hst : ∀ env, starEach [e] env = (false, eval e env) :: starEach [] env := by intros; with_unfolding_all rfl) :
    EvI w n Γ ρ (.Call (.Name (Str.ofString "range") p) [e] [] p') (upto 0 j) ρ₁ := by
  constructor; intro nm scope L ad cd A h₀ s Q E I R hp h
  obtain ⟨m, Fr, _⟩ := I.fr
  obtain ⟨pp, loose, mean, mg, mb, T⟩ := I.hok.T
  show wpAny _ _ (do callWith p' (← eval (.Name (Str.ofString "range") p) (envOf nm scope L ad cd)) [] (backTo p' (starEach [e] (envOf nm scope L ad cd))) (backToKw p' (keywordEach [] (envOf nm scope L ad cd)))) _ E s
  refine wpAny_bind (name_B Fr I.hok.K (topRead_of T) (bi_range (w := w)).hn (bi_range (w := w)).hv (bi_range (w := w)).hne ?_ I.kind (by exact (I.glo _ hf).1) (I.glo _ hf).2)
  refine PyProof.Rows.callWith_type1 ?_ (hst _) rfl
  refine h1.run nm scope L ad cd A h₀ s p' _ E I R hp fun vs h' tk hp' I' g r => ?_
  obtain ⟨v, rfl, r1⟩ := repAll1 r
  obtain ⟨t, rfl⟩ := r1.int
  refine call_range_1 ?_
  exact iter_range (s := s) (nm := nm) (ad := ad) (cd := cd) (by decide) (by decide) hj hj' (Nat.succ_pos _) (I'.grow (Grow.push _ _)) (g.trans ((Grow.push _ _).but L)) R (IsRange.new _ _ _ _ _ _ _) h

theorem S_while {k : Nat} {pf : Pos} (ht : Whiles w n Γ t body k ρ ρ₁) (h2 : Exs w n Γ ρ₁ (rest :: bs) o) : Exs w n Γ ρ ((.While t body [] pf :: rest) :: bs) o := by
  refine S_one ?_ h2
  constructor; intro nm scope L ad cd A h₀ s Q E I R hp h
  refine wpAny_execs_cons (wpAny_While ?_)
  refine codeAny_whileLoop (fun k s' => ∃ h₁ tk₁ ρi, s' = { s with heap := h₁, toks := tk₁ } ∧ 0 < tk₁ ∧ Inv w scope Γ L h₀ h₁ ρi ∧ Heap.ExtBut L s.heap h₁ ∧ Whiles w n Γ t body k ρi ρ₁) ?_ k ⟨s.heap, s.toks, ρ, rfl, hp, I, Heap.ExtBut.refl _ _, ht⟩
  rintro k s' ⟨h₁, tk₁, ρi, rfl, hp₁, I₁, g₁, W⟩
  cases W with
  | done ht =>
    refine ht.run nm scope L ad cd A h₀ _ _ _ I₁ R hp₁ fun h₂ tk₂ hp₂ I₂ g₂ => ?_
    simp only [Bool.false_eq_true, if_false]
    exact wpAny_execs_nil (wpAny_execs_nil (h _ h₂ tk₂ hp₂ ⟨rfl, I₂⟩ (g₁.trans g₂)))
  | turn ht hb W' =>
    refine ht.run nm scope L ad cd A h₀ _ _ _ I₁ R hp₁ fun h₂ tk₂ hp₂ I₂ g₂ => ?_
    simp only [if_true]
    rename_i ρa ρb kk
    have hb' : Ex w n Γ ρa body (.next ρb) := by simpa [Exs] using hb
    refine hb'.run nm scope L ad cd A h₀ _ _ _ I₂ R hp₂ fun fl h₃ tk₃ hp₃ k g₃ => ?_
    obtain ⟨rfl, I₃⟩ := k
    exact ⟨kk, Nat.lt_succ_self _, h₃, tk₃, _, rfl, hp₃, I₃, (g₁.trans g₂).trans g₃, W'⟩
end
end Mine
end

-- PyL
section
namespace Mine
open PySem.Builtin PySem.Builtin.Str

section
variable {prog : Program} {w : World} {A : Around} {E : Value → Shared → Prop} {s : Shared}
theorem draw_list {it t : Addr} {items : Array Value} (hne : t ≠ it) : ∀ (n i : Nat) (s : Shared) (Q : List Value → Shared → Prop), s.heap.IsListIter it t i → s.heap.IsList t items → i + n ≤ items.size →
    (∀ h', h'.IsListIter it t (i + n) → Heap.SameBut it s.heap h' → Q ((items.toList.drop i).take n) { s with heap := h' }) → wpAny (model prog w) A (draw (.ref it) n) Q E s
  | 0, i, s, Q, hit, _, _, hQ => by
    show wpAny _ _ (pure []) Q E s
    exact wpAny_pure (by simpa using hQ s.heap hit (Heap.SameBut.refl ..))
  | n + 1, i, s, Q, hit, ht, hle, hQ => by
    have hlt : i < items.size := by omega
    show wpAny _ _ (pyNext (.ref it) >>= _) Q E s
    refine wpAny_bind (wpAny_pyNext_list_item hit ht (x := items[i]) (by simp [hlt]) fun h₁ hit₁ hs₁ => ?_)
    refine wpAny_bind (wpAny_holding (draw_list hne n (i + 1) _ _ hit₁ (ht.extBut hs₁.extBut hne) (by omega) fun h₂ hit₂ hs₂ => wpAny_pure ?_))
    have hd : items.toList.drop i = items[i] :: items.toList.drop (i + 1) := by simp [List.drop_eq_getElem_cons, hlt]
    have := hQ h₂ (by rw [show i + (n + 1) = i + 1 + n by omega]; exact hit₂) (hs₁.trans hs₂)
    rw [hd, List.take_succ_cons] at this
    exact this
theorem unpackItems_list {t : Addr} {items : Array Value} {Q : List Value → Shared → Prop} (hh : A.handled = none) (ht : s.heap.IsList t items)
    (hQ : ∀ h', Heap.ExtBut s.heap.objs.size s.heap h' → Q items.toList { s with heap := h' }) : wpAny (model prog w) A (unpackItems (.ref t) items.size none) Q E s := by
  have hlt : t ≠ s.heap.objs.size := by obtain ⟨o, ho, _⟩ := ht; exact Nat.ne_of_lt (Heap.lt_size ho)
  unfold unpackItems
  refine wpAny_bind ?_
  · unfold notIterableAtAll
    refine wpAny_bind (wpAny_specialOf ht.typeIs slot_list_iter.lookup ?_)
    refine wpAny_pure ?_
    simp only [Bool.false_eq_true, if_false]
    refine wpAny_bind (wpAny_holding (wpAny_pyIter_list ht ?_))
    refine wpAny_bind (wpAny_holding (draw_list hlt items.size 0 _ _ ⟨_, Heap.get?_push_size _ rfl, rfl, rfl⟩ (ht.push _) (by omega) fun h₁ hit₁ hs₁ => ?_))
    have hall : List.take items.size (List.drop 0 items.toList) = items.toList := by
      rw [List.drop_zero]; exact List.take_of_length_le (by simp)
    rw [hall]
    rw [if_neg (by simp)]
    have ht₁ : h₁.IsList t items := (ht.push _).extBut hs₁.extBut hlt
    refine wpAny_bind (wpAny_holding (wpAny_pyNext_list_end hh hit₁ ht₁ (by simp) fun h₂ he₂ => ?_))
    simp only [Option.isSome_none, Bool.false_eq_true, if_false]
    refine wpAny_pure (hQ h₂ fun b o hb e => he₂ b o hb (hs₁.extBut b o hb (Heap.get?_push_of_some _ e)))
theorem assign_Tuple_list {env : Env} {elts : List Expr} {x1} {pos : Pos} {t : Addr} {items : Array Value} {Q : Unit → Shared → Prop} (hh : A.handled = none) (ht : s.heap.IsList t items)
    (hn : (assignEach elts env).length = items.size) (hstar : (assignEach elts env).findIdx? (·.1) = none)
    (h : ∀ h', Heap.ExtBut s.heap.objs.size s.heap h' → wpAny (model prog w) A (assignInOrder ((assignEach elts env).map (·.2)) items.toList) Q E { s with heap := h' }) :
    wpAny (model prog w) A (assign (.Tuple elts x1 pos) env (.ref t)) Q E s := by
  rw [assign_Tuple]
  refine wpAny_bind (wpAny_standAt ?_)
  unfold unpack
  rw [hn, hstar]
  exact wpAny_bind (wpAny_holding (unpackItems_list hh ht h))
end
section
variable {w : World} {n : Nat} {Γ : List Str} {ρ ρ' ρ₁ ρ₂ ρ₃ : PEnv} {e e₂ l r t : Expr} {d a b c : PV} {p p' p'' : Pos} {es : List Expr} {b₁ b₂ : Bool} {rest body els : List Stmt} {bs : List (List Stmt)} {o : Out} {x : Str}
theorem S_unpackL {es : List Expr} {xs : List Str} {ds : List PV} {k : Nat} {tp : Pos} (h1 : EvE w n Γ ρ e (.list ds) ρ₁) (hn : Names es xs) (u : Upds xs ds ρ₁ ρ₂) (h2 : Exs w n Γ ρ₂ (rest :: bs) o)
    (hs : ∀ t l env, swapsWith e t l env = pure false := by intros; with_unfolding_all rfl) (hw : ∀ env, swappedStores [.Tuple es k tp] e env = pure none := by intros; with_unfolding_all rfl) :
    Exs w n Γ ρ ((.Assign [.Tuple es k tp] e p :: rest) :: bs) o := by
  refine S_one ?_ h2
  constructor; intro nm scope L ad cd A h₀ s Q E I R hp h
  refine wpAny_execs_cons (Assign_Tuple (h1.run nm scope L ad cd A h₀ s _ E I R hp fun v h' tk hp' I' g r => ?_) (show swapsWith e (some (.Tuple es k tp)) p.line (envOf nm scope L ad cd) = pure false from hs _ _ _) (hw _))
  obtain ⟨t, vs, rfl, ht, rv⟩ := r.list
  refine assign_Tuple_list R.hd ht ?_ (hn.star _) fun h3 g3 => ?_
  · rw [hn.length, u.length, List.size_toArray, rv.length]
  have g3' : Grow h' h3 := fun b o e => g3 b o (Nat.ne_of_lt (Heap.lt_size e)) e
  refine withToks hp' (assignAll_run hn u (I'.grow g3') (rv.grow g3') fun h4 tk4 I4 g4 => ?_)
  exact fun hp4 => wpAny_execs_nil (h _ h4 tk4 hp4 ⟨rfl, I4⟩ ((g.trans (g3'.but L)).trans g4))

theorem binds_run {nm : Str} {scope : Scope} {L ad : Addr} {cd : Value} {A : Around} {h₀ : Heap} {E : Value → Shared → Prop} :
    ∀ {xs : List Str} {ds : List PV} {ρ ρ' : PEnv} {vs : List Value} {s : Shared} {Q : Unit → Shared → Prop}, Upds xs ds ρ ρ' → Inv w scope Γ L h₀ s.heap ρ → RepAll s.heap vs ds →
      (∀ h' tk, Inv w scope Γ L h₀ h' ρ' → Heap.ExtBut L s.heap h' → Q () { s with heap := h', toks := tk }) →
      wpAny (model pg w) A (assignInOrder (xs.map fun n => bindName (envOf nm scope L ad cd) n) vs) Q E s
  | [], _, ρ, ρ', vs, s, Q, u, I, r, h => by
    cases u
    exact wpAny_pure (h s.heap s.toks I (Heap.ExtBut.refl _ _))
  | x :: xs, _, ρ, ρ', vs, s, Q, u, I, r, h => by
    cases u with
    | cons u us =>
      obtain ⟨v, vr, rfl, rv, rr⟩ := r.uncons
      show wpAny _ _ (do holding vr (bindName (envOf nm scope L ad cd) x v); assignInOrder (xs.map fun n => bindName (envOf nm scope L ad cd) n) vr) Q E s
      refine wpAny_bind (wpAny_holding (wpAny_bindName (store_run I u rv fun h' tk I' g => ?_)))
      exact binds_run us I' (rr.but I.dict g) fun h3 tk3 I3 g3 => h h3 tk3 I3 (g.trans g3)
theorem RepAll.snoc {h : Heap} : ∀ {vs : List Value} {ds : List PV} {v : Value} {d : PV}, RepAll h vs ds → Rep h v d → RepAll h (vs ++ [v]) (ds ++ [d])
  | [], ds, v, d, r, q => by
    have : ds = [] := by have := r.length; simpa using this.symm
    subst this; exact .cons q .nil
  | u :: vs, ds, v, d, r, q => by
    cases ds with
    | nil => have := r.length; simp at this
    | cons e ds =>
      obtain ⟨_, _, e, a, b⟩ := r.uncons
      cases e
      exact .cons a (b.snoc q)
theorem RepAll.reverse {h : Heap} : ∀ {vs : List Value} {ds : List PV}, RepAll h vs ds → RepAll h vs.reverse ds.reverse
  | vs, [], r => by rw [r.unnil]; exact .nil
  | vs, d :: ds, r => by
    obtain ⟨v, vr, rfl, a, b⟩ := r.uncons
    rw [List.reverse_cons, List.reverse_cons]
    exact b.reverse.snoc a
/-- `a, b = (e1, e2)`: the names are stored from the last to the first -/
theorem S_swap {es : List Expr} {xs : List Str} {ds : List PV} {k : Nat} {tp : Pos} (h1 : EvE w n Γ ρ e (.tuple ds) ρ) (u : Upds xs.reverse ds.reverse ρ ρ₂)
    (hw : ∀ env : Env, env.blockKind = .function → (∀ x ∈ xs, env.kindOf x = some .local) → swappedStores [.Tuple es k tp] e env = pure (some xs)) (h2 : Exs w n Γ ρ₂ (rest :: bs) o)
    (hs : ∀ t l env, swapsWith e t l env = pure false := by intros; with_unfolding_all rfl) :
    Exs w n Γ ρ ((.Assign [.Tuple es k tp] e p :: rest) :: bs) o := by
  refine S_one ?_ h2
  constructor; intro nm scope L ad cd A h₀ s Q E I R hp h
  have hmem : ∀ {xs : List Str} {ds : List PV} {ρ ρ' : PEnv}, Upds xs ds ρ ρ' → ∀ x ∈ xs, x ∈ ρ.map (·.1) := by
    intro xs ds ρ ρ' u
    induction u with
    | nil => intro x hx; cases hx
    | cons u us ih =>
      intro x hx
      rcases List.mem_cons.mp hx with rfl | hx
      · exact u.mem
      · have := ih x hx; rwa [u.names] at this
  refine wpAny_execs_cons (Assign_Tuple_swapped (names := xs) (h1.run nm scope L ad cd A h₀ s _ E I R hp fun v h' tk hp' I' g r => ?_) (show swapsWith e (some (.Tuple es k tp)) p.line (envOf nm scope L ad cd) = pure false from hs _ _ _) ?_)
  · obtain ⟨t, vs, rfl, ht, rv⟩ := r.tup
    have hlen : xs.length = vs.toArray.size := by have := u.length; simp at this; rw [List.size_toArray, rv.length, this]
    rw [hlen]
    refine unpackItems_tuple R.hd ht fun h3 g3 => ?_
    have g3' : Grow h' h3 := fun b o e => g3 b o (Nat.ne_of_lt (Heap.lt_size e)) e
    refine withToks hp' (binds_run u (I'.grow g3') (by simpa using (rv.grow g3').reverse) fun h4 tk4 I4 g4 => ?_)
    exact fun hp4 => wpAny_execs_nil (h _ h4 tk4 hp4 ⟨rfl, I4⟩ ((g.trans (g3'.but L)).trans g4))
  · exact hw _ (by show (if scope.kind.isAnnotationScope then .function else scope.kind) = ScopeKind.function; rw [I.kind]; rfl) fun x hx => (I.loc x (hmem u x (by simpa using hx))).1
theorem S_swap2 {x y : Str} {p1 p2 tp vp pa : Pos} {k k' : Nat} {e1 e2 : Expr} {d1 d2 : PV} (h1 : EvL w n Γ ρ [e1, e2] [d1, d2] ρ) (u1 : Upd y d2 ρ ρ₁) (u2 : Upd x d1 ρ₁ ρ₂) (h2 : Exs w n Γ ρ₂ (rest :: bs) o)
    (hl : p2.line = p1.line := by with_unfolding_all rfl) (hne : x ≠ y := by decide +kernel) (q1 : ∀ v p, e1 ≠ .Starred v p := by intro v p; with_unfolding_all (intro h; cases h)) (q2 : ∀ v p, e2 ≠ .Starred v p := by intro v p; with_unfolding_all (intro h; cases h))
    (q3 : [e1, e2].all (foldedForSure 8) = false := by with_unfolding_all rfl) (q4 : [e1, e2].all (constantsAlone 8) = false := by with_unfolding_all rfl)
    (hs : ∀ t l env, swapsWith (.Tuple [e1, e2] k' vp) t l env = pure false := by intros; with_unfolding_all rfl) :
    Exs w n Γ ρ ((.Assign [.Tuple [.Name x p1, .Name y p2] k tp] (.Tuple [e1, e2] k' vp) pa :: rest) :: bs) o :=
  S_swap (xs := [x, y]) (E_tup h1 (by simp)) (.cons u1 (.cons u2 .nil)) (fun env hb hx => swapped2 hb (hx x (by simp)) (hx y (by simp)) hl hne q1 q2 q3 q4) h2 hs
theorem S_swap3 {x y z : Str} {p1 p2 p3 tp vp pa : Pos} {k k' : Nat} {e1 e2 e3 : Expr} {d1 d2 d3 : PV} (h1 : EvL w n Γ ρ [e1, e2, e3] [d1, d2, d3] ρ) (u1 : Upd z d3 ρ ρ₁) (u2 : Upd y d2 ρ₁ ρ₂) (u3 : Upd x d1 ρ₂ ρ₃) (h2 : Exs w n Γ ρ₃ (rest :: bs) o)
    (hl : p2.line = p1.line := by with_unfolding_all rfl) (hl' : p3.line = p1.line := by with_unfolding_all rfl) (hne : x ≠ y := by decide +kernel) (hne2 : x ≠ z := by decide +kernel) (hne3 : y ≠ z := by decide +kernel) (q1 : ∀ v p, e1 ≠ .Starred v p := by intro v p; with_unfolding_all (intro h; cases h)) (q2 : ∀ v p, e2 ≠ .Starred v p := by intro v p; with_unfolding_all (intro h; cases h))
    (q2' : ∀ v p, e3 ≠ .Starred v p := by intro v p; with_unfolding_all (intro h; cases h))
    (q3 : [e1, e2, e3].all (foldedForSure 8) = false := by with_unfolding_all rfl) (q4 : [e1, e2, e3].all (constantsAlone 8) = false := by with_unfolding_all rfl)
    (hs : ∀ t l env, swapsWith (.Tuple [e1, e2, e3] k' vp) t l env = pure false := by intros; with_unfolding_all rfl) :
    Exs w n Γ ρ ((.Assign [.Tuple [.Name x p1, .Name y p2, .Name z p3] k tp] (.Tuple [e1, e2, e3] k' vp) pa :: rest) :: bs) o :=
  S_swap (xs := [x, y, z]) (E_tup h1 (by simp)) (.cons u1 (.cons u2 (.cons u3 .nil))) (fun env hb hx => swapped3 hb (hx x (by simp)) (hx y (by simp)) (hx z (by simp)) hl hl' hne hne2 hne3 q1 q2 q2' q3 q4) h2 hs
end
end Mine
end

-- PyM
section
namespace Mine
open PySem.Builtin PySem.Builtin.Str

/-! values without lists and dicts -/
mutual
def noList : PV → Bool
  | .none | .bool _ | .int _ | .str _ => true
  | .tuple xs => noLists xs
  | .list _ | .dict _ => false
def noLists : List PV → Bool
  | [] => true
  | x :: r => noList x && noLists r
end
def ListAt (D : Addr) (h : Heap) : Prop := ∃ o, h.get? D = some o ∧ o.cls = .type "list"
mutual
theorem reads_nl {L : Addr} {h h' : Heap} (hL : ListAt L h) (g : Heap.ExtBut L h h') : ∀ {v : Value} {d : PV} {as : List Addr}, noList d = true → Reads h v d as → Reads h' v d as
  | _, _, _, _, .none => .none
  | _, _, _, _, .bool b => .bool b
  | _, _, _, _, .int i t => .int i t
  | _, _, _, _, .str x t => .str x t
  | _, _, _, hn, .list h1 h2 h3 h4 => by simp [noList] at hn
  | _, _, _, hn, .tuple h1 h2 h3 h4 => .tuple (g _ _ (by rintro rfl; obtain ⟨o, e1, e2⟩ := hL; rw [h1] at e1; cases e1; rw [h2] at e2; revert e2; decide) h1) h2 h3 (readsAll_nl hL g (by simpa [noList] using hn) h4)
  | _, _, _, hn, .dict .. => by simp [noList] at hn
theorem readsAll_nl {L : Addr} {h h' : Heap} (hL : ListAt L h) (g : Heap.ExtBut L h h') : ∀ {vs : List Value} {ds : List PV} {as : List Addr}, noLists ds = true → ReadsAll h vs ds as → ReadsAll h' vs ds as
  | _, _, _, _, .nil => .nil
  | _, _, _, hn, .cons h1 h2 => by
    simp only [noLists, Bool.and_eq_true] at hn
    exact .cons (reads_nl hL g hn.1 h1) (readsAll_nl hL g hn.2 h2)
end
theorem RepAll.nl {L : Addr} {h h' : Heap} {v d} (r : RepAll h v d) (hd : noLists d = true) (hL : ListAt L h) (g : Heap.ExtBut L h h') : RepAll h' v d := let ⟨a, as, x⟩ := r; ⟨a, as, readsAll_nl hL g hd x⟩
theorem RepAll.wr {wr : List Addr} {h h' : Heap} {v d} (r : RepAll h v d) (hL : NoSeqs wr h) (g : ∀ b o, b ∉ wr → h.get? b = some o → h'.get? b = some o) : RepAll h' v d := let ⟨a, as, x⟩ := r; ⟨a, as, readsAll_wr hL g a x⟩
section
variable {w : World} {n : Nat} {Γ : List Str} {ρ ρ' ρ₁ ρ₂ ρ₃ : PEnv} {e e₂ l r t : Expr} {d a b c : PV} {p p' p'' : Pos} {es : List Expr} {b₁ b₂ : Bool} {rest body els : List Stmt} {bs : List (List Stmt)} {o : Out}
/-- `[f(x) for x in ..]` -/
theorem E_listcall {f x : Str} {px pf pc px' pq : Pos} {iter : Expr} {scope2 : Scope} {k : Nat} {ds rs : List PV} (hi : EvI w n Γ ρ iter ds ρ₁) (hnl : noLists rs = true) (hlen : ds.length = rs.length) (hsz : ds.length ≤ 1000)
    (F : ∀ (i : Nat) (d r : PV), ds[i]? = some d → rs[i]? = some r → FnSpec w k f [d] r) (hk : k ≤ n)
    (hfree : ∀ y ∈ scope2.names, y.2 ≠ .free) (hcell : ∀ y ∈ scope2.names, y.2 ≠ .cell) (hkind : scope2.kind = .function) (hnames : ∀ y ∈ scope2.names, y.2 = .local → scope2.names.lookup y.1 = some .local)
    (hx : scope2.names.lookup x = some .local) (hf : scope2.names.lookup f = some .globalImplicit) (hxd : (x == ("__debug__" : Str)) = false) (hfd : (f == ("__debug__" : Str)) = false)
    (hs : ∀ x env, foldedSetIterable iter env x = pure x := by intros; with_unfolding_all rfl) :
    EvE w n Γ ρ (.ListComp (.Call (.Name f pf) [.Name x px'] [] pc) [⟨.Name x px, iter, [], 0⟩] scope2 pq) (.list rs) ρ₁ := by
  constructor; intro nm scope L ad cd A h₀ s Q E I R hp h
  refine wpAny_ListComp hfree hkind hnames (hi.run nm scope L ad cd A h₀ s _ E I R hp fun It fp wr P St h' tk hp' I' g W st hLf hwr hws hns hP hfp => ?_) (hs · _)
  refine wpAny_newObj_type (wpAny_newFunctionEnv hcell (by intro y hy; simp at hy) (fun h₁ hns₁ hsb₁ => ?_) hkind)
  dsimp only at hns₁ hsb₁ ⊢
  generalize hH2 : h'.push { cls := .type "list", dict := none, data := .seq ([] : List Value).toArray } = H2 at hns₁ hsb₁ ⊢
  have hC : H2.objs.size = h'.objs.size + 1 := by rw [← hH2, Heap.size_push]
  have hDC : h'.objs.size ≠ H2.objs.size := by rw [hC]; exact Nat.ne_of_lt (Nat.lt_succ_self _)
  have below : ∀ b o, h'.get? b = some o → b ≠ H2.objs.size ∧ b ≠ h'.objs.size := fun b o e => by have hb := Heap.lt_size e; exact ⟨by rw [hC]; exact Nat.ne_of_lt (Nat.lt_succ_of_lt hb), Nat.ne_of_lt hb⟩
  have old : ∀ b o, h'.get? b = some o → h₁.get? b = some o := fun b o e => hsb₁.extBut b o (below b o e).1 (Heap.get?_push_of_some _ (hH2 ▸ Heap.get?_push_of_some _ e))
  have hacc : h₁.get? h'.objs.size = some { cls := .type "list", data := .seq #[] 0 } := hsb₁.extBut _ _ hDC (Heap.get?_push_of_some _ (hH2 ▸ Heap.get?_push_size _ rfl))
  have hfC : ∀ b ∈ fp, b ≠ H2.objs.size ∧ b ≠ h'.objs.size := fun b hb => by obtain ⟨o, e⟩ := hfp b hb; exact below b o e
  generalize h'.objs.size = D at *
  generalize H2.objs.size = C at *
  have st₁ : St 0 h₁ := W.frame _ _ _ st fun b _ o e => old b o e
  have hfpl : ∀ i h, St i h → True := fun _ _ _ => trivial
  refine (fun loop => codeAny_compStart_list loop (W.self 0 _ _ _ st₁ loop)) ?_
  refine codeAny_compLoop_list (fun k s' => ∃ h₂ tk₂ i ys m', s' = { s with heap := h₂, toks := tk₂ } ∧ 0 < tk₂ ∧ i ≤ ds.length ∧ k = ds.length + 1 - i ∧ St i h₂ ∧ h₂.Ns C m' ∧ (∀ b o, b ∉ wr → h'.get? b = some o → h₂.get? b = some o) ∧
      h₂.get? D = some { cls := .type "list", data := .seq ys.toArray i } ∧ ys.length = i ∧ RepAll h₂ ys (rs.take i)) ?_ (ds.length + 1) ⟨h₁, _, 0, [], _, rfl, ?_, Nat.zero_le _, rfl, st₁, hns₁, fun b o _ e => old b o e, hacc, rfl, .nil⟩
  · rintro k s' ⟨h₂, tk₂, i, ys, m', rfl, hp₂, hi₂, rfl, st₂, hn₂, kp₂, hD₂, hy₂, ry₂⟩
    by_cases hlt : i < ds.length
    · refine withToks hp₂ (W.item i _ _ _ hlt st₂ fun v h₃ tk₃ hv st₃ hk₃ => fun hp₃ => ?_)
      have kp₃ : ∀ b o, b ∉ wr → h'.get? b = some o → h₃.get? b = some o := fun b o hb e => hk₃ b o hb (kp₂ b o hb e)
      have hCw : C ∉ wr := fun q => (hfC C (W.sub _ q)).1 rfl
      have hDw : D ∉ wr := fun q => (hfC D (W.sub _ q)).2 rfl
      have hCf : C ∉ fp := fun q => (hfC C q).1 rfl
      have hDf : D ∉ fp := fun q => (hfC D q).2 rfl
      have hn₃ : h₃.Ns C m' := hn₂.at' fun o e => hk₃ _ o hCw e
      refine wpAny_assign_Name (wpAny_storeName_local hx hn₃ (fun h₄ hn₄ hs₄ => ?_) (by show (scope2.kind == .class || (scope2.kind == .module && _)) = false; rw [hkind]; rfl))
      replace hn₄ : h₄.Ns C (fun y => if y = x then some v else m' y) := hn₄
      replace hs₄ : Heap.SameBut C h₃ h₄ := hs₄
      have kp₄ : ∀ b o, b ∉ wr → h'.get? b = some o → h₄.get? b = some o := fun b o hb e => hs₄.extBut b o (below b o e).1 (kp₃ b o hb e)
      have hLw : L ∉ wr := fun q => hLf (W.sub _ q)
      have I₄ : Inv w scope Γ L h₀ h₄ ρ₁ := I'.wr hLw hwr (hns _ _ st) kp₄
      have dC : DictAt C h₃ := by obtain ⟨o, es, ep, e1, e2, _⟩ := hn₃; exact ⟨o, es, ep, e1, e2⟩
      obtain ⟨d, hd, rv⟩ := hP i v hv
      have rv₄ : Rep h₄ v d := rv.wr (hns _ _ st) kp₄
      have hltr : i < rs.length := by omega
      obtain ⟨fa, hg, hkeep, F⟩ := F i d rs[i] hd (List.getElem?_eq_getElem hltr)
      obtain ⟨m₄, Fr₄, _⟩ := I₄.fr
      obtain ⟨pp, loose, mean, mg, mb, T⟩ := I₄.hok.T
      have T' := topRead_of T
      generalize hCE : ({ newEnv scope2 C (envOf nm scope L ad cd).globals [] (envOf nm scope L ad cd).qual none .none (some (envOf nm scope L ad cd)) builtinsNs with scope := scope2 } : Env) = CE at *
      have hCg : CE.globals = mainGlobals := by rw [← hCE]; rfl
      have hCk : CE.scope = scope2 := by rw [← hCE]
      have hCl : CE.locals = C := by rw [← hCE]; rfl
      show wpAny _ _ (do callWith pc (← eval (.Name f pf) CE) [] (backTo pc (starEach [.Name x px'] CE)) (backToKw pc (keywordEach [] CE))) _ _ _
      refine wpAny_bind (Calls.Name_function_global (by rw [hCk]; exact hkind) (by show CE.scope.names.lookup f = _; rw [hCk]; exact hf) (Calls.loadGlobal_global (by rw [hCg]; exact T'.g.keeps Fr₄.keep) (mg_of I₄.hok.K T'.g hg) ?_) hfd)
      refine callWith_K (h₀ := h₀) I₄.hok.K hkeep (wpAny_items_cons (wpAny_Name (wpAny_loadName_local (by rw [hCk]; exact hkind) (by show CE.scope.names.lookup x = _; rw [hCk]; exact hx) (m := fun y => if y = x then some v else m' y) (v := v) (by rw [hCl]; exact hn₄) (if_pos rfl) ?_) hxd) rfl)
      refine wpAny_items_nil ⟨I₄.here.K, ?_⟩
      refine F A _ [v] [] _ _ I₄.here (R.le hk) (Nat.succ_pos _) (.cons rv₄ .nil) .nil fun v₅ h₅ tk₅ hp₅ g₅ r₅ => ?_
      have hDC' : D ≠ C := hDC
      have hD₄ : h₄.get? D = some { cls := .type "list", data := .seq ys.toArray i } := hs₄.extBut D _ hDC' (hk₃ D _ hDw hD₂)
      refine append_at (hsz := by rw [List.size_toArray, hy₂]; exact Nat.le_trans (Nat.le_trans hi₂ hsz) (by decide)) (g₅ _ _ hD₄) fun h₆ hs₆ hD₆ => ?_
      refine ⟨ds.length + 1 - (i + 1), by omega, h₆, tk₅, i + 1, ys ++ [v₅], (fun y => if y = x then some v else m' y), rfl, hp₅, hlt, rfl, ?_, ?_, ?_, ?_, ?_, ?_⟩
      · exact W.frame _ _ _ st₃ fun b hb o e => hs₆.extBut b o (fun q => hDf (q ▸ hb)) (g₅ b o (hs₄.extBut b o (fun q => hCf (q ▸ hb)) e))
      · exact hn₄.at' fun o e => hs₆.extBut C o (fun q => hDC' q.symm) (g₅ C o e)
      · exact fun b o hb e => hs₆.extBut b o (below b o e).2 (g₅ b o (kp₄ b o hb e))
      · rw [hD₆, List.push_toArray]
      · simp [hy₂]
      · have e : rs.take (i + 1) = rs.take i ++ [rs[i]] := by rw [List.take_succ, List.getElem?_eq_getElem hltr]; rfl
        have nl : noLists (rs.take (i + 1)) = true := by
          have : ∀ (l : List PV) (k : Nat), noLists l = true → noLists (l.take k) = true := by
            intro l
            induction l with
            | nil => intro k _; simp [noLists]
            | cons a l ih =>
              intro k hl
              cases k with
              | zero => rfl
              | succ k => simp only [noLists, Bool.and_eq_true, List.take_succ_cons] at hl ⊢; exact ⟨hl.1, ih k hl.2⟩
          exact this _ _ hnl
        refine RepAll.nl (L := D) (h := h₅) ?_ nl ⟨_, g₅ _ _ hD₄, rfl⟩ hs₆.extBut
        rw [e]
        exact ((((ry₂.wr (hns _ _ st₂) hk₃).but dC hs₄.extBut).grow g₅).snoc r₅)
    · have hin : i = ds.length := by omega
      subst hin
      refine withToks hp₂ (W.done _ _ _ st₂ fun h₃ tk₃ hk₃ => fun hp₃ => ?_)
      have hCw : C ∉ wr := fun q => (hfC C (W.sub _ q)).1 rfl
      have hDw : D ∉ wr := fun q => (hfC D (W.sub _ q)).2 rfl
      have hLw : L ∉ wr := fun q => hLf (W.sub _ q)
      have hn₃ : h₃.Ns C m' := hn₂.at' fun o e => hk₃ _ o hCw e
      refine ⟨m', hn₃, fun h₄ hs₄ => ?_⟩
      replace hs₄ : Heap.SameBut C h₃ h₄ := hs₄
      have kp₄ : ∀ b o, b ∉ wr → h'.get? b = some o → h₄.get? b = some o := fun b o hb e => hs₄.extBut b o (below b o e).1 (hk₃ b o hb (kp₂ b o hb e))
      have dC : DictAt C h₃ := by obtain ⟨o, es, ep, e1, e2, _⟩ := hn₃; exact ⟨o, es, ep, e1, e2⟩
      refine h _ h₄ tk₃ hp₃ (I'.wr hLw hwr (hns _ _ st) kp₄) (fun b o hb e => kp₄ b o (fun q => by rw [hws b q] at e; cases e) (g b o hb e)) (rep_list (vs := ys) ⟨_, hs₄.extBut D _ hDC (hk₃ D _ hDw hD₂), rfl, _, rfl⟩ ?_)
      have := ((ry₂.wr (hns _ _ st₂) hk₃).but dC hs₄.extBut)
      rwa [hlen, List.take_length] at this
  · exact Nat.lt_of_lt_of_le hp' (Nat.le_add_right _ _)
end
end Mine
end

-- PyN
section
namespace Mine
open PySem.Builtin PySem.Builtin.Str
section
variable {w : World} {n : Nat} {Γ : List Str} {ρ ρ' ρ₁ ρ₂ ρ₃ : PEnv} {e e₂ l r t : Expr} {d a b c : PV} {p p' p'' : Pos} {es : List Expr} {b₁ b₂ : Bool} {rest body els : List Stmt} {bs : List (List Stmt)} {o : Out}

theorem C_intup {ds : List PV} (hxs : PyData.canLayAll0 ds = true) (hd : d.canLay0 = true) (hk : min (PyData.depthAll ds) d.depth ≤ 64) : CmpV .In d (.tuple ds) (ds.any fun y => PyData.eqv y d) := by
  constructor; intro w A s va vb Q E R ra rb h
  obtain ⟨_, as, r1⟩ := ra; obtain ⟨_, bs, r2⟩ := rb
  exact PySem.SeqAt.in_tuple_reads r2 r1 hxs hd (by have := R.u; omega) (h s.heap s.toks (Grow.refl _))
theorem C_notintup {ds : List PV} (hxs : PyData.canLayAll0 ds = true) (hd : d.canLay0 = true) (hk : min (PyData.depthAll ds) d.depth ≤ 64) : CmpV .NotIn d (.tuple ds) (!ds.any fun y => PyData.eqv y d) := by
  constructor; intro w A s va vb Q E R ra rb h
  obtain ⟨_, as, r1⟩ := ra; obtain ⟨_, bs, r2⟩ := rb
  exact PySem.SeqAt.notIn_tuple_reads r2 r1 hxs hd (by have := R.u; omega) (h s.heap s.toks (Grow.refl _))

theorem RepAll.append {h : Heap} : ∀ {vs us : List Value} {ds es : List PV}, RepAll h vs ds → RepAll h us es → RepAll h (vs ++ us) (ds ++ es)
  | vs, us, [], es, r, q => by rw [r.unnil]; exact q
  | vs, us, d :: ds, es, r, q => by
    obtain ⟨v, vr, rfl, a, b⟩ := r.uncons
    exact .cons a (b.append q)
theorem B_addt {xs ys : List PV} (hx : xs ≠ []) (hy : ys ≠ []) (hl : xs.length + ys.length ≤ 1000) : BinV .Add (.tuple xs) (.tuple ys) (.tuple (xs ++ ys)) := by
  constructor; intro w A s va vb Q E R ra rb h
  obtain ⟨t, vs, rfl, ht, rv⟩ := ra.tup
  obtain ⟨b, ws, rfl, hb, rw'⟩ := rb.tup
  obtain ⟨⟨cls, dd, data, sl⟩, ho, hc, n, hd⟩ := id ht
  obtain ⟨⟨cls2, dd2, data2, sl2⟩, ho2, hc2, n2, hd2⟩ := id hb
  simp only at hc hd hc2 hd2
  subst hc hd hc2 hd2
  have e : vs.toArray ++ ws.toArray = (vs ++ ws).toArray := by simp
  have lv := rv.length
  have lw := rw'.length
  have hv : vs ≠ [] := by intro q; rw [q] at lv; exact hx (List.eq_nil_of_length_eq_zero lv.symm)
  have hw : ws ≠ [] := by intro q; rw [q] at lw; exact hy (List.eq_nil_of_length_eq_zero lw.symm)
  have hsl : sizeLine = 16777216 := rfl
  refine concat_meets ⟨_, ho, rfl⟩ ⟨_, ho2, rfl⟩ noFill_tuple_add seq_tuple_add PySem.F.slot_tuple_add PySem.F.entry_tuple_add (PySem.F.args_tuple_add_2 _ _)
    (tuple_addW2 t b vs.toArray ws.toArray n n2 dd dd2 sl sl2 (by simpa using hv) (by simpa using hw) (by rw [List.size_toArray, List.size_toArray]; omega)) ⟨ho, ho2, ?_⟩
  rw [e]
  exact h _ _ s.toks (Grow.push _ _) (rep_tup ⟨_, Heap.get?_push_size _ rfl, rfl, 0, rfl⟩ ((rv.append rw').grow (Grow.push _ _)))

theorem E_callK2 {f k1 k2 : Str} {ds : List PV} {k : Nat} {v1 v2 : Expr} {d1 d2 : PV} {q1 q2 : Pos} (hf : f ∈ Γ) (h1 : EvL w n Γ ρ (e :: es) ds ρ₁) (g1 : EvE w n Γ ρ₁ v1 d1 ρ₁) (g2 : EvE w n Γ ρ₁ v2 d2 ρ₁) (F : FnSpec w k f ds d [(k1, d1), (k2, d2)]) (hk : k ≤ n := by with_unfolding_all decide)
    (hst : ∀ env, starEach (e :: es) env = (false, eval e env) :: starEach es env := by intros; with_unfolding_all rfl)
    (hpl : ∀ p env, ((backTo p (starEach (e :: es) env)).any (·.1) || (backToKw p (keywordEach [⟨some k1, v1, q1⟩, ⟨some k2, v2, q2⟩] env)).any (·.1.isNone)) = false := by intros; with_unfolding_all rfl) :
    EvE w n Γ ρ (.Call (.Name f p) (e :: es) [⟨some k1, v1, q1⟩, ⟨some k2, v2, q2⟩] p') d ρ₁ := by
  constructor; intro nm scope L ad cd A h₀ s Q E I R hp h
  obtain ⟨fa, hg, hkeep, F⟩ := F
  obtain ⟨m, Fr, _⟩ := I.fr
  obtain ⟨pp, loose, mean, mg, mb, T⟩ := I.hok.T
  show wpAny _ _ (do callWith p' (← eval (.Name f p) (envOf nm scope L ad cd)) [] (backTo p' (starEach (e :: es) (envOf nm scope L ad cd))) (backToKw p' (keywordEach [⟨some k1, v1, q1⟩, ⟨some k2, v2, q2⟩] (envOf nm scope L ad cd)))) Q E s
  refine wpAny_bind (name_K Fr I.hok.K (topRead_of T) hg ?_ I.kind (by exact (I.glo f hf).1) (I.glo f hf).2)
  refine callWith_KW (h₀ := h₀) I.hok.K hkeep rfl (h1.run nm scope L ad cd A h₀ s p' _ E I R hp fun vs h' tk hp' I' g r => ?_) (hpl _ _) (hst _)
  refine kwAll_cons (g1.run nm scope L ad cd A h₀ _ _ E I' R hp' fun w1 h2 tk2 hp2 I2 gg2 r2 => ?_)
  refine kwAll_cons (g2.run nm scope L ad cd A h₀ _ _ E I2 R hp2 fun w2 h3 tk3 hp3 I3 gg3 r3 => ?_)
  refine kwAll_nil ⟨I3.here.K, ?_⟩
  exact F A _ vs [w1, w2] Q E I3.here (R.le hk) hp3 ((r.but I'.dict gg2).but I2.dict gg3) (.cons (r2.but I2.dict gg3) (.cons r3 .nil)) fun v h4 tk4 hp4 g4 r4 => h v h4 tk4 hp4 (I3.grow g4) (((g.trans gg2).trans gg3).trans (g4.but L)) r4
end
end Mine
end

-- PyO
section
namespace Mine
open PySem.Builtin PySem.Builtin.Str PySem.NumText

theorem typeCall_int_2 (a b : Value) : checkTypeCall "int" ⟨[a, b], []⟩ = pure () := by kernel_rfl
theorem newCall_int_2 (a b : Value) : checkBuiltinCall "int.__new__" ⟨[.type "int", a, b], []⟩ = pure () := by kernel_rfl
structure Hid (p : Prop) : Prop where
  out : p
set_option maxHeartbeats 4000000 in
theorem gives_textb {x : PySem.Str} {u v : Tok} {n : Int} (hl : x.length ≤ 640) (hn : PySem.intText? x = some n) : Gives (Builtin.«int.__new__» ⟨[.type "int", .str x u, .int 10 v], []⟩) (.int n) :=
  .of_wp fun M A E s Q h => by
    obtain ⟨hp, g, d, tk, os⟩ := s
    have f1 := F.conv_sub_int
    have f2 := F.madeHere_int
    have f6 : typeOf (.str x u) = pure (.type "str") := rfl
    have hs : (numSeenOf x).length ≤ 640 := Nat.le_trans (seen_length x) hl
    have hr : (int_private% "readNumeral") 0 10 (numSeenOf x) = (int_private% "Numeral.value") n ∧ ((numSeenOf x).length == (numTextOf x).length) = true := by
      rcases read0 x hs with ⟨m, h1, h2, h3⟩ | ⟨h1, _⟩
      · rw [hn] at h1
        injection h1 with h1
        subst h1
        exact ⟨h3, h2⟩
      · rw [hn] at h1
        cases h1
    have hk := Hid.mk (And.intro hs hr)
    clear hs hr hl hn
    repeat (any_goals (first
      | assumption
      | ((with_reducible show wpAny _ _ ((int_private% "intFromText") _ _ _) _ _ _); refine KIN.wp_text hk.out.1 hk.out.2.1 hk.out.2.2 ?_)
      | wp_step))
    all_goals first | exact ⟨_, rfl, h⟩ | skip

theorem K_intb {x : Str} {i : Int} (hn : PySem.intText? x = some i) (hl : x.length ≤ 640) : CallV (.type "int") [.str x, .int 10] (.int i) := by
  constructor; intro w A s vs Q E R hp H ra h
  obtain ⟨v, u, rfl, r, q⟩ := repAll2 ra
  obtain ⟨t, rfl⟩ := r.str
  obtain ⟨t', rfl⟩ := q.int
  exact callType_new F.called_int F.newNe_int (typeCall_int_2 _ _) (newCall_int_2 _ _) (fun obj => F.initArgs_range_2 obj _ _) F.entry_int_new (gives_textb hl hn).meets (show (Made.int i).post _ s from ⟨rfl, h _ s.heap _ (Grow.refl _) rep_int⟩)

theorem retStr_to {M : Model} {A : Around} {E : Value → Shared → Prop} {s : Shared} {x y : Str} {Q : PySem.Fin → Shared → Prop} (e : x = y) (hy : y.length ≤ sizeLine) (h : Q (.done (.ret (.str y s.toks))) { s with toks := s.toks + 1 }) : wpAny M A (retStr x) Q E s := by
  subst e
  unfold retStr
  exact wpAny_bind (wpAny_mkStr (wpAny_pure h) hy)
theorem plus_len : ∀ k : Nat, k < 20 → ((⟨#[43]⟩ : Str) ++ Str.ofString (toString (k : Int))).length ≤ sizeLine := by decide +kernel
theorem parse_plus (name : String) : Float.parseFormatSpec (PySem.Str.ofString "+").cps.toList name 62 = .ok { align := 62, sign := some 43 } := by kernel_rfl
set_option maxHeartbeats 4000000 in
theorem gives_plus {k : Nat} {t u : Tok} (h1 : k < 20) : Gives (Builtin.«int.__format__» ⟨[.int (k : Int) t, .str "+" u], []⟩) (.str (⟨#[43]⟩ ++ Str.ofString (toString (k : Int)))) :=
  .of_wp fun M A E s Q h => by
    obtain ⟨hp, g, d, tk, os⟩ := s
    have f1 : typeOf (.int (k : Int) t) = pure (.type "int") := rfl
    have hlog : (k : Int).natAbs.log2 < 1920 := by
      have : (k : Int).natAbs.log2 ≤ (k : Int).natAbs := Nat.log2_le_self _
      omega
    iterate 53 (first
      | assumption
      | rw [parse_plus]
      | ((with_reducible show wpAny _ _ (if (k : Int).natAbs.log2 < 1920 then _ else _) _ _ _); refine wpAny_ite_true (decide_eq_true hlog) ?_)
      | wp_step)
    show wpAny _ _ (retStr _) _ _ _
    have hpl := plus_len k h1
    generalize hy : (⟨#[43]⟩ : Str) ++ Str.ofString (toString (k : Int)) = y at hpl h
    refine retStr_to (y := y) ?_ hpl ?_
    · rw [← hy]
      clear h hlog f1 hpl hy
      revert k
      decide +kernel
    · exact ⟨_, rfl, h.2⟩
end Mine
end

-- PyP
section
namespace Mine
open PySem.Builtin PySem.Builtin.Str PySem.NumText
section
variable {w : World} {n : Nat} {Γ : List Str} {ρ ρ' ρ₁ ρ₂ ρ₃ : PEnv} {e e₂ l r t : Expr} {d a b c : PV} {p p' p'' : Pos} {es : List Expr} {b₁ b₂ : Bool} {rest body els : List Stmt} {bs : List (List Stmt)} {o : Out}
theorem E_fplus {k : Nat} {kk : Nat} {q q2 q3 q4 : Pos} (h1 : EvE w n Γ ρ e (.int (k : Int)) ρ₁) (hk : k < 20) :
    EvE w n Γ ρ (.JoinedStr [.FormattedValue e (-1) (some (.JoinedStr [.Constant (.str (Str.ofString "+")) kk q] q2)) q3] q4) (.str (⟨#[43]⟩ ++ Str.ofString (toString (k : Int)))) ρ₁ := by
  constructor; intro nm scope L ad cd A h₀ s Q E I R hp h
  refine withToks hp (wpAny_JoinedStr_one (wpAny_FormattedValue_spec (h1.run nm scope L ad cd A h₀ s _ E I R hp fun va h' tk hp' I' g r1 => ?_)))
  refine wpAny_JoinedStr_one (wpAny_Constant_str ⟨_, _, rfl, ?_⟩)
  obtain ⟨t, rfl⟩ := r1.int
  refine wpAny_formatField_spec (by decide +kernel) (fun s' => typeIs_int s' _ t) F.slot_int_format F.entry_int_format F.args_int_format_2 (fun u => gives_plus hk) ?_ (by decide +kernel) (plus_len k hk)
  exact fun hp3 => h _ h' _ hp3 I' g rep_str

set_option maxHeartbeats 4000000 in
theorem B_err {x : Str} (hx : x.length ≤ 1000000) : BinV .Mod (.str (Str.ofString "Improperly formed interval number '%s'")) (.str x) (.str (Str.ofString "Improperly formed interval number '" ++ x ++ Str.ofString "'")) := by
  constructor; intro w A s va vb Q E R ra rb h
  obtain ⟨t, rfl⟩ := ra.str
  obtain ⟨u, rfl⟩ := rb.str
  refine' KPc.mod_str ?kpcF hx ?kpcm ?_
  case kpcF => kpc_eq
  case kpcm => kpc_run_s
  intro _ _
  exact h _ s.heap _ (Grow.refl _) rep_str


/-- `'[%s, %s]' % (e1, e2)`, as it is compiled -/
theorem E_two {e1 e2 : Expr} {x y : Str} {k1 k2 k3 : Nat} {q1 q2 q3 q4 q5 q6 : Pos} (h1 : EvE w n Γ ρ e1 (.str x) ρ) (h2 : EvE w n Γ ρ e2 (.str y) ρ) (hx : x.length ≤ 100000) (hy : y.length ≤ 100000) :
    EvE w n Γ ρ (.JoinedStr [.Constant (.str (Str.ofString "[")) k1 q1, .FormattedValue e1 115 none q2, .Constant (.str (Str.ofString ", ")) k2 q3, .FormattedValue e2 115 none q4, .Constant (.str (Str.ofString "]")) k3 q5] q6)
      (.str (Str.ofString "[" ++ x ++ Str.ofString ", " ++ y ++ Str.ofString "]")) ρ := by
  have lb : (Str.ofString "[").length = 1 := by decide +kernel
  have lc : (Str.ofString ", ").length = 2 := by decide +kernel
  have ld : (Str.ofString "]").length = 1 := by decide +kernel
  have hsl : sizeLine = 16777216 := rfl
  have he : Str.empty ++ Str.ofString "[" = Str.ofString "[" := by decide +kernel
  have ladd : ∀ a b : Str, (a ++ b).length = a.length + b.length := Str.length_append
  constructor; intro nm scope L ad cd A h₀ s Q E I R hp h
  refine wpAny_JoinedStr (Joins_cons (wpAny_Constant_str ⟨_, _, rfl, by rw [he, lb, hsl]; decide, ?_⟩))
  rw [he]
  refine Joins_cons (wpAny_FormattedValue_s (h1.run nm scope L ad cd A h₀ _ _ E I R (Nat.succ_pos _) fun va h' tk hp' I' g r1 => ?_))
  obtain ⟨t, rfl⟩ := r1.str
  refine withToks hp' (SB.convS_str (fun t' k => fun hpk => withToks hpk (SB.field_str (fun t2 k2 => fun hp2 => ?_) (by rw [hsl]; omega))) (by rw [hsl]; omega))
  refine ⟨_, _, rfl, by rw [ladd, lb, hsl]; omega, ?_⟩
  refine Joins_cons (wpAny_Constant_str ⟨_, _, rfl, by rw [ladd, ladd, lb, lc, hsl]; omega, ?_⟩)
  refine Joins_cons (wpAny_FormattedValue_s (h2.run nm scope L ad cd A h₀ _ _ E I' R (Nat.succ_pos _) fun vb h3 tk3 hp3 I3 g3 r3 => ?_))
  obtain ⟨t, rfl⟩ := r3.str
  refine withToks hp3 (SB.convS_str (fun t' k => fun hpk => withToks hpk (SB.field_str (fun t2 k2 => fun hp4 => ?_) (by rw [hsl]; omega))) (by rw [hsl]; omega))
  refine ⟨_, _, rfl, by rw [ladd, ladd, ladd, lb, lc, hsl]; omega, ?_⟩
  refine Joins_cons (wpAny_Constant_str ⟨_, _, rfl, by rw [ladd, ladd, ladd, ladd, lb, lc, ld, hsl]; omega, ?_⟩)
  refine Joins_nil ⟨by rw [ladd, ladd, ladd, ladd, lb, lc, ld, hsl]; omega, ?_⟩
  exact h _ h3 _ (Nat.succ_pos _) I3 (g.trans g3) rep_str

/-! a value that no text of ours reads -/
structure EvX (w : World) (n : Nat) (Γ : List Str) (ρ : PEnv) (e : Expr) : Prop where
  run : ∀ (nm : Str) (scope : Scope) (L a : Addr) (cd : Value) (A : Around) (h₀ : Heap) (s : Shared) (Q : Value → Shared → Prop) (E : Value → Shared → Prop),
    Inv w scope Γ L h₀ s.heap ρ → Room n A → 0 < s.toks →
    (∀ v h' tk, 0 < tk → Inv w scope Γ L h₀ h' ρ → Heap.ExtBut L s.heap h' → Q v { s with heap := h', toks := tk }) →
    wpAny (model pg w) A (eval e (envOf nm scope L a cd)) Q E s
theorem bi_valueerror : Bi w "ValueError" (.type "ValueError") := ⟨by kernel_rfl, by kernel_rfl, by decide +kernel⟩
theorem X_valueerror (hf : Str.ofString "ValueError" ∈ Γ) (h1 : EvE w n Γ ρ e d ρ)
    (hst : ∀ env, starEach [e] env = (false, eval e env) :: starEach [] env := by intros; with_unfolding_all rfl) : EvX w n Γ ρ (.Call (.Name (Str.ofString "ValueError") p) [e] [] p') := by
  constructor; intro nm scope L ad cd A h₀ s Q E I R hp h
  obtain ⟨m, Fr, _⟩ := I.fr
  obtain ⟨pp, loose, mean, mg, mb, T⟩ := I.hok.T
  show wpAny _ _ (do callWith p' (← eval (.Name (Str.ofString "ValueError") p) (envOf nm scope L ad cd)) [] (backTo p' (starEach [e] (envOf nm scope L ad cd))) (backToKw p' (keywordEach [] (envOf nm scope L ad cd)))) _ E s
  refine wpAny_bind (name_B Fr I.hok.K (topRead_of T) (bi_valueerror (w := w)).hn (bi_valueerror (w := w)).hv (bi_valueerror (w := w)).hne ?_ I.kind (by exact (I.glo _ hf).1) (I.glo _ hf).2)
  refine PyProof.Rows.callWith_type1 ?_ (hst _) rfl
  refine wpAny_items_cons (h1.run nm scope L ad cd A h₀ s _ E I R hp fun v h' tk hp' I' g r => wpAny_items_nil ?_) (hst _)
  refine call_exc excClass_ValueError (fun h3 e3 x => ?_) (by show 1 ≤ 16777216; decide)
  have g3 : Grow h' h3 := x.keeps
  exact h _ h3 _ hp' (I'.grow g3) (g.trans (g3.but L))

theorem nodup_one {x : Str} {o o' : Option PV} : ∀ {ρ : PEnv}, (ρ.map (·.1)).Nodup → (x, o) ∈ ρ → (x, o') ∈ ρ → o = o'
  | [], _, h, _ => by cases h
  | (y, q) :: ρ, hn, h, h' => by
    simp only [List.map_cons, List.nodup_cons] at hn
    rcases List.mem_cons.mp h with e | e <;> rcases List.mem_cons.mp h' with e' | e'
    · cases e; cases e'; rfl
    · cases e; exact absurd (List.mem_map_of_mem (f := (·.1)) e') hn.1
    · cases e'; exact absurd (List.mem_map_of_mem (f := (·.1)) e) hn.1
    · exact nodup_one hn.2 e e'
theorem S_assignX {x : Str} {pp : Pos} (h1 : EvX w n Γ ρ e) (hx : (x, none) ∈ ρ) (h2 : Exs w n Γ ρ (rest :: bs) o)
    (hs : ∀ t l env, swapsWith e t l env = pure false := by intros; with_unfolding_all rfl) : Exs w n Γ ρ ((.Assign [.Name x p'] e pp :: rest) :: bs) o := by
  refine S_one ?_ h2
  constructor; intro nm scope L ad cd A h₀ s Q E I R hp h
  refine wpAny_execs_cons (wpAny_Assign_Name (h1.run nm scope L ad cd A h₀ s _ E I R hp fun v h' tk hp' I' g => ?_) (hs _ _ _))
  obtain ⟨m, F, hr⟩ := I'.fr
  have hl := I'.loc x (List.mem_map_of_mem (f := (·.1)) hx)
  refine withToks hp' (wpAny_storeName_local (env := envOf nm scope L ad cd) (m := m) hl.1 F.ns (fun h3 hn hs3 => ?_) (by show (scope.kind == .class || (scope.kind == .module && L != mainGlobals)) = false; rw [I.kind]; rfl))
  refine fun hp3 => wpAny_execs_nil (h _ h3 _ hp3 ⟨rfl, ⟨⟨_, F.set hn hs3, fun y d hy => ?_⟩, I'.hok, I'.kind, I'.nodup, I'.loc, I'.glo⟩⟩ (g.trans hs3.extBut))
  obtain ⟨u, a, b⟩ := hr y d hy
  have hne : y ≠ x := by
    rintro rfl
    have := nodup_one I'.nodup hy hx
    cases this
  exact ⟨u, by simp [hne, a], b.but I'.dict hs3.extBut⟩
end
end Mine
end

-- PyQ
section
namespace Mine
open PySem.Builtin PySem.Builtin.Str PySem.NumText
open PySem.Builtin.Int (intBits)
namespace PowF
theorem kind_pow : builtinKind "pow" = none := by decide +kernel
theorem plain_pow : plainId "pow" = true := by decide +kernel
theorem entry_pow : entryFor table "pow" = some Builtin.«pow» := entryFor_of_tree (by kernel_rfl)
theorem args_pow (a b : Value) : argsOk "pow" ⟨[a, b], []⟩ := by unfold argsOk; kernel_rfl
end PowF
theorem K_pow {i j : Int} (hn : 0 ≤ j) (hb : (intBits i : Int) * j ≤ 2 ^ 27) : CallV (.builtin "pow") [.int i, .int j] (.int (i ^ j.toNat)) := by
  constructor; intro w A s vs Q E R hp H ra h
  obtain ⟨v, u, rfl, r, q⟩ := repAll2 ra
  obtain ⟨t, rfl⟩ := r.int
  obtain ⟨t', rfl⟩ := q.int
  refine Calls.call_function_entry PowF.kind_pow PowF.plain_pow PowF.entry_pow (PowF.args_pow _ _) ?_
  unfold Builtin.«pow»
  refine wpAny_bind (wpAny_of_eq (a := [some (.int i t), some (.int j t'), none]) rfl ?_)
  exact wpAny_bind (pow_int hn hb (wpAny_pure ⟨_, rfl, h _ s.heap _ (Grow.refl _) rep_int⟩))
theorem K_lenl {ds : List PV} (hl : ds.length ≤ 100000) : CallV (.builtin "len") [.list ds] (.int ds.length) := by
  constructor; intro w A s vs Q E R hp H ra h
  obtain ⟨v, rfl, r⟩ := repAll1 ra
  obtain ⟨l, xs, rfl, il, rv⟩ := r.list
  have hl' := rv.length
  refine PyProof.Rows.len_list il (by rw [List.size_toArray]; omega) ?_
  rw [List.size_toArray, hl']
  exact h _ s.heap _ (Grow.refl _) rep_int
section
variable {w : World} {n : Nat} {Γ : List Str} {ρ ρ₁ : PEnv} {e : Expr} {p : Pos}
theorem E_replace' {x y z r : Str} {apos p1 p2 : Pos} {k1 k2 : Nat} (h1 : EvE w n Γ ρ e (.str x) ρ₁) (hr : Txt.replace x y z = r) (hyz : (y == z) = false) (hb : x.length + (x.length + 1) * z.length ≤ 16777216)
    (hline : (apos.endLine == p.line) = true := by with_unfolding_all rfl)
    (hbase : ∀ env whole, attributeBase e (Str.ofString "replace") env whole = whole := by intros; with_unfolding_all rfl) :
    EvE w n Γ ρ (.Call (.Attribute e (Str.ofString "replace") apos) [.Constant (.str y) k1 p1, .Constant (.str z) k2 p2] [] p) (.str r) ρ₁ := hr ▸ E_replace h1 hyz hb hline hbase
end
end Mine
end

-- PyR
section
namespace Mine
open PySem.Builtin PySem.Builtin.Str
section
variable {w : World} {n : Nat} {Γ : List Str} {ρ : PEnv} {l a b c : Expr} {p p' : Pos}
/-- the text that a slice with a step takes -/
def by3 (x : Str) (i j k : Int) : Str := Txt.sliceBy x (some (i, 0)) (some (j, 0)) (k, 0)
theorem E_slice3 {x : Str} {i j k : Int} (h1 : EvE w n Γ ρ l (.str x) ρ) (h2 : EvE w n Γ ρ a (.int i) ρ) (h3 : EvE w n Γ ρ b (.int j) ρ) (h4 : EvE w n Γ ρ c (.int k) ρ) (hx : x.length ≤ sizeLine) (hk : (k == 0) = false)
    (hs : ∀ x t q, subscripted (.Slice (some a) (some b) (some c) p) false (.str x t) (.ref q) = operate [.ref q, .str x t] (getItem (.str x t) (.ref q)) := by intros; with_unfolding_all rfl)
    (ht : ∀ o r, letTemporaryGo l o r = pure () := by intros; with_unfolding_all rfl) : EvE w n Γ ρ (.Subscript l (.Slice (some a) (some b) (some c) p) p') (.str (by3 x i j k)) ρ := by
  constructor; intro nm scope L ad cd A h₀ s Q E I R hp h
  refine withToks hp ?_
  refine Subscript_ (h1.run nm scope L ad cd A h₀ s _ E I R hp fun va h' tk hp' I' g r1 => ?_)
  obtain ⟨t, rfl⟩ := r1.str
  refine wpAny_Slice (evalPart_some_step (h2.run nm scope L ad cd A h₀ _ _ E I' R hp' fun v2 h2' tk2 hp2 I2 g2 q2 => ?_))
  refine evalPart_some_step (h3.run nm scope L ad cd A h₀ _ _ E I2 R hp2 fun v3 h3' tk3 hp3 I3 g3 q3 => ?_)
  refine evalPart_some_step (h4.run nm scope L ad cd A h₀ _ _ E I3 R hp3 fun v4 h4' tk4 hp4 I4 g4 q4 => ?_)
  obtain ⟨u2, rfl⟩ := q2.int
  obtain ⟨u3, rfl⟩ := q3.int
  obtain ⟨u4, rfl⟩ := q4.int
  refine tail_of_ItemOn ⟨"str", _, F.slot_str_getitem.lookup, typeIs_str _ _ _, wpAny_getItem_str_slice (l := some (i, u2)) (u := some (j, u3)) (st := some (k, u4)) ⟨_, Heap.get?_push_size _ rfl, rfl, rfl⟩ hk
    (post_val_or_str ⟨Nat.le_trans (Txt.sliceBy_le x _ _ (k, u4) (by simpa using hk)) hx, fun t' c => ?_⟩)⟩ (hs _ _ _) (fun r => ht _ _)
  intro hp5
  exact h _ _ c hp5 (I4.grow (Grow.push _ _)) ((((g.trans g2).trans g3).trans g4).trans ((Grow.push _ _).but L)) rep_str
end
end Mine
end

-- TxB
section
namespace Mine
open PySem.NumText

abbrev Dg (l : List Nat) : Prop := AllDigits l
abbrev dv (l : List Nat) : Nat := digitsVal l
theorem dv_snoc (l : List Nat) (c : Nat) : dv (l ++ [c]) = dv l * 10 + (c - 48) := by simp [dv, digitsVal]
theorem dv_app (a b : List Nat) : dv (a ++ b) = dv a * 10 ^ b.length + dv b := by
  suffices h : ∀ n (b : List Nat), b.length = n → dv (a ++ b) = dv a * 10 ^ n + dv b from h _ b rfl
  intro n
  induction n with
  | zero =>
    intro b hb
    have := List.eq_nil_of_length_eq_zero hb
    subst this
    simp [dv, digitsVal]
  | succ n ih =>
    intro b hb
    obtain ⟨b', c, rfl⟩ : ∃ b' c, b = b' ++ [c] := by
      have hne : b ≠ [] := by intro h; simp [h] at hb
      exact ⟨b.dropLast, b.getLast hne, (List.dropLast_concat_getLast hne).symm⟩
    have hb' : b'.length = n := by simpa using hb
    rw [← List.append_assoc, dv_snoc, ih b' hb', dv_snoc, Nat.pow_succ]
    generalize dv a = x
    generalize dv b' = y
    rw [Nat.add_mul, Nat.mul_assoc]
    omega
theorem dv_zeros (k : Nat) : dv (List.replicate k 48) = 0 := by
  induction k with
  | zero => rfl
  | succ k ih => rw [List.replicate_succ', dv_snoc, ih]
theorem dv_rs (a b : List Nat) : dv (a ++ b) = dv (a ++ rs 48 b) * 10 ^ (b.length - (rs 48 b).length) := by
  obtain ⟨k, e, _⟩ := rs_split 48 b
  have hk : b.length - (rs 48 b).length = k := by
    have := congrArg List.length e; simp at this; omega
  rw [hk]
  conv => lhs; rw [e]
  rw [← List.append_assoc, dv_app (a ++ rs 48 b), dv_zeros]
  simp
theorem Dg.app {a b : List Nat} (h : Dg a) (h' : Dg b) : Dg (a ++ b) := fun c hc => (List.mem_append.mp hc).elim (h c) (h' c)
theorem Dg.rs {b : List Nat} (h : Dg b) : Dg (rs 48 b) := by
  obtain ⟨k, e, _⟩ := rs_split 48 b
  intro c hc
  exact h c (by rw [e]; exact List.mem_append_left _ hc)
theorem dv_lt : ∀ (l : List Nat), Dg l → dv l < 10 ^ l.length := by
  intro l
  suffices h : ∀ n (l : List Nat), l.length = n → Dg l → dv l < 10 ^ n from h _ l rfl
  intro n
  induction n with
  | zero => intro l hl _; have := List.eq_nil_of_length_eq_zero hl; subst this; decide
  | succ n ih =>
    intro l hl hd
    obtain ⟨b', c, rfl⟩ : ∃ b' c, l = b' ++ [c] := by
      have hne : l ≠ [] := by intro h; simp [h] at hl
      exact ⟨l.dropLast, l.getLast hne, (List.dropLast_concat_getLast hne).symm⟩
    have h1 := ih b' (by simpa using hl) (fun x hx => hd x (List.mem_append_left _ hx))
    have h2 := hd c (by simp)
    rw [dv_snoc, Nat.pow_succ]
    omega

/-- the text of a number -/
def ntx (m : Nat) : List Nat := (Nat.toDigits 10 m).map Char.toNat
def itx (n : Int) : List Nat := (if n < 0 then [45] else []) ++ ntx n.natAbs
theorem str_nat (m : Nat) : Str.ofString (toString (m : Int)) = tx (ntx m) := by
  rw [tx_of (Str.ofString (toString (m : Int))), KIN.signs_num]; rfl
theorem ntx_dg (m : Nat) : Dg (ntx m) := by
  intro c hc
  obtain ⟨ch, hch, e⟩ := List.mem_map.mp hc
  have r := digit_range (Nat.isDigit_of_mem_toDigits (by decide) (by decide) hch)
  rw [← e]; exact r
theorem ntx_ne (m : Nat) : ntx m ≠ [] := by
  intro e
  have h := toDigits_len_ge 10 m
  rw [List.map_eq_nil_iff.mp e] at h
  exact absurd h (by decide)
theorem ntx_val (m : Nat) : dv (ntx m) = m := KIN.val_back m
theorem ntx_len {m k : Nat} (hk : 1 ≤ k) (h : m < 10 ^ k) : (ntx m).length ≤ k := by
  unfold ntx; rw [List.length_map]; exact toDigits_len_pow (by decide) hk h
theorem ntx_lo {m : Nat} (h : 0 < m) : 10 ^ ((ntx m).length - 1) ≤ m := by
  by_cases hc : m < 10 ^ ((ntx m).length - 1)
  · by_cases h1 : (ntx m).length - 1 = 0
    · rw [h1] at hc; simp at hc; omega
    · have := ntx_len (by omega) hc
      omega
  · omega
theorem ntx_hi (m : Nat) : m < 10 ^ (ntx m).length := by
  have := dv_lt _ (ntx_dg m)
  rwa [ntx_val] at this
theorem str_int (n : Int) : Str.ofString (toString n) = tx (itx n) := by
  cases n with
  | ofNat m =>
    show Str.ofString (toString ((m : Nat) : Int)) = tx (itx ((m : Nat) : Int))
    rw [str_nat]
    unfold itx
    rw [if_neg (by omega)]
    rfl
  | negSucc m =>
    have e : toString (Int.negSucc m) = "-" ++ Nat.repr (m + 1) := rfl
    rw [e, tx_of (Str.ofString _), signs_ofString]
    have e2 : itx (Int.negSucc m) = 45 :: ntx (m + 1) := by
      unfold itx
      rw [if_pos (Int.negSucc_lt_zero m)]
      rfl
    rw [e2, String.toList_append, List.map_append]
    unfold ntx
    rw [Nat.toList_repr]
    rfl
theorem int_pos {A : List Nat} (h : Dg A) (h1 : A ≠ []) (h2 : A.length ≤ 600) : PySem.intText? (tx A) = some ((dv A : Nat) : Int) := by
  have := intText_digits (x := tx A) (by rw [tx_cps]; exact h) (by rw [tx_cps]; exact h1) (by rw [tx_len]; omega)
  rwa [tx_cps] at this
theorem int_neg {A : List Nat} (h : Dg A) (h1 : A ≠ []) (h2 : A.length ≤ 600) : PySem.intText? (tx (45 :: A)) = some (-((dv A : Nat) : Int)) :=
  intText_neg (x := tx (45 :: A)) (cs := A) (tx_cps _) h h1 (by rw [tx_len]; simp; omega)

/-- the sign of a text -/
def sgt (neg : Bool) : List Nat := if neg then [45] else []
def sgi (neg : Bool) (n : Nat) : Int := if neg then -(n : Int) else n
theorem int_sgt {neg : Bool} {A : List Nat} (h : Dg A) (h1 : A ≠ []) (h2 : A.length ≤ 600) : PySem.intText? (tx (sgt neg ++ A)) = some (sgi neg (dv A)) := by
  cases neg with
  | true => exact int_neg h h1 h2
  | false => exact int_pos h h1 h2
theorem itx_eq (n : Int) : itx n = sgt (decide (n < 0)) ++ ntx n.natAbs := by
  unfold itx sgt
  by_cases h : n < 0 <;> simp [h]
theorem sgi_self (n : Int) : sgi (decide (n < 0)) n.natAbs = n := by
  unfold sgi
  by_cases h : n < 0
  · simp [h]; omega
  · simp [h]; omega

/-- the characters of our texts -/
def okc (c : Nat) : Bool := (48 ≤ c && c ≤ 57) || c == 45 || c == 43 || c == 46 || c == 101 || c == 47
theorem okc_dg {c : Nat} (h : 48 ≤ c ∧ c ≤ 57) : okc c = true := by unfold okc; simp [h]
theorem okc_lt {c : Nat} (h : okc c = true) : c < 128 := by
  unfold okc at h
  simp only [Bool.or_eq_true, Bool.and_eq_true, decide_eq_true_eq, beq_iff_eq] at h
  omega
theorem ok_facts : ∀ c : Nat, c < 128 → okc c = true → (c < 65 ∨ 90 < c) ∧ Unicode.isSpace c = false := by decide +kernel
def okt (l : List Nat) : Prop := ∀ c ∈ l, okc c = true
theorem okt.app {a b : List Nat} (h : okt a) (h' : okt b) : okt (a ++ b) := fun c hc => (List.mem_append.mp hc).elim (h c) (h' c)
theorem okt_dg {a : List Nat} (h : Dg a) : okt a := fun c hc => okc_dg (h c hc)
theorem okt_sgt (neg : Bool) : okt (sgt neg) := by cases neg <;> simp [sgt, okt, okc]
theorem okt.cons {c : Nat} {a : List Nat} (h : okc c = true) (h' : okt a) : okt (c :: a) := by
  intro x hx
  rcases List.mem_cons.mp hx with rfl | hx
  · exact h
  · exact h' x hx
theorem okt.lower {l : List Nat} (h : okt l) : Txt.lower (tx l) = tx l := tx_lower fun c hc => ⟨okc_lt (h c hc), (ok_facts c (okc_lt (h c hc)) (h c hc)).1⟩
theorem okt.strip {l : List Nat} (h : okt l) : Txt.strip (tx l) = tx l := by
  refine tx_strip (fun c hc => ?_) (fun c hc => ?_)
  · have hm := List.mem_of_mem_head? hc
    exact (ok_facts c (okc_lt (h c hm)) (h c hm)).2
  · have hm := List.mem_of_mem_getLast? hc
    exact (ok_facts c (okc_lt (h c hm)) (h c hm)).2
theorem okt.free {l : List Nat} (h : okt l) {c : Nat} (hc : okc c = false) : c ∉ l := fun hm => by rw [h c hm] at hc; cases hc
theorem rs_free {c : Nat} {l : List Nat} (h : c ∉ l) : rs c l = l := by
  obtain ⟨k, e, _⟩ := rs_split c l
  cases k with
  | zero => simp at e; exact e.symm
  | succ k => exact absurd (by rw [e]; simp) h
theorem starts_false {l y : List Nat} {c : Nat} (hc : c ∈ y) (hl : c ∉ l) : Txt.startswith (tx l) (tx y) = false := by
  unfold Txt.startswith
  cases h : Builtin.Str.subAt (tx l) (tx y) 0 with
  | false => simp
  | true =>
    rw [StrLaws.subAt_eq, tx_cps, tx_cps, tx_len, List.drop_zero] at h
    have e : l.take y.length = y := by simpa using h
    exact absurd (List.mem_of_mem_take (by rw [e]; exact hc)) hl
end Mine
end

-- TxD
section
namespace Mine
open PySem.NumText PySem.Builtin PySem.Builtin.Str PySem.StrLaws

/-- no plus before a minus -/
def pmf (l : List Nat) : Prop := ∀ i, l[i]? = some 43 → l[i + 1]? ≠ some 45
theorem at_pm {l : List Nat} {i : Nat} : At (tx l) (tx [43, 45]) (tx l).length i ↔ l[i]? = some 43 ∧ l[i + 1]? = some 45 := by
  unfold At
  rw [subAt_eq, tx_cps, tx_cps, tx_len, tx_len]
  show (i + 2 ≤ l.length ∧ ((l.drop i).take 2 == [43, 45]) = true) ↔ _
  rw [beq_iff_eq]
  constructor
  · rintro ⟨_, h⟩
    have e1 : ((l.drop i).take 2)[0]? = some 43 := by rw [h]; rfl
    have e2 : ((l.drop i).take 2)[1]? = some 45 := by rw [h]; rfl
    rw [List.getElem?_take, List.getElem?_drop] at e1 e2
    exact ⟨by simpa using e1, by simpa using e2⟩
  · rintro ⟨h1, h2⟩
    have l1 := (List.getElem?_eq_some_iff.mp h1)
    have l2 := (List.getElem?_eq_some_iff.mp h2)
    obtain ⟨l1, q1⟩ := l1
    obtain ⟨l2, q2⟩ := l2
    refine ⟨by omega, ?_⟩
    rw [List.drop_eq_getElem_cons l1, List.drop_eq_getElem_cons l2, q1, q2]
    rfl
theorem tx_pm_no {l : List Nat} (h : pmf l) : Txt.contains (tx l) (tx [43, 45]) = false := by
  cases hc : Txt.contains (tx l) (tx [43, 45]) with
  | false => rfl
  | true =>
    obtain ⟨i, hi⟩ := (found_iff (tx l) (tx [43, 45])).mp hc
    have := at_pm.mp hi
    exact absurd this.2 (h i this.1)
theorem pm_at (X Y : List Nat) : (X ++ 43 :: 45 :: Y)[X.length]? = some 43 ∧ (X ++ 43 :: 45 :: Y)[X.length + 1]? = some 45 := by
  constructor
  · rw [List.getElem?_append_right (Nat.le_refl _)]; simp
  · rw [List.getElem?_append_right (by omega)]; simp
theorem tx_pm_yes (X Y : List Nat) : Txt.contains (tx (X ++ 43 :: 45 :: Y)) (tx [43, 45]) = true :=
  (found_iff _ _).mpr ⟨X.length, at_pm.mpr (pm_at X Y)⟩
theorem pm_only {X Y : List Nat} (hX : 43 ∉ X) (hY : 43 ∉ Y) {i : Nat} (h : (X ++ 43 :: 45 :: Y)[i]? = some 43) : i = X.length := by
  by_cases h1 : i < X.length
  · rw [List.getElem?_append_left h1] at h
    exact absurd (List.mem_of_getElem? h) hX
  · rw [List.getElem?_append_right (by omega)] at h
    obtain ⟨k, hk⟩ : ∃ k, i - X.length = k := ⟨_, rfl⟩
    rw [hk] at h
    match k, h with
    | 0, _ => omega
    | 1, h => simp at h
    | k + 2, h => exact absurd (List.mem_of_getElem? (by simpa using h)) hY
theorem kind_small {l : List Nat} (h : ∀ c ∈ l, c < 256) : Builtin.Str.strKind (tx l) = 1 := by
  unfold Builtin.Str.strKind
  rw [if_pos]
  rw [← Array.all_toList, tx_cps, List.all_eq_true]
  intro c hc; simpa using h c hc
theorem tx_split_pm {X Y : List Nat} (hX : 43 ∉ X) (hY : 43 ∉ Y) (hs : ∀ c ∈ X ++ 43 :: 45 :: Y, c < 256) : Txt.split (tx (X ++ 43 :: 45 :: Y)) (tx [43, 45]) = [tx X, tx Y] := by
  have hk := kind_small hs
  have hk2 : Builtin.Str.strKind (tx [43, 45]) = 1 := kind_small (by simp)
  obtain ⟨f, hc, hf⟩ := occ_tight (tx (X ++ 43 :: 45 :: Y)) (tx [43, 45]) (by decide)
  have hcuts : occurrences (tx (X ++ 43 :: 45 :: Y)) (tx [43, 45]) 0 (tx (X ++ 43 :: 45 :: Y)).length ((tx (X ++ 43 :: 45 :: Y)).length + 1) = [X.length] := by
    generalize occurrences (tx (X ++ 43 :: 45 :: Y)) (tx [43, 45]) 0 (tx (X ++ 43 :: 45 :: Y)).length ((tx (X ++ 43 :: 45 :: Y)).length + 1) = cuts at *
    match cuts, hc with
    | [], hc =>
      have : f = 0 := hc
      exact absurd (at_pm.mpr (pm_at X Y)) (hf X.length (by omega))
    | [c], hc => rw [pm_only hX hY (at_pm.mp hc.2.1).1]
    | c :: c' :: r, hc =>
      have h1 := pm_only hX hY (at_pm.mp hc.2.1).1
      have h2 := pm_only hX hY (at_pm.mp hc.2.2.2.2.1).1
      have h3 : c + (tx [43, 45]).length ≤ c' := hc.2.2.2.1
      rw [tx_len] at h3
      simp at h3
      omega
  unfold Txt.split
  rw [hcuts, if_neg (by rw [hk, hk2, tx_len, tx_len]; simp; omega), if_neg (by simp), partsBetween_eq]
  show [strSub _ 0 X.length, strSub _ (X.length + (tx [43, 45]).length) (tx (X ++ 43 :: 45 :: Y)).length] = _
  have e1 : strSub (tx (X ++ 43 :: 45 :: Y)) 0 X.length = tx X := by
    apply Str.ext'; apply Array.toList_inj.mp
    rw [strSub_toList, tx_cps, tx_cps]; simp
  have e2 : strSub (tx (X ++ 43 :: 45 :: Y)) (X.length + (tx [43, 45]).length) (tx (X ++ 43 :: 45 :: Y)).length = tx Y := by
    apply Str.ext'; apply Array.toList_inj.mp
    rw [strSub_toList, tx_cps, tx_cps, tx_len, tx_len, List.drop_append]
    rw [List.drop_of_length_le (by simp)]
    simp
    apply List.take_of_length_le; omega
  rw [e1, e2]
theorem pmf_free {l : List Nat} (h : 43 ∉ l) : pmf l := fun i hi => absurd (List.mem_of_getElem? hi) h
theorem pmf.app {a b : List Nat} (h : 43 ∉ a) (h' : pmf b) : pmf (a ++ b) := by
  intro i hi
  by_cases h1 : i < a.length
  · rw [List.getElem?_append_left h1] at hi
    exact absurd (List.mem_of_getElem? hi) h
  · rw [List.getElem?_append_right (by omega)] at hi
    rw [List.getElem?_append_right (by omega)]
    have := h' _ hi
    rwa [show i + 1 - a.length = i - a.length + 1 by omega]
theorem pmf.app2 {a b : List Nat} (h : pmf a) (hl : a.getLast? ≠ some 43) (h' : pmf b) : pmf (a ++ b) := by
  intro i hi
  by_cases h1 : i < a.length
  · rw [List.getElem?_append_left h1] at hi
    by_cases h2 : i + 1 < a.length
    · rw [List.getElem?_append_left h2]; exact h i hi
    · exfalso
      apply hl
      rw [List.getLast?_eq_getElem?, ← hi]
      congr 1; omega
  · rw [List.getElem?_append_right (by omega)] at hi
    rw [List.getElem?_append_right (by omega)]
    have := h' _ hi
    rwa [show i + 1 - a.length = i - a.length + 1 by omega]
end Mine
end

-- TxC
section
namespace Mine
open PySem.NumText

/-- the text of a decimal number: sign, figures, figures behind the point, exponent -/
structure NumT where
  neg : Bool
  A : List Nat
  B : Option (List Nat)
  E : Option (List Nat × Int)
def pT : Option (List Nat) → List Nat
  | none => []
  | some b => 46 :: b
def eT : Option (List Nat × Int) → List Nat
  | none => []
  | some (e, _) => 101 :: e
def NumT.mant (t : NumT) : List Nat := sgt t.neg ++ t.A ++ pT t.B
def NumT.text (t : NumT) : List Nat := t.mant ++ eT t.E
def NumT.frac (t : NumT) : List Nat := rs 48 (t.B.getD [])
def NumT.man (t : NumT) : Int := sgi t.neg (dv (t.A ++ t.frac))
def NumT.exp (t : NumT) : Int := (t.E.map (·.2)).getD 0 - t.frac.length
structure NumT.Ok (t : NumT) : Prop where
  a : Dg t.A
  ne : t.A ≠ []
  b : ∀ b, t.B = some b → Dg b ∧ b ≠ []
  e : ∀ e v, t.E = some (e, v) → PySem.intText? (tx e) = some v ∧ okt e ∧ 101 ∉ e ∧ 47 ∉ e ∧ (∃ c, e.getLast? = some c ∧ 48 ≤ c ∧ c ≤ 57) ∧ v.natAbs ≤ 20
  len : t.text.length ≤ 300
  pm : ∀ e v, t.E = some (e, v) → pmf e

theorem sgt_free {neg : Bool} {c : Nat} (h : c ≠ 45) : c ∉ sgt neg := by cases neg <;> simp [sgt]; exact h
theorem dg_free {l : List Nat} (h : Dg l) {c : Nat} (hc : c < 48 ∨ 57 < c) : c ∉ l := fun hm => by have := h c hm; omega
theorem NumT.Ok.okt_mant {t : NumT} (h : t.Ok) : okt t.mant := by
  unfold NumT.mant
  refine okt.app (okt.app (okt_sgt _) (okt_dg h.a)) ?_
  cases hb : t.B with
  | none => simp [pT, okt]
  | some b => exact okt.cons (by decide) (okt_dg (h.b b hb).1)
theorem NumT.Ok.okt {t : NumT} (h : t.Ok) : okt t.text := by
  unfold NumT.text
  refine okt.app h.okt_mant ?_
  cases he : t.E with
  | none => simp [eT, Mine.okt]
  | some p => obtain ⟨e, v⟩ := p; exact okt.cons (by decide) (h.e e v he).2.1
theorem NumT.Ok.no_e {t : NumT} (h : t.Ok) : 101 ∉ t.mant := by
  unfold NumT.mant
  intro hm
  rcases List.mem_append.mp hm with hm | hm
  · rcases List.mem_append.mp hm with hm | hm
    · exact sgt_free (by decide) hm
    · exact dg_free h.a (by decide) hm
  · cases hb : t.B with
    | none => rw [hb] at hm; cases hm
    | some b =>
      rw [hb] at hm
      rcases List.mem_cons.mp hm with e | hm
      · cases e
      · exact dg_free (h.b b hb).1 (by decide) hm
theorem NumT.Ok.no_slash {t : NumT} (h : t.Ok) : 47 ∉ t.text := by
  unfold NumT.text NumT.mant
  intro hm
  rcases List.mem_append.mp hm with hm | hm
  · rcases List.mem_append.mp hm with hm | hm
    · rcases List.mem_append.mp hm with hm | hm
      · exact sgt_free (by decide) hm
      · exact dg_free h.a (by decide) hm
    · cases hb : t.B with
      | none => rw [hb] at hm; cases hm
      | some b =>
        rw [hb] at hm
        rcases List.mem_cons.mp hm with e | hm
        · cases e
        · exact dg_free (h.b b hb).1 (by decide) hm
  · cases he : t.E with
    | none => rw [he] at hm; cases hm
    | some p =>
      obtain ⟨e, v⟩ := p
      rw [he] at hm
      rcases List.mem_cons.mp hm with q | hm
      · cases q
      · exact (h.e e v he).2.2.2.1 hm
theorem NumT.Ok.no_pt {t : NumT} (h : t.Ok) : 46 ∉ sgt t.neg ++ t.A := by
  intro hm
  rcases List.mem_append.mp hm with hm | hm
  · exact sgt_free (by decide) hm
  · exact dg_free h.a (by decide) hm
/-- the last sign is a figure -/
theorem last_app {a b : List Nat} {c : Nat} (h : b.getLast? = some c) : (a ++ b).getLast? = some c := by
  rw [List.getLast?_append, h]; rfl
theorem dg_last {l : List Nat} (h : Dg l) (hne : l ≠ []) : ∃ c, l.getLast? = some c ∧ 48 ≤ c ∧ c ≤ 57 := by
  refine ⟨l.getLast hne, List.getLast?_eq_some_getLast hne, ?_⟩
  exact h _ (List.getLast_mem hne)
theorem last_cons {a c : Nat} {b : List Nat} (h : b.getLast? = some c) : (a :: b).getLast? = some c := last_app (a := [a]) h
theorem NumT.Ok.last {t : NumT} (h : t.Ok) : ∃ c, t.text.getLast? = some c ∧ 48 ≤ c ∧ c ≤ 57 := by
  unfold NumT.text
  cases he : t.E with
  | some p =>
    obtain ⟨e, v⟩ := p
    obtain ⟨c, h1, h2⟩ := (h.e e v he).2.2.2.2.1
    exact ⟨c, last_app (last_cons h1), h2⟩
  | none =>
    simp only [eT, List.append_nil]
    unfold NumT.mant
    cases hb : t.B with
    | some b =>
      obtain ⟨c, h1, h2⟩ := dg_last (h.b b hb).1 (h.b b hb).2
      exact ⟨c, last_app (last_cons h1), h2⟩
    | none =>
      simp only [pT, List.append_nil]
      obtain ⟨c, h1, h2⟩ := dg_last h.a h.ne
      exact ⟨c, last_app h1, h2⟩
theorem NumT.Ok.no_plus {t : NumT} (h : t.Ok) : 43 ∉ t.mant := by
  unfold NumT.mant
  intro hm
  rcases List.mem_append.mp hm with hm | hm
  · rcases List.mem_append.mp hm with hm | hm
    · exact sgt_free (by decide) hm
    · exact dg_free h.a (by decide) hm
  · cases hb : t.B with
    | none => rw [hb] at hm; cases hm
    | some b =>
      rw [hb] at hm
      rcases List.mem_cons.mp hm with e | hm
      · cases e
      · exact dg_free (h.b b hb).1 (by decide) hm
theorem NumT.Ok.pmf {t : NumT} (h : t.Ok) : pmf t.text := by
  unfold NumT.text
  refine pmf.app h.no_plus ?_
  cases he : t.E with
  | none => intro i hi; simp [eT] at hi
  | some p =>
    obtain ⟨e, v⟩ := p
    exact pmf.app (a := [101]) (by decide) (h.pm e v he)
end Mine
end

-- TxE
section
namespace Mine
open PySem.NumText

theorem dv_nines (j : Nat) : dv (List.replicate j 57) + 1 = 10 ^ j := by
  induction j with
  | zero => rfl
  | succ j ih => rw [List.replicate_succ', dv_snoc, Nat.pow_succ]; omega
theorem dv_cons (c : Nat) (l : List Nat) : dv (c :: l) = (c - 48) * 10 ^ l.length + dv l := by
  have := dv_app [c] l
  simpa [dv, digitsVal] using this
theorem dv_inc (A : List Nat) {c : Nat} (h : 48 ≤ c) (j : Nat) : dv (A ++ (c + 1) :: List.replicate j 48) = dv (A ++ c :: List.replicate j 57) + 1 := by
  rw [dv_app, dv_app, dv_cons, dv_cons, dv_zeros]
  have := dv_nines j
  simp only [List.length_cons, List.length_replicate]
  have e : c + 1 - 48 = (c - 48) + 1 := by omega
  rw [e, Nat.add_mul]
  omega
theorem dv_one (j : Nat) : dv (49 :: List.replicate j 48) = 10 ^ j := by
  rw [dv_cons, dv_zeros]; simp
/-- the nines at the end -/
theorem nines_end : ∀ (l : List Nat), ∃ j, (l = List.replicate j 57) ∨ (∃ A c, l = A ++ c :: List.replicate j 57 ∧ c ≠ 57) := by
  intro l
  induction l with
  | nil => exact ⟨0, .inl rfl⟩
  | cons a l ih =>
    obtain ⟨j, h | ⟨A, c, h, hc⟩⟩ := ih
    · by_cases ha : a = 57
      · exact ⟨j + 1, .inl (by rw [h, ha]; rfl)⟩
      · exact ⟨j, .inr ⟨[], a, by rw [h]; rfl, ha⟩⟩
    · exact ⟨j, .inr ⟨a :: A, c, by rw [h]; rfl, hc⟩⟩
/-- what is behind D figures is cut off or rounded up: the error -/
theorem cut_err {l : List Nat} {D c : Nat} (hd : Dg l) (hD : l[D]? = some c) :
    ∃ r, dv l = dv (l.take D) * 10 ^ (l.length - D) + (c - 48) * 10 ^ (l.length - D - 1) + r ∧ r < 10 ^ (l.length - D - 1) ∧ r = dv (l.drop (D + 1)) := by
  have hlt : D < l.length := (List.getElem?_eq_some_iff.mp hD).1
  have hc : l[D] = c := (List.getElem?_eq_some_iff.mp hD).2
  have e1 : l = l.take D ++ c :: l.drop (D + 1) := by
    rw [← hc, ← List.drop_eq_getElem_cons hlt, List.take_append_drop]
  refine ⟨dv (l.drop (D + 1)), ?_, ?_, rfl⟩
  · conv => lhs; rw [e1]
    rw [dv_app, dv_cons]
    simp only [List.length_cons, List.length_drop]
    have e2 : l.length - (D + 1) + 1 = l.length - D := by omega
    have e3 : l.length - (D + 1) = l.length - D - 1 := by omega
    rw [e2, e3]
    omega
  · have := dv_lt (l.drop (D + 1)) (fun x hx => hd x (List.mem_of_mem_drop hx))
    rw [List.length_drop] at this
    rwa [show l.length - D - 1 = l.length - (D + 1) by omega]
end Mine
end

-- WbA
section
namespace Mine
open PySem.Builtin (bitAnd bitXor)
open PySem.Builtin.Int (intBits)
local macro_rules | `(tactic| walk_at "mem") => `(tactic| with_reducible (first | exact List.mem_cons_self | (refine List.mem_cons_of_mem _ ?_; walk_at "mem")))
local macro_rules | `(tactic| walk_at "upd") => `(tactic| with_reducible (first | exact Upd.head | (apply Upd.tail; walk_at "upd")))
local macro_rules | `(tactic| walk_at "upds") => `(tactic| first | exact Upds.nil | exact Upds.cons (by walk_at "upd") (by walk_at "upds"))
local macro_rules | `(tactic| walk_at "names") => `(tactic| first | exact Names.nil | exact Names.cons (by walk_at "names"))
local macro_rules | `(tactic| walk_at "side") => `(tactic| first | assumption | decide | omega)
local macro_rules | `(tactic| walk_at "B") => `(tactic| with_reducible first
  | exact B_add | exact B_sub | (show BinV .Mult _ _ _; exact B_mul (by walk_at "side")) | (show BinV .FloorDiv _ _ _; exact B_fdiv (by walk_at "side") (by walk_at "side")) | (show BinV .Mod _ _ _; exact B_mod (by walk_at "side"))
  | (show BinV .LShift _ _ _; exact B_shl (by walk_at "side") (by walk_at "side")) | (show BinV .RShift _ _ _; exact B_shr (by walk_at "side")) | (show BinV .Pow _ _ _; exact B_pow (by walk_at "side") (by walk_at "side"))
  | exact B_and | exact B_xor | (show BinV .Add (.str _) _ _; exact B_adds (by walk_at "side")))
local macro_rules | `(tactic| walk_at "I") => `(tactic| with_reducible first
  | exact I_add | exact I_sub | (show IBinV .LShift _ _ _; exact I_shl (by walk_at "side") (by walk_at "side")) | (show IBinV .RShift _ _ _; exact I_shr (by walk_at "side")) | exact I_xor | (show IBinV .Add (.str _) _ _; exact I_adds (by walk_at "side")))
local macro_rules | `(tactic| walk_at "C") => `(tactic| with_reducible first
  | exact C_eq | exact C_ne | exact C_lt | exact C_le | exact C_gt | exact C_ge | exact C_eqs | exact C_nes
  | (show CmpV .Eq (.tuple _) (.tuple _) _; exact C_eqd (by with_unfolding_all rfl) (by with_unfolding_all rfl) (by with_unfolding_all exact Nat.le_of_ble_eq_true rfl))
  | (show CmpV .NotEq (.tuple _) (.tuple _) _; exact C_ned (by with_unfolding_all rfl) (by with_unfolding_all rfl) (by with_unfolding_all exact Nat.le_of_ble_eq_true rfl)))
local macro_rules | `(tactic| walk_at "U") => `(tactic| with_reducible first | exact U_neg | (show UnV .Not _ _; exact U_not (by walk_at "R")))
local macro_rules | `(tactic| walk_at "R") => `(tactic| with_reducible first | exact R_int | exact R_bool | (show TruV (.str _) _; exact R_str (by walk_at "side")))
local macro_rules | `(tactic| walk_at "G") => `(tactic| with_reducible first
  | exact gl_fzero | exact gl_zero | exact gl_one | exact gl_near | exact gl_floor | exact gl_ceil | exact gl_up | exact gl_down | exact gl_fnan | exact gl_finf | exact gl_fninf | exact gl_blog | exact gl_digits)
local macro_rules | `(tactic| walk_at "L") => `(tactic| with_reducible first | exact L_nil | (show EvL _ _ _ _ (_ :: _) _ _; exact L_cons (by walk_at "E") (by walk_at "L")))
local macro_rules | `(tactic| walk_at "M0") => `(tactic| with_reducible first | exact M_bitlen | (show Meth0 _ (.str _) _; first | exact M_strip (by walk_at "side") | exact M_lower (by walk_at "side")))
local macro_rules | `(tactic| walk_at "K") => `(tactic| with_reducible first | assumption | exact K_int | exact K_abs | exact K_max | exact K_min | (show CallV (.builtin "len") _ _; exact K_len (by walk_at "side")) | (show CallV (.builtin "divmod") _ _; exact K_divmod (by walk_at "side") (by walk_at "side")))
local macro_rules | `(tactic| walk_at "Ebi") => `(tactic| with_reducible first
  | (show EvE _ _ _ _ (.Call (.Name (Str.ofString "int") _) _ _ _) _ _; exact E_bi bi_int (by walk_at "mem") rfl (by walk_at "L") (by walk_at "K"))
  | (show EvE _ _ _ _ (.Call (.Name (Str.ofString "len") _) _ _ _) _ _; exact E_bi bi_len (by walk_at "mem") rfl (by walk_at "L") (by walk_at "K"))
  | (show EvE _ _ _ _ (.Call (.Name (Str.ofString "abs") _) _ _ _) _ _; exact E_bi bi_abs (by walk_at "mem") rfl (by walk_at "L") (by walk_at "K"))
  | (show EvE _ _ _ _ (.Call (.Name (Str.ofString "max") _) _ _ _) _ _; exact E_bi bi_max (by walk_at "mem") rfl (by walk_at "L") (by walk_at "K"))
  | (show EvE _ _ _ _ (.Call (.Name (Str.ofString "min") _) _ _ _) _ _; exact E_bi bi_min (by walk_at "mem") rfl (by walk_at "L") (by walk_at "K"))
  | (show EvE _ _ _ _ (.Call (.Name (Str.ofString "divmod") _) _ _ _) _ _; exact E_bi bi_divmod (by walk_at "mem") rfl (by walk_at "L") (by walk_at "K"))
  | (show EvE _ _ _ _ (.Call (.Name (Str.ofString "str") _) _ _ _) _ _; exact E_bi bi_str (by walk_at "mem") rfl (by walk_at "L") (by walk_at "K"))
  | (show EvE _ _ _ _ (.Call (.Name (Str.ofString "pow") _) _ _ _) _ _; exact E_bi bi_pow (by walk_at "mem") rfl (by walk_at "L") (by walk_at "K"))
  | (show EvE _ _ _ _ (.Call (.Name (Str.ofString "isinstance") _) _ _ _) _ _; exact E_isint (by walk_at "mem") (by walk_at "mem") (by walk_at "E")))
local macro_rules | `(tactic| walk_at "E") => `(tactic| with_reducible first
  | assumption
  | (show EvE _ _ _ _ (.Name _ _) _ _; first | exact E_name (by walk_at "mem") | exact E_gl (by walk_at "mem") (by walk_at "G"))
  | exact E_int
  | (show EvE _ _ _ _ (.BinOp _ _ _ _) _ _; exact E_bin (by walk_at "E") (by walk_at "E") (by walk_at "B"))
  | exact E_str | exact E_bool | exact E_none
  | (show EvE _ _ _ _ (.UnaryOp _ _ _) _ _; exact E_un (by walk_at "E") (by walk_at "U"))
  | (show EvE _ _ _ _ (.Tuple _ _ _) _ _; exact E_tup (by walk_at "L"))
  | (show EvE _ _ _ _ (.Call (.Name _ _) _ _ _) _ _; first | walk_at "Ebi" | exact E_call (by walk_at "mem") (by walk_at "L") (by assumption))
  | (show EvE _ _ _ _ (.BoolOp .Or [_, _] _) _ _; exact E_orp (by walk_at "E") (by walk_at "side"))
  | (show EvE _ _ _ _ (.Call (.Attribute _ _ _) [] [] _) _ _; exact E_meth0 (by walk_at "E") (by walk_at "M0"))
  | (show EvE _ _ _ _ (.Compare _ [_] [_] _) _ _; exact E_cmp (by walk_at "E") (by walk_at "E") (by walk_at "C")))
local macro_rules | `(tactic| walk_at "T") => `(tactic| with_reducible first
  | assumption
  | (show EvT _ _ _ _ (.UnaryOp .Not _ _) _ _; exact T_not (by walk_at "T")) | (show EvT _ _ _ _ (.Compare _ [_] [_] _) _ _; exact T_cmp (by walk_at "E") (by walk_at "E") (by walk_at "C"))
  | (show EvT _ _ _ _ (.Compare _ [_, _] [_, _] _) _ _; exact T_chain (by walk_at "E") (by walk_at "E") (by walk_at "C") (fun _ => by walk_at "E") (fun _ => by walk_at "C"))
  | (show EvT _ _ _ _ (.BoolOp _ _ _) _ _; exact T_bool (by walk_at "A")) | exact T_val (by walk_at "E") (by walk_at "R"))
local macro_rules | `(tactic| walk_at "A") => `(tactic| with_reducible first
  | exact A_and0 | exact A_or0 | (show EvA _ _ _ _ .And _ _ _; exact A_and (by walk_at "T") (fun _ => by walk_at "A")) | exact A_or (by walk_at "T") (fun _ => by walk_at "A"))
local macro_rules | `(tactic| walk_at "S1") => `(tactic| with_reducible first
  | refine S_pop ?_
  | (show Exs _ _ _ _ ((.Assign [.Name _ _] _ _ :: _) :: _) _; refine S_assign (by walk_at "E") (by walk_at "upd") ?_)
  | (show Exs _ _ _ _ ((.AugAssign _ _ _ _ :: _) :: _) _; refine S_aug (by walk_at "mem") (by walk_at "E") (by walk_at "I") (by walk_at "upd") ?_)
  | (show Exs _ _ _ _ ((.Assign [.Tuple _ _ _] _ _ :: _) :: _) _; refine S_unpack (by walk_at "E") (by walk_at "names") (by walk_at "upds") ?_))
local macro_rules | `(tactic| walk_at "S") => `(tactic| repeat walk_at "S1")
local macro_rules | `(tactic| walk_at "ret") => `(tactic| (with_reducible show Exs _ _ _ _ ((.Return _ _ :: _) :: _) _; with_reducible apply S_ret'; walk_at "E"))
local macro_rules | `(tactic| walk_at "weak") => `(tactic| with_reducible first | exact Weak.nil | (apply Weak.skip; walk_at "weak") | (apply Weak.same; walk_at "weak") | (apply Weak.keep; rotate_left; walk_at "weak"))
local macro_rules | `(tactic| walk_at "end") => `(tactic| ((repeat (with_reducible refine S_pop ?_)); with_reducible apply S_end'; walk_at "weak"))
local macro_rules | `(tactic| walk_at "weak") => `(tactic| with_reducible first | exact Weak.nil | (apply Weak.skip; walk_at "weak") | (apply Weak.same; walk_at "weak") | (apply Weak.keep; rotate_left; walk_at "weak"))
local macro_rules | `(tactic| walk_at "end") => `(tactic| ((repeat (with_reducible refine S_pop ?_)); with_reducible apply S_end'; walk_at "weak"))
local macro_rules | `(tactic| walk_at "M1") => `(tactic| with_reducible first | assumption)
local macro_rules | `(tactic| walk_at "M0") => `(tactic| with_reducible first | assumption)
local macro_rules | `(tactic| walk_at "C") => `(tactic| with_reducible first | assumption)
local macro_rules | `(tactic| walk_at "E") => `(tactic| with_reducible first
  | (show EvE _ _ _ _ (.Call (.Attribute _ _ _) [.Constant _ _ _, .Constant _ _ _] [] _) _ _; exact E_replace' (by walk_at "E") (by assumption) (by decide +kernel) (by walk_at "side"))
  | (show EvE _ _ _ _ (.Call (.Attribute _ _ _) [_] [] _) _ _; exact E_meth1 (by walk_at "E") (by walk_at "E") (by walk_at "M1"))
  | (show EvE _ _ _ _ (.NamedExpr (.Name _ _) _ _) _ _; exact E_named (by walk_at "E") (by walk_at "upd"))
  | (show EvE _ _ _ _ (.Subscript _ (.Constant (.int _) _ _) _) _ _; exact E_listitem (by walk_at "E") (by walk_at "E") (by decide) (by decide) (by with_unfolding_all exact rfl)))
local macro_rules | `(tactic| walk_at "S1") => `(tactic| with_reducible first
  | (show Exs _ _ _ _ ((.Assign [.Tuple [.Name _ _, .Name _ _] _ _] (.Tuple [_, _] _ _) _ :: _) :: _) _; refine S_swap2 (by walk_at "L") (by walk_at "upd") (by walk_at "upd") ?_)
  | (show Exs _ _ _ _ ((.Assign [.Tuple [.Name _ _, .Name _ _, .Name _ _] _ _] (.Tuple [_, _, _] _ _) _ :: _) :: _) _; refine S_swap3 (by walk_at "L") (by walk_at "upd") (by walk_at "upd") (by walk_at "upd") ?_)
  | (show Exs _ _ _ _ ((.Assign [.Tuple _ _ _] _ _ :: _) :: _) _; refine S_unpackL (by walk_at "E") (by walk_at "names") (by walk_at "upds") ?_))
local macro_rules | `(tactic| walk_at "B") => `(tactic| with_reducible first | assumption)
theorem ofs_e : Str.ofString "e" = tx [101] := by decide +kernel
theorem ofs_pt : Str.ofString "." = tx [46] := by decide +kernel
theorem ofs_l : Str.ofString "l" = tx [108] := by decide +kernel
theorem ofs_0 : Str.ofString "0" = tx [48] := by decide +kernel
theorem ofs_us : Str.ofString "_" = tx [95] := by decide +kernel
theorem ofs_nil : Str.ofString "" = tx [] := by decide +kernel
theorem ofs_sl : Str.ofString "/" = tx [47] := by decide +kernel

theorem m_lower {X : List Nat} (h : okt X) (hl : X.length ≤ 100000) : Meth0 (Str.ofString "lower") (.str (tx X)) (.str (tx X)) := by
  have := M_lower (x := tx X) (by rw [h.lower, tx_len]; unfold Builtin.Str.tooLong sizeLine; exact decide_eq_false (by omega))
  rwa [h.lower] at this
theorem m_strip {X : List Nat} (h : okt X) (hl : X.length ≤ 100000) : Meth0 (Str.ofString "strip") (.str (tx X)) (.str (tx X)) := by
  have := M_strip (x := tx X) (by rw [tx_len]; unfold sizeLine; omega)
  rwa [h.strip] at this
theorem m_rstrip_l {X : List Nat} (h : okt X) (hl : X.length ≤ 100000) : Meth1 (Str.ofString "rstrip") (.str (tx X)) (.str (Str.ofString "l")) (.str (tx X)) := by
  have := M_rstrip (x := tx X) (y := tx [108]) (by rw [tx_len]; unfold sizeLine; omega)
  rw [tx_rs, rs_free (h.free (by decide))] at this
  rw [ofs_l]; exact this
theorem m_rstrip_0 {X : List Nat} (hl : X.length ≤ 100000) : Meth1 (Str.ofString "rstrip") (.str (tx X)) (.str (Str.ofString "0")) (.str (tx (rs 48 X))) := by
  have := M_rstrip (x := tx X) (y := tx [48]) (by rw [tx_len]; unfold sizeLine; omega)
  rw [tx_rs] at this
  rw [ofs_0]; exact this
theorem r_us {X : List Nat} (h : okt X) : Txt.replace (tx X) (Str.ofString "_") (Str.ofString "") = tx X := by
  rw [ofs_us, ofs_nil, tx_del, del_none (h.free (by decide))]
theorem z_us {X : List Nat} (hl : X.length ≤ 100000) : (tx X).length + ((tx X).length + 1) * (Str.ofString "").length ≤ 16777216 := by
  rw [ofs_nil, tx_len, tx_len]; simp; omega
theorem m_split1 {X : List Nat} {c : Nat} {y : Str} (hy : y = tx [c]) (h : c ∉ X) (hl : X.length ≤ 100000) : Meth1 (Str.ofString "split") (.str (tx X)) (.str y) (.list [.str (tx X)]) := by
  subst hy
  have := M_split (x := tx X) (y := tx [c]) (by rw [tx_len]; unfold sizeLine; omega) rfl
  rwa [tx_split1 h] at this
theorem m_split2 {a b : List Nat} {c : Nat} {y : Str} (hy : y = tx [c]) (h : c ∉ a) (h' : c ∉ b) (hl : (a ++ c :: b).length ≤ 100000) : Meth1 (Str.ofString "split") (.str (tx (a ++ c :: b))) (.str y) (.list [.str (tx a), .str (tx b)]) := by
  subst hy
  have := M_split (x := tx (a ++ c :: b)) (y := tx [c]) (by rw [tx_len]; unfold sizeLine; omega) rfl
  rwa [tx_split2 h h'] at this
theorem bits10 : (intBits 10 : Int) = 4 := by decide
theorem K_pow2 : CallV (.builtin "pow") [.int 2, .int (4 - 1)] (.int 8) := K_pow (i := 2) (j := 3) (by decide) (by decide)
theorem K_len1 {a : PV} : CallV (.builtin "len") [.list [a]] (.int 1) := K_lenl (by simp)
theorem K_len2 {a b : PV} : CallV (.builtin "len") [.list [a, b]] (.int 2) := K_lenl (by simp)

set_option maxHeartbeats 4000000 in
theorem sp_manexp {w : World} {t : NumT} (ht : t.Ok) : FnSpec w 1 "str_to_man_exp" [.str (tx t.text), .int 10] (.tuple [.int t.man, .int t.exp]) := by
  have hlen := ht.len
  have h1 := m_lower ht.okt (by omega)
  have h2 := m_rstrip_l ht.okt (by omega)
  have h3 := r_us ht.okt
  have h4 := z_us (X := t.text) (by omega)
  have hp := K_pow2
  have h0 : ∀ {u : PV}, Meth0 (Str.ofString "bit_length") (.int 10) u → True := fun _ => trivial
  have hb : Meth0 (Str.ofString "bit_length") (.int 10) (.int 4) := by have := M_bitlen (i := 10); rwa [bits10] at this
  refine fn_intro (Γ := ["pow", "len", "int", "ValueError"]) 246 (by kernel_rfl) (by rfl) (by kernel_rfl) ["x", "base"] ["sep", "e2", "parts", "exp", "a", "b"] [.str (tx t.text), .int 10] (by decide +kernel) rfl ?_ ?_
  · intro s vs ks H ra rk
    refine bindN ra rk fun vs hv => ?_
    match vs, hv with
    | [a, b], _ => exact binds_K (K := KK w) H.K rfl (by rfl) rfl rfl rfl
  intro ρ hρ; simp only [envZip_cons, envZip_nil, envZip_nil'] at hρ; subst hρ
  walk_at "S"
  refine S_if (by walk_at "T") (fun _ => ?_) (fun h => by cases h)
  walk_at "S"
  refine S_if (T_bool (A_and (b₂ := false) (T_cmp (by walk_at "E") (by walk_at "E") (by walk_at "C")) (fun h => absurd h (by decide)))) (fun h => absurd h (by decide)) (fun _ => ?_)
  walk_at "S"
  obtain ⟨ps, m1, hps⟩ : ∃ ps : List PV, Meth1 (Str.ofString "split") (.str (tx t.text)) (.str (Str.ofString "e")) (.list ps) ∧ ((t.E = none ∧ ps = [.str (tx t.text)]) ∨ (∃ e v, t.E = some (e, v) ∧ ps = [.str (tx t.mant), .str (tx e)])) := by
    cases hE : t.E with
    | none =>
      have hx : t.text = t.mant := by unfold NumT.text; rw [hE]; simp [eT]
      exact ⟨_, m_split1 (X := t.text) (y := "e") ofs_e (by rw [hx]; exact ht.no_e) (by omega), .inl ⟨rfl, rfl⟩⟩
    | some p =>
      obtain ⟨e, v⟩ := p
      have hx : t.text = t.mant ++ 101 :: e := by unfold NumT.text; rw [hE]; rfl
      have := m_split2 (a := t.mant) (b := e) (y := "e") ofs_e ht.no_e (ht.e e v hE).2.2.1 (by rw [← hx]; omega)
      rw [← hx] at this
      exact ⟨_, this, .inr ⟨e, v, rfl, rfl⟩⟩
  walk_at "S"
  refine S_join (ρ₁ := [("x", some (.str (tx t.mant))), ("base", some (.int 10)), ("sep", some (.str (Str.ofString "e"))), ("e2", none), ("parts", none), ("exp", some (.int ((t.E.map (·.2)).getD 0))), ("a", none), ("b", none)]) ?_ ?_
  · rcases hps with ⟨hE, rfl⟩ | ⟨e, v, hE, rfl⟩
    · have hx : t.text = t.mant := by unfold NumT.text; rw [hE]; simp [eT]
      have k1 := K_len1 (a := .str (tx t.text))
      refine S_if (by walk_at "T") (fun _ => ?_) (fun h => absurd h (by decide))
      walk_at "S"
      walk_at "end"
      · rw [hx]
      · rw [hE]; rfl
    · have k1 := K_len2 (a := .str (tx t.mant)) (b := .str (tx e))
      have k2 := K_ints (ht.e e v hE).1 (by rw [tx_len]; have := hlen; unfold NumT.text at this; rw [hE] at this; simp [eT] at this; omega)
      refine S_if (by walk_at "T") (fun h => absurd h (by decide)) (fun _ => ?_)
      refine S_if (by walk_at "T") (fun _ => ?_) (fun h => absurd h (by decide))
      walk_at "S"
      walk_at "end"
      rw [hE]; rfl
  have hman : t.mant.length ≤ 300 := by unfold NumT.text at hlen; simp at hlen; omega
  cases hB : t.B with
  | none =>
    have hx : t.mant = sgt t.neg ++ t.A := by unfold NumT.mant; rw [hB]; simp [pT]
    have hf : t.frac = [] := by unfold NumT.frac; rw [hB]; rfl
    have m2 := m_split1 (X := t.mant) (y := ".") ofs_pt (by rw [hx]; exact ht.no_pt) (by omega)
    have k1 := K_len1 (a := .str (tx t.mant))
    have k2 : CallV (.type "int") [.str (tx t.mant), .int 10] (.int t.man) := by
      refine K_intb ?_ (by rw [tx_len]; omega)
      rw [hx, int_sgt ht.a ht.ne (by rw [hx] at hman; simp at hman; omega)]
      unfold NumT.man; rw [hf, List.append_nil]
    walk_at "S"
    refine S_if (by walk_at "T") (fun h => absurd h (by decide)) (fun _ => ?_)
    walk_at "S"
    walk_at "ret"
    unfold NumT.exp; rw [hf]; simp
  | some B =>
    have hx : t.mant = (sgt t.neg ++ t.A) ++ 46 :: B := by unfold NumT.mant; rw [hB]; rfl
    have hf : t.frac = rs 48 B := by unfold NumT.frac; rw [hB]; rfl
    have hBd := ht.b B hB
    have m2 := m_split2 (a := sgt t.neg ++ t.A) (b := B) (y := ".") ofs_pt ht.no_pt (dg_free hBd.1 (by decide)) (by rw [← hx]; omega)
    rw [← hx] at m2
    have hlm := hman
    rw [hx] at hlm
    simp at hlm
    have k1 := K_len2 (a := .str (tx (sgt t.neg ++ t.A))) (b := .str (tx B))
    have m3 := m_rstrip_0 (X := B) (by omega)
    have k2 : CallV (.type "int") [.str (tx (sgt t.neg ++ t.A) ++ tx (rs 48 B)), .int 10] (.int t.man) := by
      have hl2 : (rs 48 B).length ≤ B.length := by
        obtain ⟨k, e, _⟩ := rs_split 48 B
        have := congrArg List.length e; simp at this; omega
      refine K_intb ?_ (by rw [tx_add, tx_len]; simp; omega)
      rw [tx_add, List.append_assoc, int_sgt (ht.a.app hBd.1.rs) (by intro h; exact ht.ne (List.append_eq_nil_iff.mp h).1) (by simp; omega)]
      unfold NumT.man; rw [hf]
    have hz : (tx (sgt t.neg ++ t.A)).length + (tx (rs 48 B)).length ≤ sizeLine := by
      have hl2 : (rs 48 B).length ≤ B.length := by
        obtain ⟨k, e, _⟩ := rs_split 48 B
        have := congrArg List.length e; simp at this; omega
      rw [tx_len, tx_len]; unfold sizeLine; simp; omega
    have hz2 : (tx (rs 48 B)).length ≤ sizeLine := by omega
    walk_at "S"
    refine S_if (by walk_at "T") (fun _ => ?_) (fun h => absurd h (by decide))
    walk_at "S"
    refine S_if (by walk_at "T") (fun _ => ?_) (fun h => absurd h (by decide +kernel))
    walk_at "S"
    refine S_if (T_eq (b₂ := false) (by walk_at "T") ?_) (fun h => by cases h) (fun _ => ?_)
    · rw [ofs_nil]
      refine decide_eq_false fun h => ht.ne ?_
      have := tx_inj h
      exact (List.append_eq_nil_iff.mp this).2
    walk_at "S"
    walk_at "ret"
    unfold NumT.exp; rw [hf, tx_len]
end Mine
end

-- WbB
section
namespace Mine
open PySem.Builtin (bitAnd bitXor)
open PySem.Builtin.Int (intBits)
local macro_rules | `(tactic| walk_at "mem") => `(tactic| with_reducible (first | exact List.mem_cons_self | (refine List.mem_cons_of_mem _ ?_; walk_at "mem")))
local macro_rules | `(tactic| walk_at "upd") => `(tactic| with_reducible (first | exact Upd.head | (apply Upd.tail; walk_at "upd")))
local macro_rules | `(tactic| walk_at "upds") => `(tactic| first | exact Upds.nil | exact Upds.cons (by walk_at "upd") (by walk_at "upds"))
local macro_rules | `(tactic| walk_at "names") => `(tactic| first | exact Names.nil | exact Names.cons (by walk_at "names"))
local macro_rules | `(tactic| walk_at "side") => `(tactic| first | assumption | decide | omega)
local macro_rules | `(tactic| walk_at "B") => `(tactic| with_reducible first
  | exact B_add | exact B_sub | (show BinV .Mult _ _ _; exact B_mul (by walk_at "side")) | (show BinV .FloorDiv _ _ _; exact B_fdiv (by walk_at "side") (by walk_at "side")) | (show BinV .Mod _ _ _; exact B_mod (by walk_at "side"))
  | (show BinV .LShift _ _ _; exact B_shl (by walk_at "side") (by walk_at "side")) | (show BinV .RShift _ _ _; exact B_shr (by walk_at "side")) | (show BinV .Pow _ _ _; exact B_pow (by walk_at "side") (by walk_at "side"))
  | exact B_and | exact B_xor | (show BinV .Add (.str _) _ _; exact B_adds (by walk_at "side")))
local macro_rules | `(tactic| walk_at "I") => `(tactic| with_reducible first
  | exact I_add | exact I_sub | (show IBinV .LShift _ _ _; exact I_shl (by walk_at "side") (by walk_at "side")) | (show IBinV .RShift _ _ _; exact I_shr (by walk_at "side")) | exact I_xor | (show IBinV .Add (.str _) _ _; exact I_adds (by walk_at "side")))
local macro_rules | `(tactic| walk_at "C") => `(tactic| with_reducible first
  | exact C_eq | exact C_ne | exact C_lt | exact C_le | exact C_gt | exact C_ge | exact C_eqs | exact C_nes
  | (show CmpV .Eq (.tuple _) (.tuple _) _; exact C_eqd (by with_unfolding_all rfl) (by with_unfolding_all rfl) (by with_unfolding_all exact Nat.le_of_ble_eq_true rfl))
  | (show CmpV .NotEq (.tuple _) (.tuple _) _; exact C_ned (by with_unfolding_all rfl) (by with_unfolding_all rfl) (by with_unfolding_all exact Nat.le_of_ble_eq_true rfl)))
local macro_rules | `(tactic| walk_at "U") => `(tactic| with_reducible first | exact U_neg | (show UnV .Not _ _; exact U_not (by walk_at "R")))
local macro_rules | `(tactic| walk_at "R") => `(tactic| with_reducible first | exact R_int | exact R_bool | (show TruV (.str _) _; exact R_str (by walk_at "side")))
local macro_rules | `(tactic| walk_at "G") => `(tactic| with_reducible first
  | exact gl_fzero | exact gl_zero | exact gl_one | exact gl_near | exact gl_floor | exact gl_ceil | exact gl_up | exact gl_down | exact gl_fnan | exact gl_finf | exact gl_fninf | exact gl_blog | exact gl_digits)
local macro_rules | `(tactic| walk_at "L") => `(tactic| with_reducible first | exact L_nil | (show EvL _ _ _ _ (_ :: _) _ _; exact L_cons (by walk_at "E") (by walk_at "L")))
local macro_rules | `(tactic| walk_at "M0") => `(tactic| with_reducible first | exact M_bitlen | (show Meth0 _ (.str _) _; first | exact M_strip (by walk_at "side") | exact M_lower (by walk_at "side")))
local macro_rules | `(tactic| walk_at "K") => `(tactic| with_reducible first | assumption | exact K_int | exact K_abs | exact K_max | exact K_min | (show CallV (.builtin "len") _ _; exact K_len (by walk_at "side")) | (show CallV (.builtin "divmod") _ _; exact K_divmod (by walk_at "side") (by walk_at "side")))
local macro_rules | `(tactic| walk_at "Ebi") => `(tactic| with_reducible first
  | (show EvE _ _ _ _ (.Call (.Name (Str.ofString "int") _) _ _ _) _ _; exact E_bi bi_int (by walk_at "mem") rfl (by walk_at "L") (by walk_at "K"))
  | (show EvE _ _ _ _ (.Call (.Name (Str.ofString "len") _) _ _ _) _ _; exact E_bi bi_len (by walk_at "mem") rfl (by walk_at "L") (by walk_at "K"))
  | (show EvE _ _ _ _ (.Call (.Name (Str.ofString "abs") _) _ _ _) _ _; exact E_bi bi_abs (by walk_at "mem") rfl (by walk_at "L") (by walk_at "K"))
  | (show EvE _ _ _ _ (.Call (.Name (Str.ofString "max") _) _ _ _) _ _; exact E_bi bi_max (by walk_at "mem") rfl (by walk_at "L") (by walk_at "K"))
  | (show EvE _ _ _ _ (.Call (.Name (Str.ofString "min") _) _ _ _) _ _; exact E_bi bi_min (by walk_at "mem") rfl (by walk_at "L") (by walk_at "K"))
  | (show EvE _ _ _ _ (.Call (.Name (Str.ofString "divmod") _) _ _ _) _ _; exact E_bi bi_divmod (by walk_at "mem") rfl (by walk_at "L") (by walk_at "K"))
  | (show EvE _ _ _ _ (.Call (.Name (Str.ofString "str") _) _ _ _) _ _; exact E_bi bi_str (by walk_at "mem") rfl (by walk_at "L") (by walk_at "K"))
  | (show EvE _ _ _ _ (.Call (.Name (Str.ofString "pow") _) _ _ _) _ _; exact E_bi bi_pow (by walk_at "mem") rfl (by walk_at "L") (by walk_at "K"))
  | (show EvE _ _ _ _ (.Call (.Name (Str.ofString "isinstance") _) _ _ _) _ _; exact E_isint (by walk_at "mem") (by walk_at "mem") (by walk_at "E")))
local macro_rules | `(tactic| walk_at "E") => `(tactic| with_reducible first
  | assumption
  | (show EvE _ _ _ _ (.Name _ _) _ _; first | exact E_name (by walk_at "mem") | exact E_gl (by walk_at "mem") (by walk_at "G"))
  | exact E_int
  | (show EvE _ _ _ _ (.BinOp _ _ _ _) _ _; exact E_bin (by walk_at "E") (by walk_at "E") (by walk_at "B"))
  | exact E_str | exact E_bool | exact E_none
  | (show EvE _ _ _ _ (.UnaryOp _ _ _) _ _; exact E_un (by walk_at "E") (by walk_at "U"))
  | (show EvE _ _ _ _ (.Tuple _ _ _) _ _; exact E_tup (by walk_at "L"))
  | (show EvE _ _ _ _ (.Call (.Name _ _) _ _ _) _ _; first | walk_at "Ebi" | exact E_call (by walk_at "mem") (by walk_at "L") (by assumption))
  | (show EvE _ _ _ _ (.BoolOp .Or [_, _] _) _ _; exact E_orp (by walk_at "E") (by walk_at "side"))
  | (show EvE _ _ _ _ (.Call (.Attribute _ _ _) [] [] _) _ _; exact E_meth0 (by walk_at "E") (by walk_at "M0"))
  | (show EvE _ _ _ _ (.Compare _ [_] [_] _) _ _; exact E_cmp (by walk_at "E") (by walk_at "E") (by walk_at "C")))
local macro_rules | `(tactic| walk_at "T") => `(tactic| with_reducible first
  | assumption
  | (show EvT _ _ _ _ (.UnaryOp .Not _ _) _ _; exact T_not (by walk_at "T")) | (show EvT _ _ _ _ (.Compare _ [_] [_] _) _ _; exact T_cmp (by walk_at "E") (by walk_at "E") (by walk_at "C"))
  | (show EvT _ _ _ _ (.Compare _ [_, _] [_, _] _) _ _; exact T_chain (by walk_at "E") (by walk_at "E") (by walk_at "C") (fun _ => by walk_at "E") (fun _ => by walk_at "C"))
  | (show EvT _ _ _ _ (.BoolOp _ _ _) _ _; exact T_bool (by walk_at "A")) | exact T_val (by walk_at "E") (by walk_at "R"))
local macro_rules | `(tactic| walk_at "A") => `(tactic| with_reducible first
  | exact A_and0 | exact A_or0 | (show EvA _ _ _ _ .And _ _ _; exact A_and (by walk_at "T") (fun _ => by walk_at "A")) | exact A_or (by walk_at "T") (fun _ => by walk_at "A"))
local macro_rules | `(tactic| walk_at "S1") => `(tactic| with_reducible first
  | refine S_pop ?_
  | (show Exs _ _ _ _ ((.Assign [.Name _ _] _ _ :: _) :: _) _; refine S_assign (by walk_at "E") (by walk_at "upd") ?_)
  | (show Exs _ _ _ _ ((.AugAssign _ _ _ _ :: _) :: _) _; refine S_aug (by walk_at "mem") (by walk_at "E") (by walk_at "I") (by walk_at "upd") ?_)
  | (show Exs _ _ _ _ ((.Assign [.Tuple _ _ _] _ _ :: _) :: _) _; refine S_unpack (by walk_at "E") (by walk_at "names") (by walk_at "upds") ?_))
local macro_rules | `(tactic| walk_at "S") => `(tactic| repeat walk_at "S1")
local macro_rules | `(tactic| walk_at "ret") => `(tactic| (with_reducible show Exs _ _ _ _ ((.Return _ _ :: _) :: _) _; with_reducible apply S_ret'; walk_at "E"))
local macro_rules | `(tactic| walk_at "weak") => `(tactic| with_reducible first | exact Weak.nil | (apply Weak.skip; walk_at "weak") | (apply Weak.same; walk_at "weak") | (apply Weak.keep; rotate_left; walk_at "weak"))
local macro_rules | `(tactic| walk_at "end") => `(tactic| ((repeat (with_reducible refine S_pop ?_)); with_reducible apply S_end'; walk_at "weak"))
local macro_rules | `(tactic| walk_at "weak") => `(tactic| with_reducible first | exact Weak.nil | (apply Weak.skip; walk_at "weak") | (apply Weak.same; walk_at "weak") | (apply Weak.keep; rotate_left; walk_at "weak"))
local macro_rules | `(tactic| walk_at "end") => `(tactic| ((repeat (with_reducible refine S_pop ?_)); with_reducible apply S_end'; walk_at "weak"))
local macro_rules | `(tactic| walk_at "M1") => `(tactic| with_reducible first | assumption)
local macro_rules | `(tactic| walk_at "M0") => `(tactic| with_reducible first | assumption)
local macro_rules | `(tactic| walk_at "C") => `(tactic| with_reducible first | assumption)
local macro_rules | `(tactic| walk_at "E") => `(tactic| with_reducible first
  | (show EvE _ _ _ _ (.Call (.Attribute _ _ _) [.Constant _ _ _, .Constant _ _ _] [] _) _ _; exact E_replace' (by walk_at "E") (by assumption) (by decide +kernel) (by walk_at "side"))
  | (show EvE _ _ _ _ (.Call (.Attribute _ _ _) [_] [] _) _ _; exact E_meth1 (by walk_at "E") (by walk_at "E") (by walk_at "M1"))
  | (show EvE _ _ _ _ (.NamedExpr (.Name _ _) _ _) _ _; exact E_named (by walk_at "E") (by walk_at "upd"))
  | (show EvE _ _ _ _ (.Subscript _ (.Constant (.int _) _ _) _) _ _; exact E_listitem (by walk_at "E") (by walk_at "E") (by decide) (by decide) (by with_unfolding_all exact rfl)))
local macro_rules | `(tactic| walk_at "S1") => `(tactic| with_reducible first
  | (show Exs _ _ _ _ ((.Assign [.Tuple [.Name _ _, .Name _ _] _ _] (.Tuple [_, _] _ _) _ :: _) :: _) _; refine S_swap2 (by walk_at "L") (by walk_at "upd") (by walk_at "upd") ?_)
  | (show Exs _ _ _ _ ((.Assign [.Tuple [.Name _ _, .Name _ _, .Name _ _] _ _] (.Tuple [_, _, _] _ _) _ :: _) :: _) _; refine S_swap3 (by walk_at "L") (by walk_at "upd") (by walk_at "upd") (by walk_at "upd") ?_)
  | (show Exs _ _ _ _ ((.Assign [.Tuple _ _ _] _ _ :: _) :: _) _; refine S_unpackL (by walk_at "E") (by walk_at "names") (by walk_at "upds") ?_))
local macro_rules | `(tactic| walk_at "B") => `(tactic| with_reducible first | assumption)
def keyOk (keys : List Str) (e : DictEntry) : Bool := match e.key with | .str x _ => keys.contains x | _ => false
theorem nsIn_none {K : Frag} {a : Addr} {c : Value} {d : Option Addr} {es : Array DictEntry} {nn : Nat} {sl : Array (Option Value)} {name : Str} {keys : List Str} (hl : K.lookup a = some ⟨c, d, .dict es nn, sl⟩)
    (hk : es.toList.all (keyOk keys) = true) (hn : name ∉ keys) : nsIn K a name = some none := by
  rw [List.all_eq_true] at hk
  unfold nsIn
  rw [hl]
  have h1 : es.toList.find? (·.key.isStr name) = none := by
    rw [List.find?_eq_none]
    intro e he
    have := hk e he
    unfold keyOk at this
    split at this
    · rename_i x t hx
      rw [hx]
      simp only [List.contains_iff_mem] at this
      intro hc
      have e1 : x = name := by simpa [Value.isStr] using hc
      exact hn (e1 ▸ this)
    · cases this
  have h2 : es.toList.any (·.refKey) = false := by
    rw [List.any_eq_false]
    intro e he
    have := hk e he
    unfold keyOk at this
    split at this
    · rename_i x t hx
      unfold DictEntry.refKey
      rw [hx]; simp
    · cases this
  simp only [h1, h2]
  rfl
def specials : List Str := ["inf", "+inf", "-inf", "nan", "oo", "+oo", "-oo"]
theorem specials_last : ∀ k ∈ specials, ∀ c, k.cps.toList.getLast? = some c → 57 < c := by
  have : specials.all (fun k => (k.cps.toList.getLast?).all (fun c => decide (57 < c))) = true := by decide +kernel
  intro k hk c hc
  rw [List.all_eq_true] at this
  have := this k hk
  rw [hc] at this
  simpa using this
theorem T_special {w : World} {n : Nat} {Γ : List Str} {ρ ρ₁ : PEnv} {l : Expr} {p p' : Pos} {X : List Nat} (hx : Str.ofString "special_str" ∈ Γ) (h2 : EvE w n Γ ρ l (.str (tx X)) ρ₁) (hc : ∃ c, X.getLast? = some c ∧ c ≤ 57) :
    EvT w n Γ ρ (.Compare l [.In] [.Name (Str.ofString "special_str") p] p') false ρ₁ := by
  refine C_indict (a := 247) hx (by kernel_rfl) (by rfl) ?_ (nsIn_none (keys := specials) (by rfl) (by kernel_rfl) ?_) rfl (by decide +kernel) h2
  · repeat (first | exact True.intro | refine And.intro ⟨_, _, rfl, rfl⟩ ?_)
  · intro hm
    obtain ⟨c, h1, h2⟩ := hc
    have := specials_last _ hm c (by rw [tx_cps]; exact h1)
    omega
end Mine
end

-- WbC
section
namespace Mine
open PySem.Builtin (bitAnd bitXor)
open PySem.Builtin.Int (intBits)
local macro_rules | `(tactic| walk_at "mem") => `(tactic| with_reducible (first | exact List.mem_cons_self | (refine List.mem_cons_of_mem _ ?_; walk_at "mem")))
local macro_rules | `(tactic| walk_at "upd") => `(tactic| with_reducible (first | exact Upd.head | (apply Upd.tail; walk_at "upd")))
local macro_rules | `(tactic| walk_at "upds") => `(tactic| first | exact Upds.nil | exact Upds.cons (by walk_at "upd") (by walk_at "upds"))
local macro_rules | `(tactic| walk_at "names") => `(tactic| first | exact Names.nil | exact Names.cons (by walk_at "names"))
local macro_rules | `(tactic| walk_at "side") => `(tactic| first | assumption | decide | omega)
local macro_rules | `(tactic| walk_at "B") => `(tactic| with_reducible first
  | exact B_add | exact B_sub | (show BinV .Mult _ _ _; exact B_mul (by walk_at "side")) | (show BinV .FloorDiv _ _ _; exact B_fdiv (by walk_at "side") (by walk_at "side")) | (show BinV .Mod _ _ _; exact B_mod (by walk_at "side"))
  | (show BinV .LShift _ _ _; exact B_shl (by walk_at "side") (by walk_at "side")) | (show BinV .RShift _ _ _; exact B_shr (by walk_at "side")) | (show BinV .Pow _ _ _; exact B_pow (by walk_at "side") (by walk_at "side"))
  | exact B_and | exact B_xor | (show BinV .Add (.str _) _ _; exact B_adds (by walk_at "side")))
local macro_rules | `(tactic| walk_at "I") => `(tactic| with_reducible first
  | exact I_add | exact I_sub | (show IBinV .LShift _ _ _; exact I_shl (by walk_at "side") (by walk_at "side")) | (show IBinV .RShift _ _ _; exact I_shr (by walk_at "side")) | exact I_xor | (show IBinV .Add (.str _) _ _; exact I_adds (by walk_at "side")))
local macro_rules | `(tactic| walk_at "C") => `(tactic| with_reducible first
  | exact C_eq | exact C_ne | exact C_lt | exact C_le | exact C_gt | exact C_ge | exact C_eqs | exact C_nes
  | (show CmpV .Eq (.tuple _) (.tuple _) _; exact C_eqd (by with_unfolding_all rfl) (by with_unfolding_all rfl) (by with_unfolding_all exact Nat.le_of_ble_eq_true rfl))
  | (show CmpV .NotEq (.tuple _) (.tuple _) _; exact C_ned (by with_unfolding_all rfl) (by with_unfolding_all rfl) (by with_unfolding_all exact Nat.le_of_ble_eq_true rfl)))
local macro_rules | `(tactic| walk_at "U") => `(tactic| with_reducible first | exact U_neg | (show UnV .Not _ _; exact U_not (by walk_at "R")))
local macro_rules | `(tactic| walk_at "R") => `(tactic| with_reducible first | exact R_int | exact R_bool | (show TruV (.str _) _; exact R_str (by walk_at "side")))
local macro_rules | `(tactic| walk_at "G") => `(tactic| with_reducible first
  | exact gl_fzero | exact gl_zero | exact gl_one | exact gl_near | exact gl_floor | exact gl_ceil | exact gl_up | exact gl_down | exact gl_fnan | exact gl_finf | exact gl_fninf | exact gl_blog | exact gl_digits)
local macro_rules | `(tactic| walk_at "L") => `(tactic| with_reducible first | exact L_nil | (show EvL _ _ _ _ (_ :: _) _ _; exact L_cons (by walk_at "E") (by walk_at "L")))
local macro_rules | `(tactic| walk_at "M0") => `(tactic| with_reducible first | exact M_bitlen | (show Meth0 _ (.str _) _; first | exact M_strip (by walk_at "side") | exact M_lower (by walk_at "side")))
local macro_rules | `(tactic| walk_at "K") => `(tactic| with_reducible first | assumption | exact K_int | exact K_abs | exact K_max | exact K_min | (show CallV (.builtin "len") _ _; exact K_len (by walk_at "side")) | (show CallV (.builtin "divmod") _ _; exact K_divmod (by walk_at "side") (by walk_at "side")))
local macro_rules | `(tactic| walk_at "Ebi") => `(tactic| with_reducible first
  | (show EvE _ _ _ _ (.Call (.Name (Str.ofString "int") _) _ _ _) _ _; exact E_bi bi_int (by walk_at "mem") rfl (by walk_at "L") (by walk_at "K"))
  | (show EvE _ _ _ _ (.Call (.Name (Str.ofString "len") _) _ _ _) _ _; exact E_bi bi_len (by walk_at "mem") rfl (by walk_at "L") (by walk_at "K"))
  | (show EvE _ _ _ _ (.Call (.Name (Str.ofString "abs") _) _ _ _) _ _; exact E_bi bi_abs (by walk_at "mem") rfl (by walk_at "L") (by walk_at "K"))
  | (show EvE _ _ _ _ (.Call (.Name (Str.ofString "max") _) _ _ _) _ _; exact E_bi bi_max (by walk_at "mem") rfl (by walk_at "L") (by walk_at "K"))
  | (show EvE _ _ _ _ (.Call (.Name (Str.ofString "min") _) _ _ _) _ _; exact E_bi bi_min (by walk_at "mem") rfl (by walk_at "L") (by walk_at "K"))
  | (show EvE _ _ _ _ (.Call (.Name (Str.ofString "divmod") _) _ _ _) _ _; exact E_bi bi_divmod (by walk_at "mem") rfl (by walk_at "L") (by walk_at "K"))
  | (show EvE _ _ _ _ (.Call (.Name (Str.ofString "str") _) _ _ _) _ _; exact E_bi bi_str (by walk_at "mem") rfl (by walk_at "L") (by walk_at "K"))
  | (show EvE _ _ _ _ (.Call (.Name (Str.ofString "pow") _) _ _ _) _ _; exact E_bi bi_pow (by walk_at "mem") rfl (by walk_at "L") (by walk_at "K"))
  | (show EvE _ _ _ _ (.Call (.Name (Str.ofString "isinstance") _) _ _ _) _ _; exact E_isint (by walk_at "mem") (by walk_at "mem") (by walk_at "E")))
local macro_rules | `(tactic| walk_at "E") => `(tactic| with_reducible first
  | assumption
  | (show EvE _ _ _ _ (.Name _ _) _ _; first | exact E_name (by walk_at "mem") | exact E_gl (by walk_at "mem") (by walk_at "G"))
  | exact E_int
  | (show EvE _ _ _ _ (.BinOp _ _ _ _) _ _; exact E_bin (by walk_at "E") (by walk_at "E") (by walk_at "B"))
  | exact E_str | exact E_bool | exact E_none
  | (show EvE _ _ _ _ (.UnaryOp _ _ _) _ _; exact E_un (by walk_at "E") (by walk_at "U"))
  | (show EvE _ _ _ _ (.Tuple _ _ _) _ _; exact E_tup (by walk_at "L"))
  | (show EvE _ _ _ _ (.Call (.Name _ _) _ _ _) _ _; first | walk_at "Ebi" | exact E_call (by walk_at "mem") (by walk_at "L") (by assumption))
  | (show EvE _ _ _ _ (.BoolOp .Or [_, _] _) _ _; exact E_orp (by walk_at "E") (by walk_at "side"))
  | (show EvE _ _ _ _ (.Call (.Attribute _ _ _) [] [] _) _ _; exact E_meth0 (by walk_at "E") (by walk_at "M0"))
  | (show EvE _ _ _ _ (.Compare _ [_] [_] _) _ _; exact E_cmp (by walk_at "E") (by walk_at "E") (by walk_at "C")))
local macro_rules | `(tactic| walk_at "T") => `(tactic| with_reducible first
  | assumption
  | (show EvT _ _ _ _ (.UnaryOp .Not _ _) _ _; exact T_not (by walk_at "T")) | (show EvT _ _ _ _ (.Compare _ [_] [_] _) _ _; exact T_cmp (by walk_at "E") (by walk_at "E") (by walk_at "C"))
  | (show EvT _ _ _ _ (.Compare _ [_, _] [_, _] _) _ _; exact T_chain (by walk_at "E") (by walk_at "E") (by walk_at "C") (fun _ => by walk_at "E") (fun _ => by walk_at "C"))
  | (show EvT _ _ _ _ (.BoolOp _ _ _) _ _; exact T_bool (by walk_at "A")) | exact T_val (by walk_at "E") (by walk_at "R"))
local macro_rules | `(tactic| walk_at "A") => `(tactic| with_reducible first
  | exact A_and0 | exact A_or0 | (show EvA _ _ _ _ .And _ _ _; exact A_and (by walk_at "T") (fun _ => by walk_at "A")) | exact A_or (by walk_at "T") (fun _ => by walk_at "A"))
local macro_rules | `(tactic| walk_at "S1") => `(tactic| with_reducible first
  | refine S_pop ?_
  | (show Exs _ _ _ _ ((.Assign [.Name _ _] _ _ :: _) :: _) _; refine S_assign (by walk_at "E") (by walk_at "upd") ?_)
  | (show Exs _ _ _ _ ((.AugAssign _ _ _ _ :: _) :: _) _; refine S_aug (by walk_at "mem") (by walk_at "E") (by walk_at "I") (by walk_at "upd") ?_)
  | (show Exs _ _ _ _ ((.Assign [.Tuple _ _ _] _ _ :: _) :: _) _; refine S_unpack (by walk_at "E") (by walk_at "names") (by walk_at "upds") ?_))
local macro_rules | `(tactic| walk_at "S") => `(tactic| repeat walk_at "S1")
local macro_rules | `(tactic| walk_at "ret") => `(tactic| (with_reducible show Exs _ _ _ _ ((.Return _ _ :: _) :: _) _; with_reducible apply S_ret'; walk_at "E"))
local macro_rules | `(tactic| walk_at "weak") => `(tactic| with_reducible first | exact Weak.nil | (apply Weak.skip; walk_at "weak") | (apply Weak.same; walk_at "weak") | (apply Weak.keep; rotate_left; walk_at "weak"))
local macro_rules | `(tactic| walk_at "end") => `(tactic| ((repeat (with_reducible refine S_pop ?_)); with_reducible apply S_end'; walk_at "weak"))
local macro_rules | `(tactic| walk_at "weak") => `(tactic| with_reducible first | exact Weak.nil | (apply Weak.skip; walk_at "weak") | (apply Weak.same; walk_at "weak") | (apply Weak.keep; rotate_left; walk_at "weak"))
local macro_rules | `(tactic| walk_at "end") => `(tactic| ((repeat (with_reducible refine S_pop ?_)); with_reducible apply S_end'; walk_at "weak"))
local macro_rules | `(tactic| walk_at "M1") => `(tactic| with_reducible first | assumption)
local macro_rules | `(tactic| walk_at "M0") => `(tactic| with_reducible first | assumption)
local macro_rules | `(tactic| walk_at "C") => `(tactic| with_reducible first | assumption)
local macro_rules | `(tactic| walk_at "E") => `(tactic| with_reducible first
  | (show EvE _ _ _ _ (.Call (.Attribute _ _ _) [.Constant _ _ _, .Constant _ _ _] [] _) _ _; exact E_replace' (by walk_at "E") (by assumption) (by decide +kernel) (by walk_at "side"))
  | (show EvE _ _ _ _ (.Call (.Attribute _ _ _) [_] [] _) _ _; exact E_meth1 (by walk_at "E") (by walk_at "E") (by walk_at "M1"))
  | (show EvE _ _ _ _ (.NamedExpr (.Name _ _) _ _) _ _; exact E_named (by walk_at "E") (by walk_at "upd"))
  | (show EvE _ _ _ _ (.Subscript _ (.Constant (.int _) _ _) _) _ _; exact E_listitem (by walk_at "E") (by walk_at "E") (by decide) (by decide) (by with_unfolding_all exact rfl)))
local macro_rules | `(tactic| walk_at "S1") => `(tactic| with_reducible first
  | (show Exs _ _ _ _ ((.Assign [.Tuple [.Name _ _, .Name _ _] _ _] (.Tuple [_, _] _ _) _ :: _) :: _) _; refine S_swap2 (by walk_at "L") (by walk_at "upd") (by walk_at "upd") ?_)
  | (show Exs _ _ _ _ ((.Assign [.Tuple [.Name _ _, .Name _ _, .Name _ _] _ _] (.Tuple [_, _, _] _ _) _ :: _) :: _) _; refine S_swap3 (by walk_at "L") (by walk_at "upd") (by walk_at "upd") (by walk_at "upd") ?_)
  | (show Exs _ _ _ _ ((.Assign [.Tuple _ _ _] _ _ :: _) :: _) _; refine S_unpackL (by walk_at "E") (by walk_at "names") (by walk_at "upds") ?_))
local macro_rules | `(tactic| walk_at "B") => `(tactic| with_reducible first | assumption)
def NumT.val (t : NumT) : Rat := (t.man : Rat) * (10 : Rat) ^ t.exp
theorem ten_nat (k : Nat) : ((10 ^ k : Int) : Rat) = (10 : Rat) ^ (k : Int) := by
  rw [Rat.zpow_natCast]; push_cast; rfl
theorem NumT.Ok.expb {t : NumT} (h : t.Ok) : -320 ≤ t.exp ∧ t.exp ≤ 20 := by
  have hl := h.len
  unfold NumT.text NumT.mant at hl
  unfold NumT.exp NumT.frac
  have e1 : ((t.E.map (fun x : List Nat × Int => x.2)).getD 0).natAbs ≤ 20 := by
    cases he : t.E with
    | none => decide
    | some p => obtain ⟨e, v⟩ := p; exact (h.e e v he).2.2.2.2.2
  have e2 : (rs 48 (t.B.getD [])).length ≤ 300 := by
    obtain ⟨k, e, _⟩ := rs_split 48 (t.B.getD [])
    have := congrArg List.length e
    simp at this
    cases hb : t.B with
    | none => rw [hb] at this; simp at this ⊢; omega
    | some b => rw [hb] at hl this; simp [pT] at hl this ⊢; omega
  generalize (t.E.map (fun x : List Nat × Int => x.2)).getD 0 = v at *
  omega
theorem NumT.Ok.manb {t : NumT} (h : t.Ok) : t.man.natAbs < 10 ^ 300 := by
  have hl := h.len
  unfold NumT.text NumT.mant at hl
  have hd : Dg (t.A ++ t.frac) := by
    refine h.a.app ?_
    unfold NumT.frac
    cases hb : t.B with
    | none => intro c hc; cases hc
    | some b => exact (h.b b hb).1.rs
  have h1 := dv_lt _ hd
  have h2 : (t.A ++ t.frac).length ≤ 300 := by
    unfold NumT.frac
    obtain ⟨k, e, _⟩ := rs_split 48 (t.B.getD [])
    have := congrArg List.length e
    cases hb : t.B with
    | none => rw [hb] at hl this; simp [pT] at hl this ⊢; omega
    | some b => rw [hb] at hl this; simp [pT] at hl this ⊢; omega
  have h3 : t.man.natAbs = dv (t.A ++ t.frac) := by unfold NumT.man sgi; split <;> simp
  rw [h3]
  exact Nat.lt_of_lt_of_le h1 (Nat.pow_le_pow_right (by decide) h2)
theorem bits_of {n : Int} {k : Nat} (h : n.natAbs < 2 ^ k) : intBits n ≤ k := bl_le.mpr h
theorem NumT.Ok.bits {t : NumT} (h : t.Ok) : intBits t.man ≤ 1000 := bits_of (Nat.lt_of_lt_of_le h.manb (by decide +kernel))

theorem c_no {X : List Nat} {y : Str} {c : Nat} (hy : y = tx [c]) (h : c ∉ X) : CmpV .In (.str y) (.str (tx X)) false := by
  have := C_in (x := tx X) (y := y)
  rw [hy, tx_has1, decide_eq_false h] at this
  rw [hy]; exact this
theorem c_yes {X : List Nat} {y : Str} {c : Nat} (hy : y = tx [c]) (h : c ∈ X) : CmpV .In (.str y) (.str (tx X)) true := by
  have := C_in (x := tx X) (y := y)
  rw [hy, tx_has1, decide_eq_true h] at this
  rw [hy]; exact this
theorem m_st {X : List Nat} (h : okt X) {ys : List Str} (hy : ∀ y ∈ ys, ∃ l c, y = tx l ∧ c ∈ l ∧ okc c = false) : Meth1 (Str.ofString "startswith") (.str (tx X)) (.tuple (ys.map .str)) (.bool false) := by
  refine M_starts fun y hm => ?_
  obtain ⟨l, c, rfl, hc, hb⟩ := hy y hm
  exact starts_false hc (h.free hb)
theorem st_b : ∀ y ∈ (["0b", "-0b", "0B", "-0B"] : List Str), ∃ l c, y = tx l ∧ c ∈ l ∧ okc c = false := by
  intro y hy
  simp only [List.mem_cons, List.not_mem_nil, or_false] at hy
  rcases hy with rfl | rfl | rfl | rfl
  · exact ⟨[48, 98], 98, by decide +kernel, by decide, by decide⟩
  · exact ⟨[45, 48, 98], 98, by decide +kernel, by decide, by decide⟩
  · exact ⟨[48, 66], 66, by decide +kernel, by decide, by decide⟩
  · exact ⟨[45, 48, 66], 66, by decide +kernel, by decide, by decide⟩
theorem st_x : ∀ y ∈ (["0x", "-0x", "0X", "-0X"] : List Str), ∃ l c, y = tx l ∧ c ∈ l ∧ okc c = false := by
  intro y hy
  simp only [List.mem_cons, List.not_mem_nil, or_false] at hy
  rcases hy with rfl | rfl | rfl | rfl
  · exact ⟨[48, 120], 120, by decide +kernel, by decide, by decide⟩
  · exact ⟨[45, 48, 120], 120, by decide +kernel, by decide, by decide⟩
  · exact ⟨[48, 88], 88, by decide +kernel, by decide, by decide⟩
  · exact ⟨[45, 48, 88], 88, by decide +kernel, by decide, by decide⟩
theorem st_o : ∀ y ∈ (["0o", "-0o"] : List Str), ∃ l c, y = tx l ∧ c ∈ l ∧ okc c = false := by
  intro y hy
  simp only [List.mem_cons, List.not_mem_nil, or_false] at hy
  rcases hy with rfl | rfl
  · exact ⟨[48, 111], 111, by decide +kernel, by decide, by decide⟩
  · exact ⟨[45, 48, 111], 111, by decide +kernel, by decide, by decide⟩

set_option maxHeartbeats 4000000 in
theorem sp_fromstr {w : World} {t : NumT} (ht : t.Ok) {p : Nat} (hp : 1 ≤ p) (hps : p ≤ 8000) (c : Bool) : FnSpec w 7 "from_str" [.str (tx t.text), .int p, .str (rS c)] (pvX p c t.val) := by
  have hlen := ht.len
  have h1 := m_lower ht.okt (by omega)
  have h2 := m_strip ht.okt (by omega)
  have s1 := m_st ht.okt st_b
  have s2 := m_st ht.okt st_x
  have s3 := m_st ht.okt st_o
  simp only [List.map_cons, List.map_nil] at s1 s2 s3
  have c1 := c_no ofs_sl ht.no_slash
  have F := sp_manexp (w := w) ht
  have hl : ∃ c, t.text.getLast? = some c ∧ c ≤ 57 := by obtain ⟨c, a, b⟩ := ht.last; exact ⟨c, a, b.2⟩
  have he := ht.expb
  refine fn_intro (Γ := ["special_str", "from_rational", "str_to_man_exp", "abs", "from_int", "mpf_mul", "mpf_pow_int", "ften", "from_man_exp", "pow", "int"]) 255 (by kernel_rfl) (by rfl) (by kernel_rfl) ["x", "prec", "rnd", "base"] ["p", "q", "man", "exp", "s", "e2"] [.str (tx t.text), .int p, .str (rS c), .int 0] (by decide +kernel) rfl ?_ ?_
  · intro s vs ks H ra rk
    obtain ⟨v1, r1, rfl, q1, ra⟩ := ra.uncons
    obtain ⟨v2, r2, rfl, q2, ra⟩ := ra.uncons
    obtain ⟨v3, r3, rfl, q3, ra⟩ := ra.uncons
    obtain rfl := ra.unnil
    obtain rfl := rk.unnil
    exact ⟨[v1, v2, v3, .int 0 _], binds_K (K := KK w) H.K rfl (by rfl) rfl rfl rfl, .cons q1 (.cons q2 (.cons q3 (.cons rep_int .nil)))⟩
  intro ρ hρ; simp only [envZip_cons, envZip_nil, envZip_nil'] at hρ; subst hρ
  walk_at "S"
  refine S_if (T_special (by walk_at "mem") (by walk_at "E") hl) (fun h => by cases h) (fun _ => ?_)
  walk_at "S"
  refine S_if (by walk_at "T") (fun _ => ?_) (fun h => absurd h (by decide))
  refine S_if (by walk_at "T") (fun h => by cases h) (fun _ => ?_)
  refine S_if (by walk_at "T") (fun h => by cases h) (fun _ => ?_)
  refine S_if (by walk_at "T") (fun h => by cases h) (fun _ => ?_)
  walk_at "S"
  refine S_if (by walk_at "T") (fun h => by cases h) (fun _ => ?_)
  walk_at "S"
  refine S_if (by walk_at "T") (fun _ => ?_) (fun h => absurd h (by decide))
  refine S_if (T_eq (b₂ := false) (by walk_at "T") (by refine decide_eq_false ?_; split <;> omega)) (fun h => by cases h) (fun _ => ?_)
  have hb10 : (intBits 10 : Int) = 4 := bits10
  by_cases hexp : 0 ≤ t.exp
  · have hq : (intBits 10 : Int) * t.exp ≤ 2 ^ 27 := by rw [hb10]; omega
    have hm : IntMulOk t.man (10 ^ t.exp.toNat) := by
      refine .of_bits (Nat.le_trans ht.bits (by decide)) (Nat.le_trans (bits_of (k := 100) ?_) (by decide))
      have : (10 ^ t.exp.toNat : Int).natAbs = 10 ^ t.exp.toNat := by rw [Int.natAbs_pow]; rfl
      rw [this]
      exact Nat.lt_of_le_of_lt (Nat.pow_le_pow_right (by decide) (show t.exp.toNat ≤ 20 by omega)) (by decide +kernel)
    have F2 := sp_intP (w := w) (n := t.man * 10 ^ t.exp.toNat) hp c
    refine S_if (by walk_at "T") (fun _ => ?_) (fun h => absurd (of_decide_eq_false h) (by omega))
    walk_at "S"
    walk_at "ret"
    rw [pvR_eq hp]
    unfold NumT.val val
    rw [Rat.zpow_zero, Rat.mul_one, Rat.intCast_mul, ten_nat, Int.toNat_of_nonneg hexp]
  · have hq : (intBits 10 : Int) * -t.exp ≤ 2 ^ 27 := by rw [hb10]; omega
    have hq0 : 0 ≤ -t.exp := by omega
    have F2 := sp_rat (w := w) (n := t.man) (d := 10 ^ (-t.exp).toNat) hp c (by exact Int.pow_ne_zero (by decide)) (by have := ht.bits; omega) (by
      refine bits_of ?_
      have : (10 ^ (-t.exp).toNat : Int).natAbs = 10 ^ (-t.exp).toNat := by rw [Int.natAbs_pow]; rfl
      rw [this]
      exact Nat.lt_of_le_of_lt (Nat.pow_le_pow_right (by decide) (show (-t.exp).toNat ≤ 320 by omega)) (by decide +kernel)) hps
    refine S_if (by walk_at "T") (fun h => absurd (of_decide_eq_true h) (by omega)) (fun _ => ?_)
    walk_at "S"
    walk_at "ret"
    unfold NumT.val
    rw [ten_nat, Int.toNat_of_nonneg hq0, Rat.zpow_neg, Rat.div_def, Rat.inv_inv]
end Mine
end

-- WbD
section
namespace Mine
open PySem.Builtin (bitAnd bitXor)
open PySem.Builtin.Int (intBits)
local macro_rules | `(tactic| walk_at "mem") => `(tactic| with_reducible (first | exact List.mem_cons_self | (refine List.mem_cons_of_mem _ ?_; walk_at "mem")))
local macro_rules | `(tactic| walk_at "upd") => `(tactic| with_reducible (first | exact Upd.head | (apply Upd.tail; walk_at "upd")))
local macro_rules | `(tactic| walk_at "upds") => `(tactic| first | exact Upds.nil | exact Upds.cons (by walk_at "upd") (by walk_at "upds"))
local macro_rules | `(tactic| walk_at "names") => `(tactic| first | exact Names.nil | exact Names.cons (by walk_at "names"))
local macro_rules | `(tactic| walk_at "side") => `(tactic| first | assumption | decide | omega)
local macro_rules | `(tactic| walk_at "B") => `(tactic| with_reducible first
  | exact B_add | exact B_sub | (show BinV .Mult _ _ _; exact B_mul (by walk_at "side")) | (show BinV .FloorDiv _ _ _; exact B_fdiv (by walk_at "side") (by walk_at "side")) | (show BinV .Mod _ _ _; exact B_mod (by walk_at "side"))
  | (show BinV .LShift _ _ _; exact B_shl (by walk_at "side") (by walk_at "side")) | (show BinV .RShift _ _ _; exact B_shr (by walk_at "side")) | (show BinV .Pow _ _ _; exact B_pow (by walk_at "side") (by walk_at "side"))
  | exact B_and | exact B_xor | (show BinV .Add (.str _) _ _; exact B_adds (by walk_at "side")))
local macro_rules | `(tactic| walk_at "I") => `(tactic| with_reducible first
  | exact I_add | exact I_sub | (show IBinV .LShift _ _ _; exact I_shl (by walk_at "side") (by walk_at "side")) | (show IBinV .RShift _ _ _; exact I_shr (by walk_at "side")) | exact I_xor | (show IBinV .Add (.str _) _ _; exact I_adds (by walk_at "side")))
local macro_rules | `(tactic| walk_at "C") => `(tactic| with_reducible first
  | exact C_eq | exact C_ne | exact C_lt | exact C_le | exact C_gt | exact C_ge | exact C_eqs | exact C_nes
  | (show CmpV .Eq (.tuple _) (.tuple _) _; exact C_eqd (by with_unfolding_all rfl) (by with_unfolding_all rfl) (by with_unfolding_all exact Nat.le_of_ble_eq_true rfl))
  | (show CmpV .NotEq (.tuple _) (.tuple _) _; exact C_ned (by with_unfolding_all rfl) (by with_unfolding_all rfl) (by with_unfolding_all exact Nat.le_of_ble_eq_true rfl)))
local macro_rules | `(tactic| walk_at "U") => `(tactic| with_reducible first | exact U_neg | (show UnV .Not _ _; exact U_not (by walk_at "R")))
local macro_rules | `(tactic| walk_at "R") => `(tactic| with_reducible first | exact R_int | exact R_bool | (show TruV (.str _) _; exact R_str (by walk_at "side")))
local macro_rules | `(tactic| walk_at "G") => `(tactic| with_reducible first
  | exact gl_fzero | exact gl_zero | exact gl_one | exact gl_near | exact gl_floor | exact gl_ceil | exact gl_up | exact gl_down | exact gl_fnan | exact gl_finf | exact gl_fninf | exact gl_blog | exact gl_digits)
local macro_rules | `(tactic| walk_at "L") => `(tactic| with_reducible first | exact L_nil | (show EvL _ _ _ _ (_ :: _) _ _; exact L_cons (by walk_at "E") (by walk_at "L")))
local macro_rules | `(tactic| walk_at "M0") => `(tactic| with_reducible first | exact M_bitlen | (show Meth0 _ (.str _) _; first | exact M_strip (by walk_at "side") | exact M_lower (by walk_at "side")))
local macro_rules | `(tactic| walk_at "K") => `(tactic| with_reducible first | assumption | exact K_int | exact K_abs | exact K_max | exact K_min | (show CallV (.builtin "len") _ _; exact K_len (by walk_at "side")) | (show CallV (.builtin "divmod") _ _; exact K_divmod (by walk_at "side") (by walk_at "side")))
local macro_rules | `(tactic| walk_at "Ebi") => `(tactic| with_reducible first
  | (show EvE _ _ _ _ (.Call (.Name (Str.ofString "int") _) _ _ _) _ _; exact E_bi bi_int (by walk_at "mem") rfl (by walk_at "L") (by walk_at "K"))
  | (show EvE _ _ _ _ (.Call (.Name (Str.ofString "len") _) _ _ _) _ _; exact E_bi bi_len (by walk_at "mem") rfl (by walk_at "L") (by walk_at "K"))
  | (show EvE _ _ _ _ (.Call (.Name (Str.ofString "abs") _) _ _ _) _ _; exact E_bi bi_abs (by walk_at "mem") rfl (by walk_at "L") (by walk_at "K"))
  | (show EvE _ _ _ _ (.Call (.Name (Str.ofString "max") _) _ _ _) _ _; exact E_bi bi_max (by walk_at "mem") rfl (by walk_at "L") (by walk_at "K"))
  | (show EvE _ _ _ _ (.Call (.Name (Str.ofString "min") _) _ _ _) _ _; exact E_bi bi_min (by walk_at "mem") rfl (by walk_at "L") (by walk_at "K"))
  | (show EvE _ _ _ _ (.Call (.Name (Str.ofString "divmod") _) _ _ _) _ _; exact E_bi bi_divmod (by walk_at "mem") rfl (by walk_at "L") (by walk_at "K"))
  | (show EvE _ _ _ _ (.Call (.Name (Str.ofString "str") _) _ _ _) _ _; exact E_bi bi_str (by walk_at "mem") rfl (by walk_at "L") (by walk_at "K"))
  | (show EvE _ _ _ _ (.Call (.Name (Str.ofString "pow") _) _ _ _) _ _; exact E_bi bi_pow (by walk_at "mem") rfl (by walk_at "L") (by walk_at "K"))
  | (show EvE _ _ _ _ (.Call (.Name (Str.ofString "isinstance") _) _ _ _) _ _; exact E_isint (by walk_at "mem") (by walk_at "mem") (by walk_at "E")))
local macro_rules | `(tactic| walk_at "E") => `(tactic| with_reducible first
  | assumption
  | (show EvE _ _ _ _ (.Name _ _) _ _; first | exact E_name (by walk_at "mem") | exact E_gl (by walk_at "mem") (by walk_at "G"))
  | exact E_int
  | (show EvE _ _ _ _ (.BinOp _ _ _ _) _ _; exact E_bin (by walk_at "E") (by walk_at "E") (by walk_at "B"))
  | exact E_str | exact E_bool | exact E_none
  | (show EvE _ _ _ _ (.UnaryOp _ _ _) _ _; exact E_un (by walk_at "E") (by walk_at "U"))
  | (show EvE _ _ _ _ (.Tuple _ _ _) _ _; exact E_tup (by walk_at "L"))
  | (show EvE _ _ _ _ (.Call (.Name _ _) _ _ _) _ _; first | walk_at "Ebi" | exact E_call (by walk_at "mem") (by walk_at "L") (by assumption))
  | (show EvE _ _ _ _ (.BoolOp .Or [_, _] _) _ _; exact E_orp (by walk_at "E") (by walk_at "side"))
  | (show EvE _ _ _ _ (.Call (.Attribute _ _ _) [] [] _) _ _; exact E_meth0 (by walk_at "E") (by walk_at "M0"))
  | (show EvE _ _ _ _ (.Compare _ [_] [_] _) _ _; exact E_cmp (by walk_at "E") (by walk_at "E") (by walk_at "C")))
local macro_rules | `(tactic| walk_at "T") => `(tactic| with_reducible first
  | assumption
  | (show EvT _ _ _ _ (.UnaryOp .Not _ _) _ _; exact T_not (by walk_at "T")) | (show EvT _ _ _ _ (.Compare _ [_] [_] _) _ _; exact T_cmp (by walk_at "E") (by walk_at "E") (by walk_at "C"))
  | (show EvT _ _ _ _ (.Compare _ [_, _] [_, _] _) _ _; exact T_chain (by walk_at "E") (by walk_at "E") (by walk_at "C") (fun _ => by walk_at "E") (fun _ => by walk_at "C"))
  | (show EvT _ _ _ _ (.BoolOp _ _ _) _ _; exact T_bool (by walk_at "A")) | exact T_val (by walk_at "E") (by walk_at "R"))
local macro_rules | `(tactic| walk_at "A") => `(tactic| with_reducible first
  | exact A_and0 | exact A_or0 | (show EvA _ _ _ _ .And _ _ _; exact A_and (by walk_at "T") (fun _ => by walk_at "A")) | exact A_or (by walk_at "T") (fun _ => by walk_at "A"))
local macro_rules | `(tactic| walk_at "S1") => `(tactic| with_reducible first
  | refine S_pop ?_
  | (show Exs _ _ _ _ ((.Assign [.Name _ _] _ _ :: _) :: _) _; refine S_assign (by walk_at "E") (by walk_at "upd") ?_)
  | (show Exs _ _ _ _ ((.AugAssign _ _ _ _ :: _) :: _) _; refine S_aug (by walk_at "mem") (by walk_at "E") (by walk_at "I") (by walk_at "upd") ?_)
  | (show Exs _ _ _ _ ((.Assign [.Tuple _ _ _] _ _ :: _) :: _) _; refine S_unpack (by walk_at "E") (by walk_at "names") (by walk_at "upds") ?_))
local macro_rules | `(tactic| walk_at "S") => `(tactic| repeat walk_at "S1")
local macro_rules | `(tactic| walk_at "ret") => `(tactic| (with_reducible show Exs _ _ _ _ ((.Return _ _ :: _) :: _) _; with_reducible apply S_ret'; walk_at "E"))
local macro_rules | `(tactic| walk_at "weak") => `(tactic| with_reducible first | exact Weak.nil | (apply Weak.skip; walk_at "weak") | (apply Weak.same; walk_at "weak") | (apply Weak.keep; rotate_left; walk_at "weak"))
local macro_rules | `(tactic| walk_at "end") => `(tactic| ((repeat (with_reducible refine S_pop ?_)); with_reducible apply S_end'; walk_at "weak"))
local macro_rules | `(tactic| walk_at "weak") => `(tactic| with_reducible first | exact Weak.nil | (apply Weak.skip; walk_at "weak") | (apply Weak.same; walk_at "weak") | (apply Weak.keep; rotate_left; walk_at "weak"))
local macro_rules | `(tactic| walk_at "end") => `(tactic| ((repeat (with_reducible refine S_pop ?_)); with_reducible apply S_end'; walk_at "weak"))
local macro_rules | `(tactic| walk_at "M1") => `(tactic| with_reducible first | assumption)
local macro_rules | `(tactic| walk_at "M0") => `(tactic| with_reducible first | assumption)
local macro_rules | `(tactic| walk_at "C") => `(tactic| with_reducible first | assumption)
local macro_rules | `(tactic| walk_at "E") => `(tactic| with_reducible first
  | (show EvE _ _ _ _ (.Call (.Attribute _ _ _) [.Constant _ _ _, .Constant _ _ _] [] _) _ _; exact E_replace' (by walk_at "E") (by assumption) (by decide +kernel) (by walk_at "side"))
  | (show EvE _ _ _ _ (.Call (.Attribute _ _ _) [_] [] _) _ _; exact E_meth1 (by walk_at "E") (by walk_at "E") (by walk_at "M1"))
  | (show EvE _ _ _ _ (.NamedExpr (.Name _ _) _ _) _ _; exact E_named (by walk_at "E") (by walk_at "upd"))
  | (show EvE _ _ _ _ (.Subscript _ (.Constant (.int _) _ _) _) _ _; exact E_listitem (by walk_at "E") (by walk_at "E") (by decide) (by decide) (by with_unfolding_all exact rfl)))
local macro_rules | `(tactic| walk_at "S1") => `(tactic| with_reducible first
  | (show Exs _ _ _ _ ((.Assign [.Tuple [.Name _ _, .Name _ _] _ _] (.Tuple [_, _] _ _) _ :: _) :: _) _; refine S_swap2 (by walk_at "L") (by walk_at "upd") (by walk_at "upd") ?_)
  | (show Exs _ _ _ _ ((.Assign [.Tuple [.Name _ _, .Name _ _, .Name _ _] _ _] (.Tuple [_, _, _] _ _) _ :: _) :: _) _; refine S_swap3 (by walk_at "L") (by walk_at "upd") (by walk_at "upd") (by walk_at "upd") ?_)
  | (show Exs _ _ _ _ ((.Assign [.Tuple _ _ _] _ _ :: _) :: _) _; refine S_unpackL (by walk_at "E") (by walk_at "names") (by walk_at "upds") ?_))
local macro_rules | `(tactic| walk_at "B") => `(tactic| with_reducible first | assumption)
theorem itx_ok (n : Int) : okt (itx n) := by rw [itx_eq]; exact okt.app (okt_sgt _) (okt_dg (ntx_dg _))
theorem itx_no (n : Int) {c : Nat} (h : c ≠ 45) (h2 : c < 48 ∨ 57 < c) : c ∉ itx n := by
  rw [itx_eq]
  intro hm
  rcases List.mem_append.mp hm with hm | hm
  · exact sgt_free h hm
  · exact dg_free (ntx_dg _) h2 hm
theorem itx_len {n : Int} {k : Nat} (hk : 1 ≤ k) (h : n.natAbs < 10 ^ k) : (itx n).length ≤ k + 1 := by
  rw [itx_eq, List.length_append]
  have := ntx_len hk h
  have : (sgt (decide (n < 0))).length ≤ 1 := by unfold sgt; split <;> simp
  omega
theorem int_itx {n : Int} (h : (itx n).length ≤ 600) : PySem.intText? (tx (itx n)) = some n := by
  have := int_sgt (neg := decide (n < 0)) (A := ntx n.natAbs) (ntx_dg _) (ntx_ne _) (by rw [itx_eq] at h; simp at h; omega)
  rw [ntx_val, sgi_self] at this
  rw [itx_eq]; exact this
theorem itx_nat (k : Nat) : itx (k : Int) = ntx k := by unfold itx; rw [if_neg (by omega)]; rfl

set_option maxHeartbeats 4000000 in
theorem sp_fromfrac {w : World} {n d : Int} {p : Nat} (hn : n.natAbs < 10 ^ 20) (hd : 0 < d) (hd2 : d < 10 ^ 20) (hp : 1 ≤ p) (hps : p ≤ 8000) (c : Bool) :
    FnSpec w 7 "from_str" [.str (tx (itx n ++ 47 :: itx d)), .int p, .str (rS c)] (pvX p c ((n : Rat) / (d : Rat))) := by
  have l1 := itx_len (n := n) (k := 20) (by decide) hn
  have l2 := itx_len (n := d) (k := 20) (by decide) (by omega)
  have hok : okt (itx n ++ 47 :: itx d) := okt.app (itx_ok n) (okt.cons (by decide) (itx_ok d))
  have hlen : (itx n ++ 47 :: itx d).length ≤ 300 := by simp; omega
  have h1 := m_lower hok (by omega)
  have h2 := m_strip hok (by omega)
  have s1 := m_st hok st_b
  have s2 := m_st hok st_x
  have s3 := m_st hok st_o
  simp only [List.map_cons, List.map_nil] at s1 s2 s3
  have c1 := c_yes (X := itx n ++ 47 :: itx d) ofs_sl (by simp)
  have m1 := m_split2 (a := itx n) (b := itx d) ofs_sl (itx_no n (by decide) (by decide)) (itx_no d (by decide) (by decide)) (by omega)
  have m2 := m_rstrip_l (itx_ok n) (by omega)
  have m3 := m_rstrip_l (itx_ok d) (by omega)
  have k1 := K_intb (int_itx (n := n) (by omega)) (by rw [tx_len]; omega)
  have k2 := K_intb (int_itx (n := d) (by omega)) (by rw [tx_len]; omega)
  have hl : ∃ c, (itx n ++ 47 :: itx d).getLast? = some c ∧ c ≤ 57 := by
    obtain ⟨c, a, b⟩ := dg_last (ntx_dg d.natAbs) (ntx_ne _)
    refine ⟨c, last_app (last_cons ?_), b.2⟩
    rw [itx_eq]; exact last_app a
  have F2 := sp_rat (w := w) (n := n) (d := d) hp c (by omega) (Nat.le_trans (bits_of (k := 100) (Nat.lt_of_lt_of_le hn (by decide +kernel))) (by decide)) (Nat.le_trans (bits_of (k := 100) (Nat.lt_of_lt_of_le (show d.natAbs < 10 ^ 20 by omega) (by decide +kernel))) (by decide)) hps
  refine fn_intro (Γ := ["special_str", "from_rational", "str_to_man_exp", "abs", "from_int", "mpf_mul", "mpf_pow_int", "ften", "from_man_exp", "pow", "int"]) 255 (by kernel_rfl) (by rfl) (by kernel_rfl) ["x", "prec", "rnd", "base"] ["p", "q", "man", "exp", "s", "e2"] [.str (tx (itx n ++ 47 :: itx d)), .int p, .str (rS c), .int 0] (by decide +kernel) rfl ?_ ?_
  · intro s vs ks H ra rk
    obtain ⟨v1, r1, rfl, q1, ra⟩ := ra.uncons
    obtain ⟨v2, r2, rfl, q2, ra⟩ := ra.uncons
    obtain ⟨v3, r3, rfl, q3, ra⟩ := ra.uncons
    obtain rfl := ra.unnil
    obtain rfl := rk.unnil
    exact ⟨[v1, v2, v3, .int 0 _], binds_K (K := KK w) H.K rfl (by rfl) rfl rfl rfl, .cons q1 (.cons q2 (.cons q3 (.cons rep_int .nil)))⟩
  intro ρ hρ; simp only [envZip_cons, envZip_nil, envZip_nil'] at hρ; subst hρ
  walk_at "S"
  refine S_if (T_special (by walk_at "mem") (by walk_at "E") hl) (fun h => by cases h) (fun _ => ?_)
  walk_at "S"
  refine S_if (by walk_at "T") (fun _ => ?_) (fun h => absurd h (by decide))
  refine S_if (by walk_at "T") (fun h => by cases h) (fun _ => ?_)
  refine S_if (by walk_at "T") (fun h => by cases h) (fun _ => ?_)
  refine S_if (by walk_at "T") (fun h => by cases h) (fun _ => ?_)
  walk_at "S"
  refine S_if (by walk_at "T") (fun _ => ?_) (fun h => by cases h)
  walk_at "S"
  walk_at "ret"
  rfl
end Mine
end

-- WbE
section
namespace Mine
open PySem.Builtin (bitAnd bitXor)
open PySem.Builtin.Int (intBits)
local macro_rules | `(tactic| walk_at "mem") => `(tactic| with_reducible (first | exact List.mem_cons_self | (refine List.mem_cons_of_mem _ ?_; walk_at "mem")))
local macro_rules | `(tactic| walk_at "upd") => `(tactic| with_reducible (first | exact Upd.head | (apply Upd.tail; walk_at "upd")))
local macro_rules | `(tactic| walk_at "upds") => `(tactic| first | exact Upds.nil | exact Upds.cons (by walk_at "upd") (by walk_at "upds"))
local macro_rules | `(tactic| walk_at "names") => `(tactic| first | exact Names.nil | exact Names.cons (by walk_at "names"))
local macro_rules | `(tactic| walk_at "side") => `(tactic| first | assumption | decide | omega)
local macro_rules | `(tactic| walk_at "B") => `(tactic| with_reducible first
  | exact B_add | exact B_sub | (show BinV .Mult _ _ _; exact B_mul (by walk_at "side")) | (show BinV .FloorDiv _ _ _; exact B_fdiv (by walk_at "side") (by walk_at "side")) | (show BinV .Mod _ _ _; exact B_mod (by walk_at "side"))
  | (show BinV .LShift _ _ _; exact B_shl (by walk_at "side") (by walk_at "side")) | (show BinV .RShift _ _ _; exact B_shr (by walk_at "side")) | (show BinV .Pow _ _ _; exact B_pow (by walk_at "side") (by walk_at "side"))
  | exact B_and | exact B_xor | (show BinV .Add (.str _) _ _; exact B_adds (by walk_at "side")))
local macro_rules | `(tactic| walk_at "I") => `(tactic| with_reducible first
  | exact I_add | exact I_sub | (show IBinV .LShift _ _ _; exact I_shl (by walk_at "side") (by walk_at "side")) | (show IBinV .RShift _ _ _; exact I_shr (by walk_at "side")) | exact I_xor | (show IBinV .Add (.str _) _ _; exact I_adds (by walk_at "side")))
local macro_rules | `(tactic| walk_at "C") => `(tactic| with_reducible first
  | exact C_eq | exact C_ne | exact C_lt | exact C_le | exact C_gt | exact C_ge | exact C_eqs | exact C_nes
  | (show CmpV .Eq (.tuple _) (.tuple _) _; exact C_eqd (by with_unfolding_all rfl) (by with_unfolding_all rfl) (by with_unfolding_all exact Nat.le_of_ble_eq_true rfl))
  | (show CmpV .NotEq (.tuple _) (.tuple _) _; exact C_ned (by with_unfolding_all rfl) (by with_unfolding_all rfl) (by with_unfolding_all exact Nat.le_of_ble_eq_true rfl)))
local macro_rules | `(tactic| walk_at "U") => `(tactic| with_reducible first | exact U_neg | (show UnV .Not _ _; exact U_not (by walk_at "R")))
local macro_rules | `(tactic| walk_at "R") => `(tactic| with_reducible first | exact R_int | exact R_bool | (show TruV (.str _) _; exact R_str (by walk_at "side")))
local macro_rules | `(tactic| walk_at "G") => `(tactic| with_reducible first
  | exact gl_fzero | exact gl_zero | exact gl_one | exact gl_near | exact gl_floor | exact gl_ceil | exact gl_up | exact gl_down | exact gl_fnan | exact gl_finf | exact gl_fninf | exact gl_blog | exact gl_digits)
local macro_rules | `(tactic| walk_at "L") => `(tactic| with_reducible first | exact L_nil | (show EvL _ _ _ _ (_ :: _) _ _; exact L_cons (by walk_at "E") (by walk_at "L")))
local macro_rules | `(tactic| walk_at "M0") => `(tactic| with_reducible first | exact M_bitlen | (show Meth0 _ (.str _) _; first | exact M_strip (by walk_at "side") | exact M_lower (by walk_at "side")))
local macro_rules | `(tactic| walk_at "K") => `(tactic| with_reducible first | assumption | exact K_int | exact K_abs | exact K_max | exact K_min | (show CallV (.builtin "len") _ _; exact K_len (by walk_at "side")) | (show CallV (.builtin "divmod") _ _; exact K_divmod (by walk_at "side") (by walk_at "side")))
local macro_rules | `(tactic| walk_at "Ebi") => `(tactic| with_reducible first
  | (show EvE _ _ _ _ (.Call (.Name (Str.ofString "int") _) _ _ _) _ _; exact E_bi bi_int (by walk_at "mem") rfl (by walk_at "L") (by walk_at "K"))
  | (show EvE _ _ _ _ (.Call (.Name (Str.ofString "len") _) _ _ _) _ _; exact E_bi bi_len (by walk_at "mem") rfl (by walk_at "L") (by walk_at "K"))
  | (show EvE _ _ _ _ (.Call (.Name (Str.ofString "abs") _) _ _ _) _ _; exact E_bi bi_abs (by walk_at "mem") rfl (by walk_at "L") (by walk_at "K"))
  | (show EvE _ _ _ _ (.Call (.Name (Str.ofString "max") _) _ _ _) _ _; exact E_bi bi_max (by walk_at "mem") rfl (by walk_at "L") (by walk_at "K"))
  | (show EvE _ _ _ _ (.Call (.Name (Str.ofString "min") _) _ _ _) _ _; exact E_bi bi_min (by walk_at "mem") rfl (by walk_at "L") (by walk_at "K"))
  | (show EvE _ _ _ _ (.Call (.Name (Str.ofString "divmod") _) _ _ _) _ _; exact E_bi bi_divmod (by walk_at "mem") rfl (by walk_at "L") (by walk_at "K"))
  | (show EvE _ _ _ _ (.Call (.Name (Str.ofString "str") _) _ _ _) _ _; exact E_bi bi_str (by walk_at "mem") rfl (by walk_at "L") (by walk_at "K"))
  | (show EvE _ _ _ _ (.Call (.Name (Str.ofString "pow") _) _ _ _) _ _; exact E_bi bi_pow (by walk_at "mem") rfl (by walk_at "L") (by walk_at "K"))
  | (show EvE _ _ _ _ (.Call (.Name (Str.ofString "isinstance") _) _ _ _) _ _; exact E_isint (by walk_at "mem") (by walk_at "mem") (by walk_at "E")))
local macro_rules | `(tactic| walk_at "E") => `(tactic| with_reducible first
  | assumption
  | (show EvE _ _ _ _ (.Name _ _) _ _; first | exact E_name (by walk_at "mem") | exact E_gl (by walk_at "mem") (by walk_at "G"))
  | exact E_int
  | (show EvE _ _ _ _ (.BinOp _ _ _ _) _ _; exact E_bin (by walk_at "E") (by walk_at "E") (by walk_at "B"))
  | exact E_str | exact E_bool | exact E_none
  | (show EvE _ _ _ _ (.UnaryOp _ _ _) _ _; exact E_un (by walk_at "E") (by walk_at "U"))
  | (show EvE _ _ _ _ (.Tuple _ _ _) _ _; exact E_tup (by walk_at "L"))
  | (show EvE _ _ _ _ (.Call (.Name _ _) _ _ _) _ _; first | walk_at "Ebi" | exact E_call (by walk_at "mem") (by walk_at "L") (by assumption))
  | (show EvE _ _ _ _ (.BoolOp .Or [_, _] _) _ _; exact E_orp (by walk_at "E") (by walk_at "side"))
  | (show EvE _ _ _ _ (.Call (.Attribute _ _ _) [] [] _) _ _; exact E_meth0 (by walk_at "E") (by walk_at "M0"))
  | (show EvE _ _ _ _ (.Compare _ [_] [_] _) _ _; exact E_cmp (by walk_at "E") (by walk_at "E") (by walk_at "C")))
local macro_rules | `(tactic| walk_at "T") => `(tactic| with_reducible first
  | assumption
  | (show EvT _ _ _ _ (.UnaryOp .Not _ _) _ _; exact T_not (by walk_at "T")) | (show EvT _ _ _ _ (.Compare _ [_] [_] _) _ _; exact T_cmp (by walk_at "E") (by walk_at "E") (by walk_at "C"))
  | (show EvT _ _ _ _ (.Compare _ [_, _] [_, _] _) _ _; exact T_chain (by walk_at "E") (by walk_at "E") (by walk_at "C") (fun _ => by walk_at "E") (fun _ => by walk_at "C"))
  | (show EvT _ _ _ _ (.BoolOp _ _ _) _ _; exact T_bool (by walk_at "A")) | exact T_val (by walk_at "E") (by walk_at "R"))
local macro_rules | `(tactic| walk_at "A") => `(tactic| with_reducible first
  | exact A_and0 | exact A_or0 | (show EvA _ _ _ _ .And _ _ _; exact A_and (by walk_at "T") (fun _ => by walk_at "A")) | exact A_or (by walk_at "T") (fun _ => by walk_at "A"))
local macro_rules | `(tactic| walk_at "S1") => `(tactic| with_reducible first
  | refine S_pop ?_
  | (show Exs _ _ _ _ ((.Assign [.Name _ _] _ _ :: _) :: _) _; refine S_assign (by walk_at "E") (by walk_at "upd") ?_)
  | (show Exs _ _ _ _ ((.AugAssign _ _ _ _ :: _) :: _) _; refine S_aug (by walk_at "mem") (by walk_at "E") (by walk_at "I") (by walk_at "upd") ?_)
  | (show Exs _ _ _ _ ((.Assign [.Tuple _ _ _] _ _ :: _) :: _) _; refine S_unpack (by walk_at "E") (by walk_at "names") (by walk_at "upds") ?_))
local macro_rules | `(tactic| walk_at "S") => `(tactic| repeat walk_at "S1")
local macro_rules | `(tactic| walk_at "ret") => `(tactic| (with_reducible show Exs _ _ _ _ ((.Return _ _ :: _) :: _) _; with_reducible apply S_ret'; walk_at "E"))
local macro_rules | `(tactic| walk_at "weak") => `(tactic| with_reducible first | exact Weak.nil | (apply Weak.skip; walk_at "weak") | (apply Weak.same; walk_at "weak") | (apply Weak.keep; rotate_left; walk_at "weak"))
local macro_rules | `(tactic| walk_at "end") => `(tactic| ((repeat (with_reducible refine S_pop ?_)); with_reducible apply S_end'; walk_at "weak"))
local macro_rules | `(tactic| walk_at "weak") => `(tactic| with_reducible first | exact Weak.nil | (apply Weak.skip; walk_at "weak") | (apply Weak.same; walk_at "weak") | (apply Weak.keep; rotate_left; walk_at "weak"))
local macro_rules | `(tactic| walk_at "end") => `(tactic| ((repeat (with_reducible refine S_pop ?_)); with_reducible apply S_end'; walk_at "weak"))
local macro_rules | `(tactic| walk_at "M1") => `(tactic| with_reducible first | assumption)
local macro_rules | `(tactic| walk_at "M0") => `(tactic| with_reducible first | assumption)
local macro_rules | `(tactic| walk_at "C") => `(tactic| with_reducible first | assumption)
local macro_rules | `(tactic| walk_at "E") => `(tactic| with_reducible first
  | (show EvE _ _ _ _ (.Call (.Attribute _ _ _) [.Constant _ _ _, .Constant _ _ _] [] _) _ _; exact E_replace' (by walk_at "E") (by assumption) (by decide +kernel) (by walk_at "side"))
  | (show EvE _ _ _ _ (.Call (.Attribute _ _ _) [_] [] _) _ _; exact E_meth1 (by walk_at "E") (by walk_at "E") (by walk_at "M1"))
  | (show EvE _ _ _ _ (.NamedExpr (.Name _ _) _ _) _ _; exact E_named (by walk_at "E") (by walk_at "upd"))
  | (show EvE _ _ _ _ (.Subscript _ (.Constant (.int _) _ _) _) _ _; exact E_listitem (by walk_at "E") (by walk_at "E") (by decide) (by decide) (by with_unfolding_all exact rfl)))
local macro_rules | `(tactic| walk_at "S1") => `(tactic| with_reducible first
  | (show Exs _ _ _ _ ((.Assign [.Tuple [.Name _ _, .Name _ _] _ _] (.Tuple [_, _] _ _) _ :: _) :: _) _; refine S_swap2 (by walk_at "L") (by walk_at "upd") (by walk_at "upd") ?_)
  | (show Exs _ _ _ _ ((.Assign [.Tuple [.Name _ _, .Name _ _, .Name _ _] _ _] (.Tuple [_, _, _] _ _) _ :: _) :: _) _; refine S_swap3 (by walk_at "L") (by walk_at "upd") (by walk_at "upd") (by walk_at "upd") ?_)
  | (show Exs _ _ _ _ ((.Assign [.Tuple _ _ _] _ _ :: _) :: _) _; refine S_unpackL (by walk_at "E") (by walk_at "names") (by walk_at "upds") ?_))
local macro_rules | `(tactic| walk_at "B") => `(tactic| with_reducible first | assumption)
/-- the magnitude of a number -/
inductive Mag (a b : Int) (v : Rat) : Prop
  | zero : v = 0 → Mag a b v
  | pos : (2 : Rat) ^ a ≤ v → v ≤ (2 : Rat) ^ b → Mag a b v
  | neg : (2 : Rat) ^ a ≤ -v → -v ≤ (2 : Rat) ^ b → Mag a b v
/-- a number rounded -/
structure Rd (q : Nat) (c : Bool) (v : Rat) (z e : Int) : Prop where
  can : Can z e
  r : IsR q c v (val z e)
theorem Rd.pv {q : Nat} {c : Bool} {v : Rat} {z e : Int} (h : Rd q c v z e) : pvX q c v = pvM z e := pvX_eq h.can h.r
theorem rd_ex {q : Nat} (hq : 1 ≤ q) (c : Bool) (v : Rat) : ∃ z e, Rd q c v z e := by
  obtain ⟨z, e, a, b, _⟩ := pvX_ex hq c v
  exact ⟨z, e, a, b⟩
structure Sz (q : Nat) (a b : Int) (z e : Int) : Prop where
  can : Can z e
  bits : intBits z ≤ q
  lo : z ≠ 0 → a - q < e
  hi : z ≠ 0 → (intBits z : Int) + e ≤ b + 1
theorem Rd.sz {q : Nat} {c : Bool} {v : Rat} {z e : Int} {a b : Int} (hq : 1 ≤ q) (h : Rd q c v z e) (m : Mag a b v) : Sz q a b z e := by
  have hb := can_bits hq h.can h.r.1
  have key : z ≠ 0 → (2 : Rat) ^ a ≤ val z.natAbs e ∧ val z.natAbs e ≤ (2 : Rat) ^ b := by
    intro hz
    rcases m with hv | ⟨h1, h2⟩ | ⟨h1, h2⟩
    · have r := h.r
      rw [hv] at r
      exact absurd (can_zero h.can (isR_zero r)).1 hz
    · have l1 := isR_lo h.r h1
      have l2 := isR_hi h.r h2
      have hp : 0 < z := (val_pos (z := z) (e := e)).mp (by have := p2_pos a; grind)
      have : (z.natAbs : Int) = z := by omega
      rw [this]; exact ⟨l1, l2⟩
    · have r := h.r.neg
      have l1 := isR_lo r h1
      have l2 := isR_hi r h2
      rw [← val_neg] at l1 l2
      have hp : 0 < -z := (val_pos (z := -z) (e := e)).mp (by have := p2_pos a; generalize val (-z) e = y at *; grind)
      have : (z.natAbs : Int) = -z := by omega
      rw [this]; exact ⟨l1, l2⟩
  refine ⟨h.can, hb, fun hz => (exp_bounds hz hb (key hz).1 (key hz).2).1, fun hz => ?_⟩
  have h1 := val_abs_ge (e := e) hz
  have h2 : (2 : Rat) ^ ((intBits z : Int) - 1 + e) ≤ (2 : Rat) ^ b := Rat.le_trans h1 (key hz).2
  have h3 : ¬ b < (intBits z : Int) - 1 + e := fun hlt => by
    have := p2_lt_iff.mpr hlt
    exact absurd h2 (Rat.not_le.mpr this)
  omega
theorem addok_of {p q1 q2 : Nat} {a1 b1 a2 b2 z1 e1 z2 e2 : Int} (h1 : Sz q1 a1 b1 z1 e1) (h2 : Sz q2 a2 b2 z2 e2) (hp : p ≤ 1000) (hq1 : q1 ≤ 1000) (hq2 : q2 ≤ 1000) (k1 : -1000 ≤ a1) (k2 : -1000 ≤ a2) (k3 : b1 ≤ 1000) (k4 : b2 ≤ 1000)
    (g1 : b1 - a2 + q2 ≤ p + 99) (g2 : b2 - a1 + q1 ≤ p + 99) : AddOk p z1 e1 z2 e2 := by
  have ex : ∀ {q : Nat} {a b z e : Int}, Sz q a b z e → q ≤ 1000 → -1000 ≤ a → b ≤ 1000 → -10000 ≤ e ∧ e ≤ 10000 := by
    intro q a b z e h hq ha hb
    by_cases hz : z = 0
    · have := can_exp h.can hz; omega
    · have := h.lo hz; have := h.hi hz; omega
  refine ⟨by have := h1.bits; omega, by have := h2.bits; omega, ex h1 hq1 k1 k3, ex h2 hq2 k2 k4, by omega, ?_, ?_⟩
  · intro z1' z2' hd _
    have := h1.hi z1'; have := h2.lo z2'; omega
  · intro z1' z2' hd _
    have := h2.hi z2'; have := h1.lo z1'; omega

set_option maxHeartbeats 4000000 in
theorem sp_ab {w : World} {tX tY : NumT} (hX : tX.Ok) (hY : tY.Ok) {p : Nat} (hp : 1 ≤ p) (hps : p ≤ 900) {z1 e1 z2 e2 z3 e3 : Int} (r1 : Rd (p + 20) false tX.val z1 e1) (r2 : Rd (p + 20) true tX.val z2 e2) (r3 : Rd (p + 20) true tY.val z3 e3)
    {a b a' b' : Int} (m1 : Mag a b tX.val) (m2 : Mag a' b' tY.val) (hy0 : 0 ≤ tY.val) (k1 : -1000 ≤ a) (k2 : -1000 ≤ a') (k3 : b ≤ 1000) (k4 : b' ≤ 1000) (g1 : b - a' ≤ 79) (g2 : b' - a ≤ 79) :
    FnSpec w 10 "mpi_from_str_a_b" [.str (tx tX.text), .str (tx tY.text), .bool false, .int p] (pvI (pvX p false (val z1 e1 - val z3 e3)) (pvX p true (val z2 e2 + val z3 e3))) := by
  have F1 := sp_fromstr (w := w) hX (p := p + 20) (by omega) (by omega) false
  have F2 := sp_fromstr (w := w) hX (p := p + 20) (by omega) (by omega) true
  have F3 := sp_fromstr (w := w) hY (p := p + 20) (by omega) (by omega) true
  rw [r1.pv] at F1
  rw [r2.pv] at F2
  rw [r3.pv] at F3
  have hz3 : 0 ≤ z3 := val_nonneg.mp (isR_nonneg r3.r hy0)
  have F4 := sp_ge0 (w := w) r3.can hz3
  have s1 := r1.sz (by omega) m1
  have s2 := r2.sz (by omega) m1
  have s3 := r3.sz (by omega) m2
  have o1 := addok_of (p := p) s1 s3 (by omega) (by omega) (by omega) k1 k2 k3 k4 (by omega) (by omega)
  have o2 := addok_of (p := p) s2 s3 (by omega) (by omega) (by omega) k1 k2 k3 k4 (by omega) (by omega)
  have F5 := sp_sub (w := w) r1.can r3.can hp false (by have := o1.s1; omega) (by have := o1.s2; omega) (by have := o1.x1; omega) (by have := o1.x2; omega) (by omega) o1.g1 o1.g2
  have F6 := (sp_add (w := w) (σ := 0) r2.can r3.can hp true (.inl rfl) (by have := o2.s1; omega) (by have := o2.s2; omega) (by have := o2.x1; omega) (by have := o2.x2; omega) (by omega) o2.g1 o2.g2).2 rfl
  rw [if_neg (by decide)] at F6
  rw [Int.natCast_add] at F1 F2 F3
  change FnSpec w 7 "from_str" [.str (tx tX.text), .int ((p : Int) + 20), .str (Str.ofString "f")] (pvM z1 e1) at F1
  change FnSpec w 7 "from_str" [.str (tx tX.text), .int ((p : Int) + 20), .str (Str.ofString "c")] (pvM z2 e2) at F2
  change FnSpec w 7 "from_str" [.str (tx tY.text), .int ((p : Int) + 20), .str (Str.ofString "c")] (pvM z3 e3) at F3
  change FnSpec w 6 "mpf_sub" [pvM z1 e1, pvM z3 e3, .int p, .str (Str.ofString "f")] _ at F5
  change FnSpec w 5 "mpf_add" [pvM z2 e2, pvM z3 e3, .int p, .str (Str.ofString "c")] _ at F6
  change FnSpec w 8 "mpf_ge" [pvM z3 e3, .tuple [.int 0, .int 0, .int 0, .int 0]] (.bool true) at F4
  refine fn_intro (Γ := ["from_str", "round_floor", "round_ceiling", "mpf_ge", "fzero", "mpf_mul", "MAX", "mpf_abs", "mpf_div", "from_int", "mpf_sub", "mpf_add"]) 314 (by kernel_rfl) (by rfl) (by kernel_rfl) ["x", "y", "percent", "prec"] ["wp", "xa", "xb", "a", "b"]
    [.str (tx tX.text), .str (tx tY.text), .bool false, .int p] (by decide +kernel) rfl ?_ ?_
  · intro s vs ks H ra rk
    refine bindN ra rk fun vs hv => ?_
    match vs, hv with
    | [a, b, c, d], _ => exact BindsTo.of_eq (by rfl)
  intro ρ hρ; simp only [envZip_cons, envZip_nil, envZip_nil'] at hρ; subst hρ
  walk_at "S"
  refine S_assert (by walk_at "T") ?_
  walk_at "S"
  refine S_if (by walk_at "T") (fun h => by cases h) (fun _ => ?_)
  walk_at "S"
  walk_at "ret"
  rfl
end Mine
end

-- WbF
section
namespace Mine
open PySem.Builtin (bitAnd bitXor)
open PySem.Builtin.Int (intBits)
local macro_rules | `(tactic| walk_at "mem") => `(tactic| with_reducible (first | exact List.mem_cons_self | (refine List.mem_cons_of_mem _ ?_; walk_at "mem")))
local macro_rules | `(tactic| walk_at "upd") => `(tactic| with_reducible (first | exact Upd.head | (apply Upd.tail; walk_at "upd")))
local macro_rules | `(tactic| walk_at "upds") => `(tactic| first | exact Upds.nil | exact Upds.cons (by walk_at "upd") (by walk_at "upds"))
local macro_rules | `(tactic| walk_at "names") => `(tactic| first | exact Names.nil | exact Names.cons (by walk_at "names"))
local macro_rules | `(tactic| walk_at "side") => `(tactic| first | assumption | decide | omega)
local macro_rules | `(tactic| walk_at "B") => `(tactic| with_reducible first
  | exact B_add | exact B_sub | (show BinV .Mult _ _ _; exact B_mul (by walk_at "side")) | (show BinV .FloorDiv _ _ _; exact B_fdiv (by walk_at "side") (by walk_at "side")) | (show BinV .Mod _ _ _; exact B_mod (by walk_at "side"))
  | (show BinV .LShift _ _ _; exact B_shl (by walk_at "side") (by walk_at "side")) | (show BinV .RShift _ _ _; exact B_shr (by walk_at "side")) | (show BinV .Pow _ _ _; exact B_pow (by walk_at "side") (by walk_at "side"))
  | exact B_and | exact B_xor | (show BinV .Add (.str _) _ _; exact B_adds (by walk_at "side")))
local macro_rules | `(tactic| walk_at "I") => `(tactic| with_reducible first
  | exact I_add | exact I_sub | (show IBinV .LShift _ _ _; exact I_shl (by walk_at "side") (by walk_at "side")) | (show IBinV .RShift _ _ _; exact I_shr (by walk_at "side")) | exact I_xor | (show IBinV .Add (.str _) _ _; exact I_adds (by walk_at "side")))
local macro_rules | `(tactic| walk_at "C") => `(tactic| with_reducible first
  | exact C_eq | exact C_ne | exact C_lt | exact C_le | exact C_gt | exact C_ge | exact C_eqs | exact C_nes
  | (show CmpV .Eq (.tuple _) (.tuple _) _; exact C_eqd (by with_unfolding_all rfl) (by with_unfolding_all rfl) (by with_unfolding_all exact Nat.le_of_ble_eq_true rfl))
  | (show CmpV .NotEq (.tuple _) (.tuple _) _; exact C_ned (by with_unfolding_all rfl) (by with_unfolding_all rfl) (by with_unfolding_all exact Nat.le_of_ble_eq_true rfl)))
local macro_rules | `(tactic| walk_at "U") => `(tactic| with_reducible first | exact U_neg | (show UnV .Not _ _; exact U_not (by walk_at "R")))
local macro_rules | `(tactic| walk_at "R") => `(tactic| with_reducible first | exact R_int | exact R_bool | (show TruV (.str _) _; exact R_str (by walk_at "side")))
local macro_rules | `(tactic| walk_at "G") => `(tactic| with_reducible first
  | exact gl_fzero | exact gl_zero | exact gl_one | exact gl_near | exact gl_floor | exact gl_ceil | exact gl_up | exact gl_down | exact gl_fnan | exact gl_finf | exact gl_fninf | exact gl_blog | exact gl_digits)
local macro_rules | `(tactic| walk_at "L") => `(tactic| with_reducible first | exact L_nil | (show EvL _ _ _ _ (_ :: _) _ _; exact L_cons (by walk_at "E") (by walk_at "L")))
local macro_rules | `(tactic| walk_at "M0") => `(tactic| with_reducible first | exact M_bitlen | (show Meth0 _ (.str _) _; first | exact M_strip (by walk_at "side") | exact M_lower (by walk_at "side")))
local macro_rules | `(tactic| walk_at "K") => `(tactic| with_reducible first | assumption | exact K_int | exact K_abs | exact K_max | exact K_min | (show CallV (.builtin "len") _ _; exact K_len (by walk_at "side")) | (show CallV (.builtin "divmod") _ _; exact K_divmod (by walk_at "side") (by walk_at "side")))
local macro_rules | `(tactic| walk_at "Ebi") => `(tactic| with_reducible first
  | (show EvE _ _ _ _ (.Call (.Name (Str.ofString "int") _) _ _ _) _ _; exact E_bi bi_int (by walk_at "mem") rfl (by walk_at "L") (by walk_at "K"))
  | (show EvE _ _ _ _ (.Call (.Name (Str.ofString "len") _) _ _ _) _ _; exact E_bi bi_len (by walk_at "mem") rfl (by walk_at "L") (by walk_at "K"))
  | (show EvE _ _ _ _ (.Call (.Name (Str.ofString "abs") _) _ _ _) _ _; exact E_bi bi_abs (by walk_at "mem") rfl (by walk_at "L") (by walk_at "K"))
  | (show EvE _ _ _ _ (.Call (.Name (Str.ofString "max") _) _ _ _) _ _; exact E_bi bi_max (by walk_at "mem") rfl (by walk_at "L") (by walk_at "K"))
  | (show EvE _ _ _ _ (.Call (.Name (Str.ofString "min") _) _ _ _) _ _; exact E_bi bi_min (by walk_at "mem") rfl (by walk_at "L") (by walk_at "K"))
  | (show EvE _ _ _ _ (.Call (.Name (Str.ofString "divmod") _) _ _ _) _ _; exact E_bi bi_divmod (by walk_at "mem") rfl (by walk_at "L") (by walk_at "K"))
  | (show EvE _ _ _ _ (.Call (.Name (Str.ofString "str") _) _ _ _) _ _; exact E_bi bi_str (by walk_at "mem") rfl (by walk_at "L") (by walk_at "K"))
  | (show EvE _ _ _ _ (.Call (.Name (Str.ofString "pow") _) _ _ _) _ _; exact E_bi bi_pow (by walk_at "mem") rfl (by walk_at "L") (by walk_at "K"))
  | (show EvE _ _ _ _ (.Call (.Name (Str.ofString "isinstance") _) _ _ _) _ _; exact E_isint (by walk_at "mem") (by walk_at "mem") (by walk_at "E")))
local macro_rules | `(tactic| walk_at "E") => `(tactic| with_reducible first
  | assumption
  | (show EvE _ _ _ _ (.Name _ _) _ _; first | exact E_name (by walk_at "mem") | exact E_gl (by walk_at "mem") (by walk_at "G"))
  | exact E_int
  | (show EvE _ _ _ _ (.BinOp _ _ _ _) _ _; exact E_bin (by walk_at "E") (by walk_at "E") (by walk_at "B"))
  | exact E_str | exact E_bool | exact E_none
  | (show EvE _ _ _ _ (.UnaryOp _ _ _) _ _; exact E_un (by walk_at "E") (by walk_at "U"))
  | (show EvE _ _ _ _ (.Tuple _ _ _) _ _; exact E_tup (by walk_at "L"))
  | (show EvE _ _ _ _ (.Call (.Name _ _) _ _ _) _ _; first | walk_at "Ebi" | exact E_call (by walk_at "mem") (by walk_at "L") (by assumption))
  | (show EvE _ _ _ _ (.BoolOp .Or [_, _] _) _ _; exact E_orp (by walk_at "E") (by walk_at "side"))
  | (show EvE _ _ _ _ (.Call (.Attribute _ _ _) [] [] _) _ _; exact E_meth0 (by walk_at "E") (by walk_at "M0"))
  | (show EvE _ _ _ _ (.Compare _ [_] [_] _) _ _; exact E_cmp (by walk_at "E") (by walk_at "E") (by walk_at "C")))
local macro_rules | `(tactic| walk_at "T") => `(tactic| with_reducible first
  | assumption
  | (show EvT _ _ _ _ (.UnaryOp .Not _ _) _ _; exact T_not (by walk_at "T")) | (show EvT _ _ _ _ (.Compare _ [_] [_] _) _ _; exact T_cmp (by walk_at "E") (by walk_at "E") (by walk_at "C"))
  | (show EvT _ _ _ _ (.Compare _ [_, _] [_, _] _) _ _; exact T_chain (by walk_at "E") (by walk_at "E") (by walk_at "C") (fun _ => by walk_at "E") (fun _ => by walk_at "C"))
  | (show EvT _ _ _ _ (.BoolOp _ _ _) _ _; exact T_bool (by walk_at "A")) | exact T_val (by walk_at "E") (by walk_at "R"))
local macro_rules | `(tactic| walk_at "A") => `(tactic| with_reducible first
  | exact A_and0 | exact A_or0 | (show EvA _ _ _ _ .And _ _ _; exact A_and (by walk_at "T") (fun _ => by walk_at "A")) | exact A_or (by walk_at "T") (fun _ => by walk_at "A"))
local macro_rules | `(tactic| walk_at "S1") => `(tactic| with_reducible first
  | refine S_pop ?_
  | (show Exs _ _ _ _ ((.Assign [.Name _ _] _ _ :: _) :: _) _; refine S_assign (by walk_at "E") (by walk_at "upd") ?_)
  | (show Exs _ _ _ _ ((.AugAssign _ _ _ _ :: _) :: _) _; refine S_aug (by walk_at "mem") (by walk_at "E") (by walk_at "I") (by walk_at "upd") ?_)
  | (show Exs _ _ _ _ ((.Assign [.Tuple _ _ _] _ _ :: _) :: _) _; refine S_unpack (by walk_at "E") (by walk_at "names") (by walk_at "upds") ?_))
local macro_rules | `(tactic| walk_at "S") => `(tactic| repeat walk_at "S1")
local macro_rules | `(tactic| walk_at "ret") => `(tactic| (with_reducible show Exs _ _ _ _ ((.Return _ _ :: _) :: _) _; with_reducible apply S_ret'; walk_at "E"))
local macro_rules | `(tactic| walk_at "weak") => `(tactic| with_reducible first | exact Weak.nil | (apply Weak.skip; walk_at "weak") | (apply Weak.same; walk_at "weak") | (apply Weak.keep; rotate_left; walk_at "weak"))
local macro_rules | `(tactic| walk_at "end") => `(tactic| ((repeat (with_reducible refine S_pop ?_)); with_reducible apply S_end'; walk_at "weak"))
local macro_rules | `(tactic| walk_at "weak") => `(tactic| with_reducible first | exact Weak.nil | (apply Weak.skip; walk_at "weak") | (apply Weak.same; walk_at "weak") | (apply Weak.keep; rotate_left; walk_at "weak"))
local macro_rules | `(tactic| walk_at "end") => `(tactic| ((repeat (with_reducible refine S_pop ?_)); with_reducible apply S_end'; walk_at "weak"))
local macro_rules | `(tactic| walk_at "M1") => `(tactic| with_reducible first | assumption)
local macro_rules | `(tactic| walk_at "M0") => `(tactic| with_reducible first | assumption)
local macro_rules | `(tactic| walk_at "C") => `(tactic| with_reducible first | assumption)
local macro_rules | `(tactic| walk_at "E") => `(tactic| with_reducible first
  | (show EvE _ _ _ _ (.Call (.Attribute _ _ _) [.Constant _ _ _, .Constant _ _ _] [] _) _ _; exact E_replace' (by walk_at "E") (by assumption) (by decide +kernel) (by walk_at "side"))
  | (show EvE _ _ _ _ (.Call (.Attribute _ _ _) [_] [] _) _ _; exact E_meth1 (by walk_at "E") (by walk_at "E") (by walk_at "M1"))
  | (show EvE _ _ _ _ (.NamedExpr (.Name _ _) _ _) _ _; exact E_named (by walk_at "E") (by walk_at "upd"))
  | (show EvE _ _ _ _ (.Subscript _ (.Constant (.int _) _ _) _) _ _; exact E_listitem (by walk_at "E") (by walk_at "E") (by decide) (by decide) (by with_unfolding_all exact rfl)))
local macro_rules | `(tactic| walk_at "S1") => `(tactic| with_reducible first
  | (show Exs _ _ _ _ ((.Assign [.Tuple [.Name _ _, .Name _ _] _ _] (.Tuple [_, _] _ _) _ :: _) :: _) _; refine S_swap2 (by walk_at "L") (by walk_at "upd") (by walk_at "upd") ?_)
  | (show Exs _ _ _ _ ((.Assign [.Tuple [.Name _ _, .Name _ _, .Name _ _] _ _] (.Tuple [_, _, _] _ _) _ :: _) :: _) _; refine S_swap3 (by walk_at "L") (by walk_at "upd") (by walk_at "upd") (by walk_at "upd") ?_)
  | (show Exs _ _ _ _ ((.Assign [.Tuple _ _ _] _ _ :: _) :: _) _; refine S_unpackL (by walk_at "E") (by walk_at "names") (by walk_at "upds") ?_))
local macro_rules | `(tactic| walk_at "B") => `(tactic| with_reducible first | assumption)
theorem can_abs {z e : Int} (h : Can z e) : Can z.natAbs e := by
  rcases h with ⟨rfl, rfl⟩ | h
  · left; exact ⟨rfl, rfl⟩
  · right; omega
theorem sz_exp {q : Nat} {a b z e : Int} (h : Sz q a b z e) (hq : q ≤ 1000) (ha : -1000 ≤ a) (hb : b ≤ 1000) : -10000 ≤ e ∧ e ≤ 10000 := by
  by_cases hz : z = 0
  · have := can_exp h.can hz; omega
  · have := h.lo hz; have := h.hi hz; omega
theorem int100 : (pvN 100 0 : PV) = pvM 25 2 := by
  have h1 : nrmZ 100 = 25 := by decide +kernel
  have h2 : nrmE 100 0 = 2 := by decide +kernel
  show pvM (nrmZ 100) (nrmE 100 0) = _
  rw [h1, h2]
theorem rd_nz {q : Nat} {c : Bool} {v : Rat} {z e a b : Int} (h : Rd q c v z e) (m : Mag a b v) : (v = 0 ∧ z = 0 ∧ e = 0) ∨ (v ≠ 0 ∧ z ≠ 0) := by
  rcases m with hv | ⟨h1, h2⟩ | ⟨h1, h2⟩
  · have r := h.r
    rw [hv] at r
    have := can_zero h.can (isR_zero r)
    exact .inl ⟨hv, this⟩
  · have l1 := isR_lo h.r h1
    have hp : 0 < z := (val_pos (z := z) (e := e)).mp (by have := p2_pos a; grind)
    exact .inr ⟨by have := p2_pos a; grind, by omega⟩
  · have l1 := isR_lo h.r.neg h1
    rw [← val_neg] at l1
    have hp : 0 < -z := (val_pos (z := -z) (e := e)).mp (by have := p2_pos a; generalize val (-z) e = y at *; grind)
    exact .inr ⟨by have := p2_pos a; grind, by omega⟩

set_option maxHeartbeats 4000000 in
theorem sp_abz {w : World} {tX tY : NumT} (hX : tX.Ok) (hY : tY.Ok) {p : Nat} (hp : 1 ≤ p) (hps : p ≤ 900) {z1 e1 z2 e2 : Int} (r1 : Rd (p + 20) false tX.val z1 e1) (r2 : Rd (p + 20) true tX.val z2 e2)
    {a b : Int} (m1 : Mag a b tX.val) (hy0 : tY.val = 0) (k1 : -1000 ≤ a) (k3 : b ≤ 1000) :
    FnSpec w 10 "mpi_from_str_a_b" [.str (tx tX.text), .str (tx tY.text), .bool true, .int p] (pvI (pvX p false (val z1 e1 - val 0 0)) (pvX p true (val z2 e2 + val 0 0))) := by
  have F1 := sp_fromstr (w := w) hX (p := p + 20) (by omega) (by omega) false
  have F2 := sp_fromstr (w := w) hX (p := p + 20) (by omega) (by omega) true
  have F3 := sp_fromstr (w := w) hY (p := p + 20) (by omega) (by omega) true
  rw [r1.pv] at F1
  rw [r2.pv] at F2
  rw [hy0, pvX_zero] at F3
  have c0 : Can 0 0 := .inl ⟨rfl, rfl⟩
  have F4 := sp_ge0 (w := w) c0 (by omega)
  have s1 := r1.sz (by omega) m1
  have s2 := r2.sz (by omega) m1
  have x1 := sz_exp s1 (by omega) k1 k3
  have x2 := sz_exp s2 (by omega) k1 k3
  have b1 := s1.bits
  have b2 := s2.bits
  have F5 := sp_sub (w := w) r1.can c0 hp false (by omega) (by rw [bl_zero]; omega) (by omega) (by omega) (by omega) (fun _ h => absurd rfl h) (fun _ h => absurd rfl h)
  have F6 := (sp_add (w := w) (σ := 0) r2.can c0 hp true (.inl rfl) (by omega) (by rw [bl_zero]; omega) (by omega) (by omega) (by omega) (fun _ h => absurd rfl h) (fun _ h => absurd rfl h)).2 rfl
  rw [if_neg (by decide)] at F6
  have F7 := sp_abs (w := w) r1.can
  have F8 := sp_abs (w := w) r2.can
  obtain ⟨z, e, hze, F9⟩ := sp_max (w := w) (can_abs r1.can) (can_abs r2.can) (by
    rcases rd_nz r1 m1 with ⟨h, h1, _⟩ | ⟨h, h1⟩ <;> rcases rd_nz r2 m1 with ⟨h', h2, _⟩ | ⟨h', h2⟩
    · left; omega
    · exact absurd h h'
    · exact absurd h' h
    · right; omega) (by rw [bl_abs]; omega) (by rw [bl_abs]; omega) x1 x2
  have cz : Can z e ∧ intBits z ≤ 100000 := by
    rcases hze with ⟨rfl, rfl⟩ | ⟨rfl, rfl⟩
    · exact ⟨can_abs r1.can, by rw [bl_abs]; omega⟩
    · exact ⟨can_abs r2.can, by rw [bl_abs]; omega⟩
  have F10 := sp_mul (w := w) (p := p + 20) cz.1 c0 (by omega) true cz.2 (by rw [bl_zero]; omega)
  rw [val_zero, Rat.mul_zero, pvX_zero] at F10
  have F11 := sp_int0 (w := w) (n := 100)
  rw [int100] at F11
  have F12 := sp_div (w := w) (p := p + 20) c0 (z2 := 25) (e2 := 2) (.inr (by decide)) (by omega) true (by decide) (by rw [bl_zero]; omega) (by decide +kernel) (by omega)
  rw [val_zero, Rat.div_def, Rat.zero_mul, pvX_zero] at F12
  rw [Int.natCast_add] at F1 F2 F3 F10 F12
  change FnSpec w 7 "from_str" [.str (tx tX.text), .int ((p : Int) + 20), .str (Str.ofString "f")] (pvM z1 e1) at F1
  change FnSpec w 7 "from_str" [.str (tx tX.text), .int ((p : Int) + 20), .str (Str.ofString "c")] (pvM z2 e2) at F2
  change FnSpec w 7 "from_str" [.str (tx tY.text), .int ((p : Int) + 20), .str (Str.ofString "c")] (pvM 0 0) at F3
  change FnSpec w 6 "mpf_sub" [pvM z1 e1, pvM 0 0, .int p, .str (Str.ofString "f")] _ at F5
  change FnSpec w 5 "mpf_add" [pvM z2 e2, pvM 0 0, .int p, .str (Str.ofString "c")] _ at F6
  change FnSpec w 4 "mpf_mul" [pvM z e, pvM 0 0, .int ((p : Int) + 20), .str (Str.ofString "c")] (pvM 0 0) at F10
  change FnSpec w 4 "mpf_div" [pvM 0 0, pvM 25 2, .int ((p : Int) + 20), .str (Str.ofString "c")] (pvM 0 0) at F12
  change FnSpec w 8 "mpf_ge" [pvM 0 0, .tuple [.int 0, .int 0, .int 0, .int 0]] (.bool true) at F4
  refine fn_intro (Γ := ["from_str", "round_floor", "round_ceiling", "mpf_ge", "fzero", "mpf_mul", "MAX", "mpf_abs", "mpf_div", "from_int", "mpf_sub", "mpf_add"]) 314 (by kernel_rfl) (by rfl) (by kernel_rfl) ["x", "y", "percent", "prec"] ["wp", "xa", "xb", "a", "b"]
    [.str (tx tX.text), .str (tx tY.text), .bool true, .int p] (by decide +kernel) rfl ?_ ?_
  · intro s vs ks H ra rk
    refine bindN ra rk fun vs hv => ?_
    match vs, hv with
    | [a, b, c, d], _ => exact BindsTo.of_eq (by rfl)
  intro ρ hρ; simp only [envZip_cons, envZip_nil, envZip_nil'] at hρ; subst hρ
  walk_at "S"
  refine S_assert (by walk_at "T") ?_
  walk_at "S"
  refine S_if (by walk_at "T") (fun _ => ?_) (fun h => by cases h)
  walk_at "S"
  walk_at "ret"
  rfl
end Mine
end

-- WbG
section
namespace Mine
open PySem.Builtin (bitAnd bitXor)
open PySem.Builtin.Int (intBits)
local macro_rules | `(tactic| walk_at "mem") => `(tactic| with_reducible (first | exact List.mem_cons_self | (refine List.mem_cons_of_mem _ ?_; walk_at "mem")))
local macro_rules | `(tactic| walk_at "upd") => `(tactic| with_reducible (first | exact Upd.head | (apply Upd.tail; walk_at "upd")))
local macro_rules | `(tactic| walk_at "upds") => `(tactic| first | exact Upds.nil | exact Upds.cons (by walk_at "upd") (by walk_at "upds"))
local macro_rules | `(tactic| walk_at "names") => `(tactic| first | exact Names.nil | exact Names.cons (by walk_at "names"))
local macro_rules | `(tactic| walk_at "side") => `(tactic| first | assumption | decide | omega)
local macro_rules | `(tactic| walk_at "B") => `(tactic| with_reducible first
  | exact B_add | exact B_sub | (show BinV .Mult _ _ _; exact B_mul (by walk_at "side")) | (show BinV .FloorDiv _ _ _; exact B_fdiv (by walk_at "side") (by walk_at "side")) | (show BinV .Mod _ _ _; exact B_mod (by walk_at "side"))
  | (show BinV .LShift _ _ _; exact B_shl (by walk_at "side") (by walk_at "side")) | (show BinV .RShift _ _ _; exact B_shr (by walk_at "side")) | (show BinV .Pow _ _ _; exact B_pow (by walk_at "side") (by walk_at "side"))
  | exact B_and | exact B_xor | (show BinV .Add (.str _) _ _; exact B_adds (by walk_at "side")))
local macro_rules | `(tactic| walk_at "I") => `(tactic| with_reducible first
  | exact I_add | exact I_sub | (show IBinV .LShift _ _ _; exact I_shl (by walk_at "side") (by walk_at "side")) | (show IBinV .RShift _ _ _; exact I_shr (by walk_at "side")) | exact I_xor | (show IBinV .Add (.str _) _ _; exact I_adds (by walk_at "side")))
local macro_rules | `(tactic| walk_at "C") => `(tactic| with_reducible first
  | exact C_eq | exact C_ne | exact C_lt | exact C_le | exact C_gt | exact C_ge | exact C_eqs | exact C_nes
  | (show CmpV .Eq (.tuple _) (.tuple _) _; exact C_eqd (by with_unfolding_all rfl) (by with_unfolding_all rfl) (by with_unfolding_all exact Nat.le_of_ble_eq_true rfl))
  | (show CmpV .NotEq (.tuple _) (.tuple _) _; exact C_ned (by with_unfolding_all rfl) (by with_unfolding_all rfl) (by with_unfolding_all exact Nat.le_of_ble_eq_true rfl)))
local macro_rules | `(tactic| walk_at "U") => `(tactic| with_reducible first | exact U_neg | (show UnV .Not _ _; exact U_not (by walk_at "R")))
local macro_rules | `(tactic| walk_at "R") => `(tactic| with_reducible first | exact R_int | exact R_bool | (show TruV (.str _) _; exact R_str (by walk_at "side")))
local macro_rules | `(tactic| walk_at "G") => `(tactic| with_reducible first
  | exact gl_fzero | exact gl_zero | exact gl_one | exact gl_near | exact gl_floor | exact gl_ceil | exact gl_up | exact gl_down | exact gl_fnan | exact gl_finf | exact gl_fninf | exact gl_blog | exact gl_digits)
local macro_rules | `(tactic| walk_at "L") => `(tactic| with_reducible first | exact L_nil | (show EvL _ _ _ _ (_ :: _) _ _; exact L_cons (by walk_at "E") (by walk_at "L")))
local macro_rules | `(tactic| walk_at "M0") => `(tactic| with_reducible first | exact M_bitlen | (show Meth0 _ (.str _) _; first | exact M_strip (by walk_at "side") | exact M_lower (by walk_at "side")))
local macro_rules | `(tactic| walk_at "K") => `(tactic| with_reducible first | assumption | exact K_int | exact K_abs | exact K_max | exact K_min | (show CallV (.builtin "len") _ _; exact K_len (by walk_at "side")) | (show CallV (.builtin "divmod") _ _; exact K_divmod (by walk_at "side") (by walk_at "side")))
local macro_rules | `(tactic| walk_at "Ebi") => `(tactic| with_reducible first
  | (show EvE _ _ _ _ (.Call (.Name (Str.ofString "int") _) _ _ _) _ _; exact E_bi bi_int (by walk_at "mem") rfl (by walk_at "L") (by walk_at "K"))
  | (show EvE _ _ _ _ (.Call (.Name (Str.ofString "len") _) _ _ _) _ _; exact E_bi bi_len (by walk_at "mem") rfl (by walk_at "L") (by walk_at "K"))
  | (show EvE _ _ _ _ (.Call (.Name (Str.ofString "abs") _) _ _ _) _ _; exact E_bi bi_abs (by walk_at "mem") rfl (by walk_at "L") (by walk_at "K"))
  | (show EvE _ _ _ _ (.Call (.Name (Str.ofString "max") _) _ _ _) _ _; exact E_bi bi_max (by walk_at "mem") rfl (by walk_at "L") (by walk_at "K"))
  | (show EvE _ _ _ _ (.Call (.Name (Str.ofString "min") _) _ _ _) _ _; exact E_bi bi_min (by walk_at "mem") rfl (by walk_at "L") (by walk_at "K"))
  | (show EvE _ _ _ _ (.Call (.Name (Str.ofString "divmod") _) _ _ _) _ _; exact E_bi bi_divmod (by walk_at "mem") rfl (by walk_at "L") (by walk_at "K"))
  | (show EvE _ _ _ _ (.Call (.Name (Str.ofString "str") _) _ _ _) _ _; exact E_bi bi_str (by walk_at "mem") rfl (by walk_at "L") (by walk_at "K"))
  | (show EvE _ _ _ _ (.Call (.Name (Str.ofString "pow") _) _ _ _) _ _; exact E_bi bi_pow (by walk_at "mem") rfl (by walk_at "L") (by walk_at "K"))
  | (show EvE _ _ _ _ (.Call (.Name (Str.ofString "isinstance") _) _ _ _) _ _; exact E_isint (by walk_at "mem") (by walk_at "mem") (by walk_at "E")))
local macro_rules | `(tactic| walk_at "E") => `(tactic| with_reducible first
  | assumption
  | (show EvE _ _ _ _ (.Name _ _) _ _; first | exact E_name (by walk_at "mem") | exact E_gl (by walk_at "mem") (by walk_at "G"))
  | exact E_int
  | (show EvE _ _ _ _ (.BinOp _ _ _ _) _ _; exact E_bin (by walk_at "E") (by walk_at "E") (by walk_at "B"))
  | exact E_str | exact E_bool | exact E_none
  | (show EvE _ _ _ _ (.UnaryOp _ _ _) _ _; exact E_un (by walk_at "E") (by walk_at "U"))
  | (show EvE _ _ _ _ (.Tuple _ _ _) _ _; exact E_tup (by walk_at "L"))
  | (show EvE _ _ _ _ (.Call (.Name _ _) _ _ _) _ _; first | walk_at "Ebi" | exact E_call (by walk_at "mem") (by walk_at "L") (by assumption))
  | (show EvE _ _ _ _ (.BoolOp .Or [_, _] _) _ _; exact E_orp (by walk_at "E") (by walk_at "side"))
  | (show EvE _ _ _ _ (.Call (.Attribute _ _ _) [] [] _) _ _; exact E_meth0 (by walk_at "E") (by walk_at "M0"))
  | (show EvE _ _ _ _ (.Compare _ [_] [_] _) _ _; exact E_cmp (by walk_at "E") (by walk_at "E") (by walk_at "C")))
local macro_rules | `(tactic| walk_at "T") => `(tactic| with_reducible first
  | assumption
  | (show EvT _ _ _ _ (.UnaryOp .Not _ _) _ _; exact T_not (by walk_at "T")) | (show EvT _ _ _ _ (.Compare _ [_] [_] _) _ _; exact T_cmp (by walk_at "E") (by walk_at "E") (by walk_at "C"))
  | (show EvT _ _ _ _ (.Compare _ [_, _] [_, _] _) _ _; exact T_chain (by walk_at "E") (by walk_at "E") (by walk_at "C") (fun _ => by walk_at "E") (fun _ => by walk_at "C"))
  | (show EvT _ _ _ _ (.BoolOp _ _ _) _ _; exact T_bool (by walk_at "A")) | exact T_val (by walk_at "E") (by walk_at "R"))
local macro_rules | `(tactic| walk_at "A") => `(tactic| with_reducible first
  | exact A_and0 | exact A_or0 | (show EvA _ _ _ _ .And _ _ _; exact A_and (by walk_at "T") (fun _ => by walk_at "A")) | exact A_or (by walk_at "T") (fun _ => by walk_at "A"))
local macro_rules | `(tactic| walk_at "S1") => `(tactic| with_reducible first
  | refine S_pop ?_
  | (show Exs _ _ _ _ ((.Assign [.Name _ _] _ _ :: _) :: _) _; refine S_assign (by walk_at "E") (by walk_at "upd") ?_)
  | (show Exs _ _ _ _ ((.AugAssign _ _ _ _ :: _) :: _) _; refine S_aug (by walk_at "mem") (by walk_at "E") (by walk_at "I") (by walk_at "upd") ?_)
  | (show Exs _ _ _ _ ((.Assign [.Tuple _ _ _] _ _ :: _) :: _) _; refine S_unpack (by walk_at "E") (by walk_at "names") (by walk_at "upds") ?_))
local macro_rules | `(tactic| walk_at "S") => `(tactic| repeat walk_at "S1")
local macro_rules | `(tactic| walk_at "ret") => `(tactic| (with_reducible show Exs _ _ _ _ ((.Return _ _ :: _) :: _) _; with_reducible apply S_ret'; walk_at "E"))
local macro_rules | `(tactic| walk_at "weak") => `(tactic| with_reducible first | exact Weak.nil | (apply Weak.skip; walk_at "weak") | (apply Weak.same; walk_at "weak") | (apply Weak.keep; rotate_left; walk_at "weak"))
local macro_rules | `(tactic| walk_at "end") => `(tactic| ((repeat (with_reducible refine S_pop ?_)); with_reducible apply S_end'; walk_at "weak"))
local macro_rules | `(tactic| walk_at "weak") => `(tactic| with_reducible first | exact Weak.nil | (apply Weak.skip; walk_at "weak") | (apply Weak.same; walk_at "weak") | (apply Weak.keep; rotate_left; walk_at "weak"))
local macro_rules | `(tactic| walk_at "end") => `(tactic| ((repeat (with_reducible refine S_pop ?_)); with_reducible apply S_end'; walk_at "weak"))
local macro_rules | `(tactic| walk_at "M1") => `(tactic| with_reducible first | assumption)
local macro_rules | `(tactic| walk_at "M0") => `(tactic| with_reducible first | assumption)
local macro_rules | `(tactic| walk_at "C") => `(tactic| with_reducible first | assumption)
local macro_rules | `(tactic| walk_at "E") => `(tactic| with_reducible first
  | (show EvE _ _ _ _ (.Call (.Attribute _ _ _) [.Constant _ _ _, .Constant _ _ _] [] _) _ _; exact E_replace' (by walk_at "E") (by assumption) (by decide +kernel) (by walk_at "side"))
  | (show EvE _ _ _ _ (.Call (.Attribute _ _ _) [_] [] _) _ _; exact E_meth1 (by walk_at "E") (by walk_at "E") (by walk_at "M1"))
  | (show EvE _ _ _ _ (.NamedExpr (.Name _ _) _ _) _ _; exact E_named (by walk_at "E") (by walk_at "upd"))
  | (show EvE _ _ _ _ (.Subscript _ (.Constant (.int _) _ _) _) _ _; exact E_listitem (by walk_at "E") (by walk_at "E") (by decide) (by decide) (by with_unfolding_all exact rfl)))
local macro_rules | `(tactic| walk_at "S1") => `(tactic| with_reducible first
  | (show Exs _ _ _ _ ((.Assign [.Tuple [.Name _ _, .Name _ _] _ _] (.Tuple [_, _] _ _) _ :: _) :: _) _; refine S_swap2 (by walk_at "L") (by walk_at "upd") (by walk_at "upd") ?_)
  | (show Exs _ _ _ _ ((.Assign [.Tuple [.Name _ _, .Name _ _, .Name _ _] _ _] (.Tuple [_, _, _] _ _) _ :: _) :: _) _; refine S_swap3 (by walk_at "L") (by walk_at "upd") (by walk_at "upd") (by walk_at "upd") ?_)
  | (show Exs _ _ _ _ ((.Assign [.Tuple _ _ _] _ _ :: _) :: _) _; refine S_unpackL (by walk_at "E") (by walk_at "names") (by walk_at "upds") ?_))
local macro_rules | `(tactic| walk_at "B") => `(tactic| with_reducible first | assumption)
theorem ofs_sp : Str.ofString " " = tx [32] := by decide +kernel
theorem ofs_pm : Str.ofString "+-" = tx [43, 45] := by decide +kernel
theorem ofs_lp : Str.ofString "(" = tx [40] := by decide +kernel
theorem ofs_rp : Str.ofString ")" = tx [41] := by decide +kernel
theorem ofs_pc : Str.ofString "%" = tx [37] := by decide +kernel
theorem ofs_cm : Str.ofString "," = tx [44] := by decide +kernel
theorem ofs_lb : Str.ofString "[" = tx [91] := by decide +kernel
theorem ofs_rb : Str.ofString "]" = tx [93] := by decide +kernel
theorem r_del {I S : List Nat} {c : Nat} {y : Str} (hy : y = tx [c]) (h : del c I = S) : Txt.replace (tx I) y (Str.ofString "") = tx S := by
  rw [hy, ofs_nil, tx_del, h]
theorem z_del {X : List Nat} (hl : X.length ≤ 100000) : (tx X).length + ((tx X).length + 1) * (Str.ofString "").length ≤ 16777216 := z_us hl
abbrev mfsΓ : List Str := ["ValueError", "mpi_from_str_a_b", "from_str", "round_floor", "round_ceiling"]
abbrev mfsL : List Str := ["e", "wp", "x", "y", "percent", "a", "b", "z"]

set_option maxHeartbeats 4000000 in
/-- a text that is a number alone -/
theorem sp_mfs {w : World} {I S : List Nat} {p : Nat} {d1 d2 : PV} (hI : del 32 I = S) (hl : I.length ≤ 1000) (hS : okt S) (hpm : pmf S)
    (F1 : FnSpec w 7 "from_str" [.str (tx S), .int p, .str (rS false)] d1) (F2 : FnSpec w 7 "from_str" [.str (tx S), .int p, .str (rS true)] d2) :
    FnSpec w 11 "mpi_from_str" [.str (tx I), .int p] (pvI d1 d2) := by
  have B := B_err (x := tx I) (by rw [tx_len]; omega)
  have h1 := r_del (I := I) ofs_sp hI
  have h2 := z_del (X := I) (by omega)
  have c1 : CmpV .In (.str (Str.ofString "+-")) (.str (tx S)) false := by
    have := C_in (x := tx S) (y := tx [43, 45])
    rw [tx_pm_no hpm] at this
    rw [ofs_pm]; exact this
  have c2 := c_no ofs_lp (hS.free (c := 40) (by decide))
  have c3 := c_no ofs_cm (hS.free (c := 44) (by decide))
  change FnSpec w 7 "from_str" [.str (tx S), .int p, .str (Str.ofString "f")] d1 at F1
  change FnSpec w 7 "from_str" [.str (tx S), .int p, .str (Str.ofString "c")] d2 at F2
  refine fn_intro (Γ := mfsΓ) 321 (by kernel_rfl) (by rfl) (by kernel_rfl) ["s", "prec"] mfsL [.str (tx I), .int p] (by decide +kernel) rfl ?_ ?_
  · intro s vs ks H ra rk
    refine bindN ra rk fun vs hv => ?_
    match vs, hv with
    | [a, b], _ => exact BindsTo.of_eq (by rfl)
  intro ρ hρ; simp only [envZip_cons, envZip_nil, envZip_nil'] at hρ; subst hρ
  refine S_assignX (X_valueerror (by walk_at "mem") (E_bin (by walk_at "E") (by walk_at "E") B)) (by walk_at "mem") ?_
  walk_at "S"
  refine S_if (by walk_at "T") (fun h => by cases h) (fun _ => ?_)
  refine S_if (by walk_at "T") (fun h => by cases h) (fun _ => ?_)
  refine S_if (by walk_at "T") (fun h => by cases h) (fun _ => ?_)
  walk_at "S"
  walk_at "ret"
  rfl

set_option maxHeartbeats 4000000 in
/-- x +- y -/
theorem sp_mfs_pm {w : World} {I X Y : List Nat} {p : Nat} {d : PV} (hI : del 32 I = X ++ 43 :: 45 :: Y) (hl : I.length ≤ 1000) (hX : okt X) (hY : okt Y) (nX : 43 ∉ X) (nY : 43 ∉ Y) (hl2 : (X ++ 43 :: 45 :: Y).length ≤ 1000)
    (F1 : FnSpec w 10 "mpi_from_str_a_b" [.str (tx X), .str (tx Y), .bool false, .int p] d) :
    FnSpec w 11 "mpi_from_str" [.str (tx I), .int p] d := by
  have B := B_err (x := tx I) (by rw [tx_len]; omega)
  have h1 := r_del (I := I) ofs_sp hI
  have h2 := z_del (X := I) (by omega)
  have c1 : CmpV .In (.str (Str.ofString "+-")) (.str (tx (X ++ 43 :: 45 :: Y))) true := by
    have := C_in (x := tx (X ++ 43 :: 45 :: Y)) (y := tx [43, 45])
    rw [tx_pm_yes] at this
    rw [ofs_pm]; exact this
  have hok : okt (X ++ 43 :: 45 :: Y) := hX.app (.cons (by decide) (.cons (by decide) hY))
  have m1 : Meth1 (Str.ofString "split") (.str (tx (X ++ 43 :: 45 :: Y))) (.str (Str.ofString "+-")) (.list [.str (tx X), .str (tx Y)]) := by
    have := M_split (x := tx (X ++ 43 :: 45 :: Y)) (y := tx [43, 45]) (by rw [tx_len]; unfold sizeLine; omega) rfl
    rw [tx_split_pm nX nY (fun c hc => by have := okc_lt (hok c hc); omega)] at this
    rw [ofs_pm]; exact this
  refine fn_intro (Γ := mfsΓ) 321 (by kernel_rfl) (by rfl) (by kernel_rfl) ["s", "prec"] mfsL [.str (tx I), .int p] (by decide +kernel) rfl ?_ ?_
  · intro s vs ks H ra rk
    refine bindN ra rk fun vs hv => ?_
    match vs, hv with
    | [a, b], _ => exact BindsTo.of_eq (by rfl)
  intro ρ hρ; simp only [envZip_cons, envZip_nil, envZip_nil'] at hρ; subst hρ
  refine S_assignX (X_valueerror (by walk_at "mem") (E_bin (by walk_at "E") (by walk_at "E") B)) (by walk_at "mem") ?_
  walk_at "S"
  refine S_if (by walk_at "T") (fun _ => ?_) (fun h => by cases h)
  walk_at "S"
  walk_at "ret"
  rfl

theorem del_mem_free {c : Nat} {l : List Nat} (h : c ∉ l) : del c l = l := del_none h
set_option maxHeartbeats 4000000 in
/-- x(y) -/
theorem sp_mfs_par {w : World} {I X Y : List Nat} {p : Nat} {d : PV} (hI : del 32 I = X ++ 40 :: (Y ++ [41])) (hl : I.length ≤ 1000) (hX : okt X) (hY : okt Y) (nX : 43 ∉ X) (nY : 43 ∉ Y) (hX1 : X ≠ []) (hl2 : (X ++ 40 :: (Y ++ [41])).length ≤ 1000)
    (F1 : FnSpec w 10 "mpi_from_str_a_b" [.str (tx X), .str (tx Y), .bool false, .int p] d) :
    FnSpec w 11 "mpi_from_str" [.str (tx I), .int p] d := by
  have B := B_err (x := tx I) (by rw [tx_len]; omega)
  have h1 := r_del (I := I) ofs_sp hI
  have h2 := z_del (X := I) (by omega)
  have no : ∀ {c : Nat}, okc c = false → c ≠ 40 → c ≠ 41 → c ∉ X ++ 40 :: (Y ++ [41]) := by
    intro c hc h1 h2 hm
    rcases List.mem_append.mp hm with hm | hm
    · exact hX.free hc hm
    · rcases List.mem_cons.mp hm with hm | hm
      · exact h1 hm
      · rcases List.mem_append.mp hm with hm | hm
        · exact hY.free hc hm
        · exact h2 (List.mem_singleton.mp hm)
  have n43 : 43 ∉ X ++ 40 :: (Y ++ [41]) := by
    intro hm
    rcases List.mem_append.mp hm with hm | hm
    · exact nX hm
    · rcases List.mem_cons.mp hm with hm | hm
      · cases hm
      · rcases List.mem_append.mp hm with hm | hm
        · exact nY hm
        · cases List.mem_singleton.mp hm
  have c1 : CmpV .In (.str (Str.ofString "+-")) (.str (tx (X ++ 40 :: (Y ++ [41])))) false := by
    have := C_in (x := tx (X ++ 40 :: (Y ++ [41]))) (y := tx [43, 45])
    rw [tx_pm_no (pmf_free n43)] at this
    rw [ofs_pm]; exact this
  have c2 := c_yes (X := X ++ 40 :: (Y ++ [41])) ofs_lp (by simp)
  have c3 : CmpV .NotIn (.str (Str.ofString ")")) (.str (tx (X ++ 40 :: (Y ++ [41])))) false := by
    have := C_notin (x := tx (X ++ 40 :: (Y ++ [41]))) (y := tx [41])
    rw [tx_has1, decide_eq_true (by simp)] at this
    rw [ofs_rp]; exact this
  have hd : del 41 (X ++ 40 :: (Y ++ [41])) = X ++ 40 :: Y := by
    rw [del_app, del_none (hX.free (by decide))]
    show X ++ del 41 ([40] ++ (Y ++ [41])) = _
    rw [del_app, del_app, del_none (hY.free (by decide))]
    simp [del]
  have h3 := r_del (I := X ++ 40 :: (Y ++ [41])) ofs_rp hd
  have h4 := z_del (X := X ++ 40 :: (Y ++ [41])) (by omega)
  have c4 := c_no (X := X ++ 40 :: Y) ofs_pc (by
    intro hm
    rcases List.mem_append.mp hm with hm | hm
    · exact hX.free (by decide) hm
    · rcases List.mem_cons.mp hm with hm | hm
      · cases hm
      · exact hY.free (by decide) hm)
  have m1 := m_split2 (a := X) (b := Y) ofs_lp (hX.free (by decide)) (hY.free (by decide)) (by simp at hl2 ⊢; omega)
  obtain ⟨x0, X', rfl⟩ := List.exists_cons_of_ne_nil hX1
  refine fn_intro (Γ := mfsΓ) 321 (by kernel_rfl) (by rfl) (by kernel_rfl) ["s", "prec"] mfsL [.str (tx I), .int p] (by decide +kernel) rfl ?_ ?_
  · intro s vs ks H ra rk
    refine bindN ra rk fun vs hv => ?_
    match vs, hv with
    | [a, b], _ => exact BindsTo.of_eq (by rfl)
  intro ρ hρ; simp only [envZip_cons, envZip_nil, envZip_nil'] at hρ; subst hρ
  refine S_assignX (X_valueerror (by walk_at "mem") (E_bin (by walk_at "E") (by walk_at "E") B)) (by walk_at "mem") ?_
  walk_at "S"
  refine S_if (by walk_at "T") (fun h => by cases h) (fun _ => ?_)
  refine S_if (by walk_at "T") (fun _ => ?_) (fun h => by cases h)
  have ei : ∀ {n : Nat} {ρ : PEnv} {e : Expr} {pp pq : Pos} {k : Nat}, EvE w n mfsΓ ρ e (.str (tx (x0 :: X' ++ 40 :: (Y ++ [41])))) ρ → 
      (∀ o i, subscripted (.Constant (.int 0) k pq) false o i = operate [o, i] (getItem o i)) → (∀ o t r, letTemporaryGo e (.str o t) r = pure ()) →
      EvE w n mfsΓ ρ (.Subscript e (.Constant (.int 0) k pq) pp) (.str (tx [x0])) ρ := by
    intro n ρ e pp pq k he q1 q2
    refine E_eq (E_stritem he E_int (by decide) (by rw [tx_len]; simp; omega) (by rw [tx_len]; simp; omega) q1 q2) ?_
    exact congrArg PyData.str (tx_item (i := 0) (by simp))
  refine S_if (T_bool (A_or (T_cmp (ei (by walk_at "E") (by intros; with_unfolding_all rfl) (by intros; with_unfolding_all rfl)) (by walk_at "E") (by walk_at "C")) (fun _ => A_or (by walk_at "T") (fun _ => A_or0)))) (fun h => ?_) (fun _ => ?_)
  · exfalso
    rw [ofs_lp] at h
    have e1 : (tx [x0] == tx [40]) = false := by
      rw [beq_eq_false_iff_ne]; intro hc
      have := tx_inj hc
      simp at this
      exact hX.free (c := 40) (by decide) (by rw [this]; simp)
    rw [e1] at h; simp at h
  walk_at "S"
  refine S_if (by walk_at "T") (fun h => by cases h) (fun _ => ?_)
  walk_at "S"
  walk_at "ret"
  rfl
end Mine
end

-- WbH
section
namespace Mine
open PySem.Builtin (bitAnd bitXor)
open PySem.Builtin.Int (intBits)
local macro_rules | `(tactic| walk_at "mem") => `(tactic| with_reducible (first | exact List.mem_cons_self | (refine List.mem_cons_of_mem _ ?_; walk_at "mem")))
local macro_rules | `(tactic| walk_at "upd") => `(tactic| with_reducible (first | exact Upd.head | (apply Upd.tail; walk_at "upd")))
local macro_rules | `(tactic| walk_at "upds") => `(tactic| first | exact Upds.nil | exact Upds.cons (by walk_at "upd") (by walk_at "upds"))
local macro_rules | `(tactic| walk_at "names") => `(tactic| first | exact Names.nil | exact Names.cons (by walk_at "names"))
local macro_rules | `(tactic| walk_at "side") => `(tactic| first | assumption | decide | omega)
local macro_rules | `(tactic| walk_at "B") => `(tactic| with_reducible first
  | exact B_add | exact B_sub | (show BinV .Mult _ _ _; exact B_mul (by walk_at "side")) | (show BinV .FloorDiv _ _ _; exact B_fdiv (by walk_at "side") (by walk_at "side")) | (show BinV .Mod _ _ _; exact B_mod (by walk_at "side"))
  | (show BinV .LShift _ _ _; exact B_shl (by walk_at "side") (by walk_at "side")) | (show BinV .RShift _ _ _; exact B_shr (by walk_at "side")) | (show BinV .Pow _ _ _; exact B_pow (by walk_at "side") (by walk_at "side"))
  | exact B_and | exact B_xor | (show BinV .Add (.str _) _ _; exact B_adds (by walk_at "side")))
local macro_rules | `(tactic| walk_at "I") => `(tactic| with_reducible first
  | exact I_add | exact I_sub | (show IBinV .LShift _ _ _; exact I_shl (by walk_at "side") (by walk_at "side")) | (show IBinV .RShift _ _ _; exact I_shr (by walk_at "side")) | exact I_xor | (show IBinV .Add (.str _) _ _; exact I_adds (by walk_at "side")))
local macro_rules | `(tactic| walk_at "C") => `(tactic| with_reducible first
  | exact C_eq | exact C_ne | exact C_lt | exact C_le | exact C_gt | exact C_ge | exact C_eqs | exact C_nes
  | (show CmpV .Eq (.tuple _) (.tuple _) _; exact C_eqd (by with_unfolding_all rfl) (by with_unfolding_all rfl) (by with_unfolding_all exact Nat.le_of_ble_eq_true rfl))
  | (show CmpV .NotEq (.tuple _) (.tuple _) _; exact C_ned (by with_unfolding_all rfl) (by with_unfolding_all rfl) (by with_unfolding_all exact Nat.le_of_ble_eq_true rfl)))
local macro_rules | `(tactic| walk_at "U") => `(tactic| with_reducible first | exact U_neg | (show UnV .Not _ _; exact U_not (by walk_at "R")))
local macro_rules | `(tactic| walk_at "R") => `(tactic| with_reducible first | exact R_int | exact R_bool | (show TruV (.str _) _; exact R_str (by walk_at "side")))
local macro_rules | `(tactic| walk_at "G") => `(tactic| with_reducible first
  | exact gl_fzero | exact gl_zero | exact gl_one | exact gl_near | exact gl_floor | exact gl_ceil | exact gl_up | exact gl_down | exact gl_fnan | exact gl_finf | exact gl_fninf | exact gl_blog | exact gl_digits)
local macro_rules | `(tactic| walk_at "L") => `(tactic| with_reducible first | exact L_nil | (show EvL _ _ _ _ (_ :: _) _ _; exact L_cons (by walk_at "E") (by walk_at "L")))
local macro_rules | `(tactic| walk_at "M0") => `(tactic| with_reducible first | exact M_bitlen | (show Meth0 _ (.str _) _; first | exact M_strip (by walk_at "side") | exact M_lower (by walk_at "side")))
local macro_rules | `(tactic| walk_at "K") => `(tactic| with_reducible first | assumption | exact K_int | exact K_abs | exact K_max | exact K_min | (show CallV (.builtin "len") _ _; exact K_len (by walk_at "side")) | (show CallV (.builtin "divmod") _ _; exact K_divmod (by walk_at "side") (by walk_at "side")))
local macro_rules | `(tactic| walk_at "Ebi") => `(tactic| with_reducible first
  | (show EvE _ _ _ _ (.Call (.Name (Str.ofString "int") _) _ _ _) _ _; exact E_bi bi_int (by walk_at "mem") rfl (by walk_at "L") (by walk_at "K"))
  | (show EvE _ _ _ _ (.Call (.Name (Str.ofString "len") _) _ _ _) _ _; exact E_bi bi_len (by walk_at "mem") rfl (by walk_at "L") (by walk_at "K"))
  | (show EvE _ _ _ _ (.Call (.Name (Str.ofString "abs") _) _ _ _) _ _; exact E_bi bi_abs (by walk_at "mem") rfl (by walk_at "L") (by walk_at "K"))
  | (show EvE _ _ _ _ (.Call (.Name (Str.ofString "max") _) _ _ _) _ _; exact E_bi bi_max (by walk_at "mem") rfl (by walk_at "L") (by walk_at "K"))
  | (show EvE _ _ _ _ (.Call (.Name (Str.ofString "min") _) _ _ _) _ _; exact E_bi bi_min (by walk_at "mem") rfl (by walk_at "L") (by walk_at "K"))
  | (show EvE _ _ _ _ (.Call (.Name (Str.ofString "divmod") _) _ _ _) _ _; exact E_bi bi_divmod (by walk_at "mem") rfl (by walk_at "L") (by walk_at "K"))
  | (show EvE _ _ _ _ (.Call (.Name (Str.ofString "str") _) _ _ _) _ _; exact E_bi bi_str (by walk_at "mem") rfl (by walk_at "L") (by walk_at "K"))
  | (show EvE _ _ _ _ (.Call (.Name (Str.ofString "pow") _) _ _ _) _ _; exact E_bi bi_pow (by walk_at "mem") rfl (by walk_at "L") (by walk_at "K"))
  | (show EvE _ _ _ _ (.Call (.Name (Str.ofString "isinstance") _) _ _ _) _ _; exact E_isint (by walk_at "mem") (by walk_at "mem") (by walk_at "E")))
local macro_rules | `(tactic| walk_at "E") => `(tactic| with_reducible first
  | assumption
  | (show EvE _ _ _ _ (.Name _ _) _ _; first | exact E_name (by walk_at "mem") | exact E_gl (by walk_at "mem") (by walk_at "G"))
  | exact E_int
  | (show EvE _ _ _ _ (.BinOp _ _ _ _) _ _; exact E_bin (by walk_at "E") (by walk_at "E") (by walk_at "B"))
  | exact E_str | exact E_bool | exact E_none
  | (show EvE _ _ _ _ (.UnaryOp _ _ _) _ _; exact E_un (by walk_at "E") (by walk_at "U"))
  | (show EvE _ _ _ _ (.Tuple _ _ _) _ _; exact E_tup (by walk_at "L"))
  | (show EvE _ _ _ _ (.Call (.Name _ _) _ _ _) _ _; first | walk_at "Ebi" | exact E_call (by walk_at "mem") (by walk_at "L") (by assumption))
  | (show EvE _ _ _ _ (.BoolOp .Or [_, _] _) _ _; exact E_orp (by walk_at "E") (by walk_at "side"))
  | (show EvE _ _ _ _ (.Call (.Attribute _ _ _) [] [] _) _ _; exact E_meth0 (by walk_at "E") (by walk_at "M0"))
  | (show EvE _ _ _ _ (.Compare _ [_] [_] _) _ _; exact E_cmp (by walk_at "E") (by walk_at "E") (by walk_at "C")))
local macro_rules | `(tactic| walk_at "T") => `(tactic| with_reducible first
  | assumption
  | (show EvT _ _ _ _ (.UnaryOp .Not _ _) _ _; exact T_not (by walk_at "T")) | (show EvT _ _ _ _ (.Compare _ [_] [_] _) _ _; exact T_cmp (by walk_at "E") (by walk_at "E") (by walk_at "C"))
  | (show EvT _ _ _ _ (.Compare _ [_, _] [_, _] _) _ _; exact T_chain (by walk_at "E") (by walk_at "E") (by walk_at "C") (fun _ => by walk_at "E") (fun _ => by walk_at "C"))
  | (show EvT _ _ _ _ (.BoolOp _ _ _) _ _; exact T_bool (by walk_at "A")) | exact T_val (by walk_at "E") (by walk_at "R"))
local macro_rules | `(tactic| walk_at "A") => `(tactic| with_reducible first
  | exact A_and0 | exact A_or0 | (show EvA _ _ _ _ .And _ _ _; exact A_and (by walk_at "T") (fun _ => by walk_at "A")) | exact A_or (by walk_at "T") (fun _ => by walk_at "A"))
local macro_rules | `(tactic| walk_at "S1") => `(tactic| with_reducible first
  | refine S_pop ?_
  | (show Exs _ _ _ _ ((.Assign [.Name _ _] _ _ :: _) :: _) _; refine S_assign (by walk_at "E") (by walk_at "upd") ?_)
  | (show Exs _ _ _ _ ((.AugAssign _ _ _ _ :: _) :: _) _; refine S_aug (by walk_at "mem") (by walk_at "E") (by walk_at "I") (by walk_at "upd") ?_)
  | (show Exs _ _ _ _ ((.Assign [.Tuple _ _ _] _ _ :: _) :: _) _; refine S_unpack (by walk_at "E") (by walk_at "names") (by walk_at "upds") ?_))
local macro_rules | `(tactic| walk_at "S") => `(tactic| repeat walk_at "S1")
local macro_rules | `(tactic| walk_at "ret") => `(tactic| (with_reducible show Exs _ _ _ _ ((.Return _ _ :: _) :: _) _; with_reducible apply S_ret'; walk_at "E"))
local macro_rules | `(tactic| walk_at "weak") => `(tactic| with_reducible first | exact Weak.nil | (apply Weak.skip; walk_at "weak") | (apply Weak.same; walk_at "weak") | (apply Weak.keep; rotate_left; walk_at "weak"))
local macro_rules | `(tactic| walk_at "end") => `(tactic| ((repeat (with_reducible refine S_pop ?_)); with_reducible apply S_end'; walk_at "weak"))
local macro_rules | `(tactic| walk_at "weak") => `(tactic| with_reducible first | exact Weak.nil | (apply Weak.skip; walk_at "weak") | (apply Weak.same; walk_at "weak") | (apply Weak.keep; rotate_left; walk_at "weak"))
local macro_rules | `(tactic| walk_at "end") => `(tactic| ((repeat (with_reducible refine S_pop ?_)); with_reducible apply S_end'; walk_at "weak"))
local macro_rules | `(tactic| walk_at "M1") => `(tactic| with_reducible first | assumption)
local macro_rules | `(tactic| walk_at "M0") => `(tactic| with_reducible first | assumption)
local macro_rules | `(tactic| walk_at "C") => `(tactic| with_reducible first | assumption)
local macro_rules | `(tactic| walk_at "E") => `(tactic| with_reducible first
  | (show EvE _ _ _ _ (.Call (.Attribute _ _ _) [.Constant _ _ _, .Constant _ _ _] [] _) _ _; exact E_replace' (by walk_at "E") (by assumption) (by decide +kernel) (by walk_at "side"))
  | (show EvE _ _ _ _ (.Call (.Attribute _ _ _) [_] [] _) _ _; exact E_meth1 (by walk_at "E") (by walk_at "E") (by walk_at "M1"))
  | (show EvE _ _ _ _ (.NamedExpr (.Name _ _) _ _) _ _; exact E_named (by walk_at "E") (by walk_at "upd"))
  | (show EvE _ _ _ _ (.Subscript _ (.Constant (.int _) _ _) _) _ _; exact E_listitem (by walk_at "E") (by walk_at "E") (by decide) (by decide) (by with_unfolding_all exact rfl)))
local macro_rules | `(tactic| walk_at "S1") => `(tactic| with_reducible first
  | (show Exs _ _ _ _ ((.Assign [.Tuple [.Name _ _, .Name _ _] _ _] (.Tuple [_, _] _ _) _ :: _) :: _) _; refine S_swap2 (by walk_at "L") (by walk_at "upd") (by walk_at "upd") ?_)
  | (show Exs _ _ _ _ ((.Assign [.Tuple [.Name _ _, .Name _ _, .Name _ _] _ _] (.Tuple [_, _, _] _ _) _ :: _) :: _) _; refine S_swap3 (by walk_at "L") (by walk_at "upd") (by walk_at "upd") (by walk_at "upd") ?_)
  | (show Exs _ _ _ _ ((.Assign [.Tuple _ _ _] _ _ :: _) :: _) _; refine S_unpackL (by walk_at "E") (by walk_at "names") (by walk_at "upds") ?_))
local macro_rules | `(tactic| walk_at "B") => `(tactic| with_reducible first | assumption)
theorem E_first {w : World} {n : Nat} {Γ : List Str} {ρ : PEnv} {e : Expr} {pp pq : Pos} {k : Nat} {x0 : Nat} {l : List Nat} (he : EvE w n Γ ρ e (.str (tx l)) ρ) (hl : l[0]? = some x0)
    (q1 : ∀ o i, subscripted (.Constant (.int 0) k pq) false o i = operate [o, i] (getItem o i) := by intros; with_unfolding_all rfl) (q2 : ∀ o t r, letTemporaryGo e (.str o t) r = pure () := by intros; with_unfolding_all rfl) :
    EvE w n Γ ρ (.Subscript e (.Constant (.int 0) k pq) pp) (.str (tx [x0])) ρ := by
  have h0 : 0 < l.length := (List.getElem?_eq_some_iff.mp hl).1
  refine E_eq (E_stritem he E_int (by decide) (by rw [tx_len]; omega) (by rw [tx_len]; omega) q1 q2) ?_
  exact congrArg PyData.str (tx_item (i := 0) hl)
theorem E_last {w : World} {n : Nat} {Γ : List Str} {ρ : PEnv} {e m : Expr} {pp : Pos} {c : Nat} {l : List Nat} (he : EvE w n Γ ρ e (.str (tx l)) ρ) (hm : EvE w n Γ ρ m (.int (-1)) ρ) (hl : l.getLast? = some c)
    (q1 : ∀ o i, subscripted m false o i = operate [o, i] (getItem o i) := by intros; with_unfolding_all rfl) (q2 : ∀ o t r, letTemporaryGo e (.str o t) r = pure () := by intros; with_unfolding_all rfl) :
    EvE w n Γ ρ (.Subscript e m pp) (.str (tx [c])) ρ := by
  have : 0 < l.length := by cases l with | nil => simp at hl | cons => simp
  refine E_eq (E_stritem he hm (by decide) (by rw [tx_len]; omega) (by rw [tx_len]; omega) q1 q2) ?_
  exact congrArg PyData.str (tx_item_neg hl)

set_option maxHeartbeats 4000000 in
/-- x(y%) -/
theorem sp_mfs_pct {w : World} {I X Y : List Nat} {p : Nat} {d : PV} (hI : del 32 I = X ++ 40 :: (Y ++ [37, 41])) (hl : I.length ≤ 1000) (hX : okt X) (hY : okt Y) (nX : 43 ∉ X) (nY : 43 ∉ Y) (hX1 : X ≠ []) (hl2 : (X ++ 40 :: (Y ++ [37, 41])).length ≤ 1000)
    (F1 : FnSpec w 10 "mpi_from_str_a_b" [.str (tx X), .str (tx Y), .bool true, .int p] d) :
    FnSpec w 11 "mpi_from_str" [.str (tx I), .int p] d := by
  have B := B_err (x := tx I) (by rw [tx_len]; omega)
  have h1 := r_del (I := I) ofs_sp hI
  have h2 := z_del (X := I) (by omega)
  have n43 : 43 ∉ X ++ 40 :: (Y ++ [37, 41]) := by
    intro hm
    rcases List.mem_append.mp hm with hm | hm
    · exact nX hm
    · rcases List.mem_cons.mp hm with hm | hm
      · cases hm
      · rcases List.mem_append.mp hm with hm | hm
        · exact nY hm
        · simp at hm
  have c1 : CmpV .In (.str (Str.ofString "+-")) (.str (tx (X ++ 40 :: (Y ++ [37, 41])))) false := by
    have := C_in (x := tx (X ++ 40 :: (Y ++ [37, 41]))) (y := tx [43, 45])
    rw [tx_pm_no (pmf_free n43)] at this
    rw [ofs_pm]; exact this
  have c2 := c_yes (X := X ++ 40 :: (Y ++ [37, 41])) ofs_lp (by simp)
  have c3 : CmpV .NotIn (.str (Str.ofString ")")) (.str (tx (X ++ 40 :: (Y ++ [37, 41])))) false := by
    have := C_notin (x := tx (X ++ 40 :: (Y ++ [37, 41]))) (y := tx [41])
    rw [tx_has1, decide_eq_true (by simp)] at this
    rw [ofs_rp]; exact this
  have hd : del 41 (X ++ 40 :: (Y ++ [37, 41])) = X ++ 40 :: (Y ++ [37]) := by
    rw [del_app, del_none (hX.free (by decide))]
    show X ++ del 41 ([40] ++ (Y ++ [37, 41])) = _
    rw [del_app, del_app, del_none (hY.free (by decide))]
    simp [del]
  have hd2 : del 37 (X ++ 40 :: (Y ++ [37])) = X ++ 40 :: Y := by
    rw [del_app, del_none (hX.free (by decide))]
    show X ++ del 37 ([40] ++ (Y ++ [37])) = _
    rw [del_app, del_app, del_none (hY.free (by decide))]
    simp [del]
  have h3 := r_del (I := X ++ 40 :: (Y ++ [37, 41])) ofs_rp hd
  have h4 := z_del (X := X ++ 40 :: (Y ++ [37, 41])) (by omega)
  have h5 := r_del (I := X ++ 40 :: (Y ++ [37])) ofs_pc hd2
  have h6 := z_del (X := X ++ 40 :: (Y ++ [37])) (by (simp at hl2 ⊢) <;> omega)
  have c4 := c_yes (X := X ++ 40 :: (Y ++ [37])) ofs_pc (by simp)
  have hlast : (X ++ 40 :: (Y ++ [37])).getLast? = some 37 := last_app (last_cons (last_app rfl))
  have m1 := m_split2 (a := X) (b := Y) ofs_lp (hX.free (by decide)) (hY.free (by decide)) (by (simp at hl2 ⊢) <;> omega)
  obtain ⟨x0, X', rfl⟩ := List.exists_cons_of_ne_nil hX1
  refine fn_intro (Γ := mfsΓ) 321 (by kernel_rfl) (by rfl) (by kernel_rfl) ["s", "prec"] mfsL [.str (tx I), .int p] (by decide +kernel) rfl ?_ ?_
  · intro s vs ks H ra rk
    refine bindN ra rk fun vs hv => ?_
    match vs, hv with
    | [a, b], _ => exact BindsTo.of_eq (by rfl)
  intro ρ hρ; simp only [envZip_cons, envZip_nil, envZip_nil'] at hρ; subst hρ
  refine S_assignX (X_valueerror (by walk_at "mem") (E_bin (by walk_at "E") (by walk_at "E") B)) (by walk_at "mem") ?_
  walk_at "S"
  refine S_if (by walk_at "T") (fun h => by cases h) (fun _ => ?_)
  refine S_if (by walk_at "T") (fun _ => ?_) (fun h => by cases h)
  refine S_if (T_bool (A_or (T_cmp (E_first (x0 := x0) (by walk_at "E") rfl) (by walk_at "E") (by walk_at "C")) (fun _ => A_or (by walk_at "T") (fun _ => A_or0)))) (fun h => ?_) (fun _ => ?_)
  · exfalso
    rw [ofs_lp] at h
    have e1 : (tx [x0] == tx [40]) = false := by
      rw [beq_eq_false_iff_ne]; intro hc
      have := tx_inj hc
      simp at this
      exact hX.free (c := 40) (by decide) (by rw [this]; simp)
    rw [e1] at h; simp at h
  walk_at "S"
  refine S_if (by walk_at "T") (fun _ => ?_) (fun h => by cases h)
  refine S_if (T_cmp (E_last (by walk_at "E") (by walk_at "E") hlast) (by walk_at "E") (by walk_at "C")) (fun h => ?_) (fun _ => ?_)
  · exfalso
    rw [ofs_pc] at h
    simp at h
  walk_at "S"
  walk_at "ret"
  rfl

set_option maxHeartbeats 4000000 in
/-- [x, y] -/
theorem sp_mfs_br {w : World} {I X Y : List Nat} {p : Nat} {d1 d2 : PV} (hI : del 32 I = 91 :: (X ++ 44 :: (Y ++ [93]))) (hl : I.length ≤ 1000) (hX : okt X) (hY : okt Y) (nX : pmf X) (nY : pmf Y) (lX : X.getLast? ≠ some 43) (lY : Y.getLast? ≠ some 43) (hl2 : (X ++ 44 :: Y).length ≤ 900)
    (F1 : FnSpec w 7 "from_str" [.str (tx X), .int p, .str (rS false)] d1) (F2 : FnSpec w 7 "from_str" [.str (tx Y), .int p, .str (rS true)] d2) :
    FnSpec w 11 "mpi_from_str" [.str (tx I), .int p] (pvI d1 d2) := by
  have B := B_err (x := tx I) (by rw [tx_len]; omega)
  have h1 := r_del (I := I) ofs_sp hI
  have h2 := z_del (X := I) (by omega)
  have hp : pmf (91 :: (X ++ 44 :: (Y ++ [93]))) := by
    refine pmf.app (a := [91]) (by decide) (pmf.app2 nX lX (pmf.app (a := [44]) (by decide) (pmf.app2 nY lY (pmf_free (by decide)))))
  have c1 : CmpV .In (.str (Str.ofString "+-")) (.str (tx (91 :: (X ++ 44 :: (Y ++ [93]))))) false := by
    have := C_in (x := tx (91 :: (X ++ 44 :: (Y ++ [93])))) (y := tx [43, 45])
    rw [tx_pm_no hp] at this
    rw [ofs_pm]; exact this
  have c2 := c_no (X := 91 :: (X ++ 44 :: (Y ++ [93]))) ofs_lp (by
    intro hm
    rcases List.mem_cons.mp hm with hm | hm
    · cases hm
    · rcases List.mem_append.mp hm with hm | hm
      · exact hX.free (by decide) hm
      · rcases List.mem_cons.mp hm with hm | hm
        · cases hm
        · rcases List.mem_append.mp hm with hm | hm
          · exact hY.free (by decide) hm
          · simp at hm)
  have c3 := c_yes (X := 91 :: (X ++ 44 :: (Y ++ [93]))) ofs_cm (by simp)
  have c4 : CmpV .NotIn (.str (Str.ofString "[")) (.str (tx (91 :: (X ++ 44 :: (Y ++ [93]))))) false := by
    have := C_notin (x := tx (91 :: (X ++ 44 :: (Y ++ [93])))) (y := tx [91])
    rw [tx_has1, decide_eq_true (by simp)] at this
    rw [ofs_lb]; exact this
  have c5 : CmpV .NotIn (.str (Str.ofString "]")) (.str (tx (91 :: (X ++ 44 :: (Y ++ [93]))))) false := by
    have := C_notin (x := tx (91 :: (X ++ 44 :: (Y ++ [93])))) (y := tx [93])
    rw [tx_has1, decide_eq_true (by simp)] at this
    rw [ofs_rb]; exact this
  have hd : del 91 (91 :: (X ++ 44 :: (Y ++ [93]))) = X ++ 44 :: (Y ++ [93]) := by
    show del 91 ([91] ++ (X ++ ([44] ++ (Y ++ [93])))) = _
    rw [del_app, del_app, del_app, del_app, del_none (hX.free (by decide)), del_none (hY.free (by decide))]
    simp [del]
  have hd2 : del 93 (X ++ 44 :: (Y ++ [93])) = X ++ 44 :: Y := by
    show del 93 (X ++ ([44] ++ (Y ++ [93]))) = _
    rw [del_app, del_app, del_app, del_none (hX.free (by decide)), del_none (hY.free (by decide))]
    simp [del]
  have h3 := r_del (I := 91 :: (X ++ 44 :: (Y ++ [93]))) ofs_lb hd
  have h4 := z_del (X := 91 :: (X ++ 44 :: (Y ++ [93]))) (by (simp at hl2 ⊢) <;> omega)
  have h5 := r_del (I := X ++ 44 :: (Y ++ [93])) ofs_rb hd2
  have h6 := z_del (X := X ++ 44 :: (Y ++ [93])) (by (simp at hl2 ⊢) <;> omega)
  have m1 := m_split2 (a := X) (b := Y) ofs_cm (hX.free (by decide)) (hY.free (by decide)) (by (simp at hl2 ⊢) <;> omega)
  change FnSpec w 7 "from_str" [.str (tx X), .int p, .str (Str.ofString "f")] d1 at F1
  change FnSpec w 7 "from_str" [.str (tx Y), .int p, .str (Str.ofString "c")] d2 at F2
  refine fn_intro (Γ := mfsΓ) 321 (by kernel_rfl) (by rfl) (by kernel_rfl) ["s", "prec"] mfsL [.str (tx I), .int p] (by decide +kernel) rfl ?_ ?_
  · intro s vs ks H ra rk
    refine bindN ra rk fun vs hv => ?_
    match vs, hv with
    | [a, b], _ => exact BindsTo.of_eq (by rfl)
  intro ρ hρ; simp only [envZip_cons, envZip_nil, envZip_nil'] at hρ; subst hρ
  refine S_assignX (X_valueerror (by walk_at "mem") (E_bin (by walk_at "E") (by walk_at "E") B)) (by walk_at "mem") ?_
  walk_at "S"
  refine S_if (by walk_at "T") (fun h => by cases h) (fun _ => ?_)
  refine S_if (by walk_at "T") (fun h => by cases h) (fun _ => ?_)
  refine S_if (by walk_at "T") (fun _ => ?_) (fun h => by cases h)
  refine S_if (by walk_at "T") (fun h => by cases h) (fun _ => ?_)
  refine S_if (T_eq (b₂ := true) (T_cmp (E_first (x0 := 91) (by walk_at "E") rfl) (by walk_at "E") (by walk_at "C")) (by rw [ofs_lb]; simp)) (fun _ => ?_) (fun h => by cases h)
  walk_at "S"
  walk_at "ret"
  rfl
end Mine
end

-- WcA
section
namespace Mine
open PySem.Builtin (bitAnd bitXor)
open PySem.Builtin.Int (intBits)
local macro_rules | `(tactic| walk_at "mem") => `(tactic| with_reducible (first | exact List.mem_cons_self | (refine List.mem_cons_of_mem _ ?_; walk_at "mem")))
local macro_rules | `(tactic| walk_at "upd") => `(tactic| with_reducible (first | exact Upd.head | (apply Upd.tail; walk_at "upd")))
local macro_rules | `(tactic| walk_at "upds") => `(tactic| first | exact Upds.nil | exact Upds.cons (by walk_at "upd") (by walk_at "upds"))
local macro_rules | `(tactic| walk_at "names") => `(tactic| first | exact Names.nil | exact Names.cons (by walk_at "names"))
local macro_rules | `(tactic| walk_at "side") => `(tactic| first | assumption | decide | omega)
local macro_rules | `(tactic| walk_at "B") => `(tactic| with_reducible first
  | exact B_add | exact B_sub | (show BinV .Mult _ _ _; exact B_mul (by walk_at "side")) | (show BinV .FloorDiv _ _ _; exact B_fdiv (by walk_at "side") (by walk_at "side")) | (show BinV .Mod _ _ _; exact B_mod (by walk_at "side"))
  | (show BinV .LShift _ _ _; exact B_shl (by walk_at "side") (by walk_at "side")) | (show BinV .RShift _ _ _; exact B_shr (by walk_at "side")) | (show BinV .Pow _ _ _; exact B_pow (by walk_at "side") (by walk_at "side"))
  | exact B_and | exact B_xor | (show BinV .Add (.str _) _ _; exact B_adds (by walk_at "side")))
local macro_rules | `(tactic| walk_at "I") => `(tactic| with_reducible first
  | exact I_add | exact I_sub | (show IBinV .LShift _ _ _; exact I_shl (by walk_at "side") (by walk_at "side")) | (show IBinV .RShift _ _ _; exact I_shr (by walk_at "side")) | exact I_xor | (show IBinV .Add (.str _) _ _; exact I_adds (by walk_at "side")))
local macro_rules | `(tactic| walk_at "C") => `(tactic| with_reducible first
  | exact C_eq | exact C_ne | exact C_lt | exact C_le | exact C_gt | exact C_ge | exact C_eqs | exact C_nes
  | (show CmpV .Eq (.tuple _) (.tuple _) _; exact C_eqd (by with_unfolding_all rfl) (by with_unfolding_all rfl) (by with_unfolding_all exact Nat.le_of_ble_eq_true rfl))
  | (show CmpV .NotEq (.tuple _) (.tuple _) _; exact C_ned (by with_unfolding_all rfl) (by with_unfolding_all rfl) (by with_unfolding_all exact Nat.le_of_ble_eq_true rfl)))
local macro_rules | `(tactic| walk_at "U") => `(tactic| with_reducible first | exact U_neg | (show UnV .Not _ _; exact U_not (by walk_at "R")))
local macro_rules | `(tactic| walk_at "R") => `(tactic| with_reducible first | exact R_int | exact R_bool | (show TruV (.str _) _; exact R_str (by walk_at "side")))
local macro_rules | `(tactic| walk_at "G") => `(tactic| with_reducible first
  | exact gl_fzero | exact gl_zero | exact gl_one | exact gl_near | exact gl_floor | exact gl_ceil | exact gl_up | exact gl_down | exact gl_fnan | exact gl_finf | exact gl_fninf | exact gl_blog | exact gl_digits)
local macro_rules | `(tactic| walk_at "L") => `(tactic| with_reducible first | exact L_nil | (show EvL _ _ _ _ (_ :: _) _ _; exact L_cons (by walk_at "E") (by walk_at "L")))
local macro_rules | `(tactic| walk_at "M0") => `(tactic| with_reducible first | exact M_bitlen | (show Meth0 _ (.str _) _; first | exact M_strip (by walk_at "side") | exact M_lower (by walk_at "side")))
local macro_rules | `(tactic| walk_at "K") => `(tactic| with_reducible first | assumption | exact K_int | exact K_abs | exact K_max | exact K_min | (show CallV (.builtin "len") _ _; exact K_len (by walk_at "side")) | (show CallV (.builtin "divmod") _ _; exact K_divmod (by walk_at "side") (by walk_at "side")))
local macro_rules | `(tactic| walk_at "Ebi") => `(tactic| with_reducible first
  | (show EvE _ _ _ _ (.Call (.Name (Str.ofString "int") _) _ _ _) _ _; exact E_bi bi_int (by walk_at "mem") rfl (by walk_at "L") (by walk_at "K"))
  | (show EvE _ _ _ _ (.Call (.Name (Str.ofString "len") _) _ _ _) _ _; exact E_bi bi_len (by walk_at "mem") rfl (by walk_at "L") (by walk_at "K"))
  | (show EvE _ _ _ _ (.Call (.Name (Str.ofString "abs") _) _ _ _) _ _; exact E_bi bi_abs (by walk_at "mem") rfl (by walk_at "L") (by walk_at "K"))
  | (show EvE _ _ _ _ (.Call (.Name (Str.ofString "max") _) _ _ _) _ _; exact E_bi bi_max (by walk_at "mem") rfl (by walk_at "L") (by walk_at "K"))
  | (show EvE _ _ _ _ (.Call (.Name (Str.ofString "min") _) _ _ _) _ _; exact E_bi bi_min (by walk_at "mem") rfl (by walk_at "L") (by walk_at "K"))
  | (show EvE _ _ _ _ (.Call (.Name (Str.ofString "divmod") _) _ _ _) _ _; exact E_bi bi_divmod (by walk_at "mem") rfl (by walk_at "L") (by walk_at "K"))
  | (show EvE _ _ _ _ (.Call (.Name (Str.ofString "str") _) _ _ _) _ _; exact E_bi bi_str (by walk_at "mem") rfl (by walk_at "L") (by walk_at "K"))
  | (show EvE _ _ _ _ (.Call (.Name (Str.ofString "pow") _) _ _ _) _ _; exact E_bi bi_pow (by walk_at "mem") rfl (by walk_at "L") (by walk_at "K"))
  | (show EvE _ _ _ _ (.Call (.Name (Str.ofString "isinstance") _) _ _ _) _ _; exact E_isint (by walk_at "mem") (by walk_at "mem") (by walk_at "E")))
local macro_rules | `(tactic| walk_at "E") => `(tactic| with_reducible first
  | assumption
  | (show EvE _ _ _ _ (.Name _ _) _ _; first | exact E_name (by walk_at "mem") | exact E_gl (by walk_at "mem") (by walk_at "G"))
  | exact E_int
  | (show EvE _ _ _ _ (.BinOp _ _ _ _) _ _; exact E_bin (by walk_at "E") (by walk_at "E") (by walk_at "B"))
  | exact E_str | exact E_bool | exact E_none
  | (show EvE _ _ _ _ (.UnaryOp _ _ _) _ _; exact E_un (by walk_at "E") (by walk_at "U"))
  | (show EvE _ _ _ _ (.Tuple _ _ _) _ _; exact E_tup (by walk_at "L"))
  | (show EvE _ _ _ _ (.Call (.Name _ _) _ _ _) _ _; first | walk_at "Ebi" | exact E_call (by walk_at "mem") (by walk_at "L") (by assumption))
  | (show EvE _ _ _ _ (.BoolOp .Or [_, _] _) _ _; exact E_orp (by walk_at "E") (by walk_at "side"))
  | (show EvE _ _ _ _ (.Call (.Attribute _ _ _) [] [] _) _ _; exact E_meth0 (by walk_at "E") (by walk_at "M0"))
  | (show EvE _ _ _ _ (.Compare _ [_] [_] _) _ _; exact E_cmp (by walk_at "E") (by walk_at "E") (by walk_at "C")))
local macro_rules | `(tactic| walk_at "T") => `(tactic| with_reducible first
  | assumption
  | (show EvT _ _ _ _ (.UnaryOp .Not _ _) _ _; exact T_not (by walk_at "T")) | (show EvT _ _ _ _ (.Compare _ [_] [_] _) _ _; exact T_cmp (by walk_at "E") (by walk_at "E") (by walk_at "C"))
  | (show EvT _ _ _ _ (.Compare _ [_, _] [_, _] _) _ _; exact T_chain (by walk_at "E") (by walk_at "E") (by walk_at "C") (fun _ => by walk_at "E") (fun _ => by walk_at "C"))
  | (show EvT _ _ _ _ (.BoolOp _ _ _) _ _; exact T_bool (by walk_at "A")) | exact T_val (by walk_at "E") (by walk_at "R"))
local macro_rules | `(tactic| walk_at "A") => `(tactic| with_reducible first
  | exact A_and0 | exact A_or0 | (show EvA _ _ _ _ .And _ _ _; exact A_and (by walk_at "T") (fun _ => by walk_at "A")) | exact A_or (by walk_at "T") (fun _ => by walk_at "A"))
local macro_rules | `(tactic| walk_at "S1") => `(tactic| with_reducible first
  | refine S_pop ?_
  | (show Exs _ _ _ _ ((.Assign [.Name _ _] _ _ :: _) :: _) _; refine S_assign (by walk_at "E") (by walk_at "upd") ?_)
  | (show Exs _ _ _ _ ((.AugAssign _ _ _ _ :: _) :: _) _; refine S_aug (by walk_at "mem") (by walk_at "E") (by walk_at "I") (by walk_at "upd") ?_)
  | (show Exs _ _ _ _ ((.Assign [.Tuple _ _ _] _ _ :: _) :: _) _; refine S_unpack (by walk_at "E") (by walk_at "names") (by walk_at "upds") ?_))
local macro_rules | `(tactic| walk_at "S") => `(tactic| repeat walk_at "S1")
local macro_rules | `(tactic| walk_at "ret") => `(tactic| (with_reducible show Exs _ _ _ _ ((.Return _ _ :: _) :: _) _; with_reducible apply S_ret'; walk_at "E"))
local macro_rules | `(tactic| walk_at "weak") => `(tactic| with_reducible first | exact Weak.nil | (apply Weak.skip; walk_at "weak") | (apply Weak.same; walk_at "weak") | (apply Weak.keep; rotate_left; walk_at "weak"))
local macro_rules | `(tactic| walk_at "end") => `(tactic| ((repeat (with_reducible refine S_pop ?_)); with_reducible apply S_end'; walk_at "weak"))
local macro_rules | `(tactic| walk_at "weak") => `(tactic| with_reducible first | exact Weak.nil | (apply Weak.skip; walk_at "weak") | (apply Weak.same; walk_at "weak") | (apply Weak.keep; rotate_left; walk_at "weak"))
local macro_rules | `(tactic| walk_at "end") => `(tactic| ((repeat (with_reducible refine S_pop ?_)); with_reducible apply S_end'; walk_at "weak"))
local macro_rules | `(tactic| walk_at "M1") => `(tactic| with_reducible first | assumption)
local macro_rules | `(tactic| walk_at "M0") => `(tactic| with_reducible first | assumption)
local macro_rules | `(tactic| walk_at "C") => `(tactic| with_reducible first | assumption)
local macro_rules | `(tactic| walk_at "E") => `(tactic| with_reducible first
  | (show EvE _ _ _ _ (.Call (.Attribute _ _ _) [.Constant _ _ _, .Constant _ _ _] [] _) _ _; exact E_replace' (by walk_at "E") (by assumption) (by decide +kernel) (by walk_at "side"))
  | (show EvE _ _ _ _ (.Call (.Attribute _ _ _) [_] [] _) _ _; exact E_meth1 (by walk_at "E") (by walk_at "E") (by walk_at "M1"))
  | (show EvE _ _ _ _ (.NamedExpr (.Name _ _) _ _) _ _; exact E_named (by walk_at "E") (by walk_at "upd"))
  | (show EvE _ _ _ _ (.Subscript _ (.Constant (.int _) _ _) _) _ _; exact E_listitem (by walk_at "E") (by walk_at "E") (by decide) (by decide) (by with_unfolding_all exact rfl)))
local macro_rules | `(tactic| walk_at "S1") => `(tactic| with_reducible first
  | (show Exs _ _ _ _ ((.Assign [.Tuple [.Name _ _, .Name _ _] _ _] (.Tuple [_, _] _ _) _ :: _) :: _) _; refine S_swap2 (by walk_at "L") (by walk_at "upd") (by walk_at "upd") ?_)
  | (show Exs _ _ _ _ ((.Assign [.Tuple [.Name _ _, .Name _ _, .Name _ _] _ _] (.Tuple [_, _, _] _ _) _ :: _) :: _) _; refine S_swap3 (by walk_at "L") (by walk_at "upd") (by walk_at "upd") (by walk_at "upd") ?_)
  | (show Exs _ _ _ _ ((.Assign [.Tuple _ _ _] _ _ :: _) :: _) _; refine S_unpackL (by walk_at "E") (by walk_at "names") (by walk_at "upds") ?_))
local macro_rules | `(tactic| walk_at "B") => `(tactic| with_reducible first | assumption)
theorem sp_dps {w : World} {n : Int} (h0 : 0 ≤ n) (h1 : n ≤ 1000) : ∃ d : Int, d = (if 1 < (2 * n * 10 ^ 16 + 33219280948873626).fdiv (2 * 33219280948873626) - 1 then (2 * n * 10 ^ 16 + 33219280948873626).fdiv (2 * 33219280948873626) - 1 else 1) ∧ FnSpec w 1 "prec_to_dps" [.int n] (.int d) := by
  refine ⟨_, rfl, ?_⟩
  have p1 : BinV .Pow (.int 10) (.int 16) (.int (10 ^ 16)) := B_pow (a := 10) (b := 16) (by decide) (by rw [bits10]; decide)
  have p2 : BinV .Mult (.int 2) (.int n) (.int (2 * n)) := B_mul (.of_left (by decide +kernel))
  have p3 : BinV .Mult (.int (2 * n)) (.int (10 ^ 16)) (.int (2 * n * 10 ^ 16)) := B_mul (.of_right (by decide +kernel))
  have p4 : BinV .Mult (.int 2) (.int 33219280948873626) (.int (2 * 33219280948873626)) := B_mul (.of_left (by decide +kernel))
  have p5 : BinV .FloorDiv (.int (2 * n * 10 ^ 16 + 33219280948873626)) (.int (2 * 33219280948873626)) (.int ((2 * n * 10 ^ 16 + 33219280948873626).fdiv (2 * 33219280948873626))) := B_fdiv (by decide) (by decide +kernel)
  refine fn_intro (Γ := ["max", "int", "blog2_10"]) 51 (by kernel_rfl) (by rfl) (by kernel_rfl) ["n"] [] [.int n] (by decide +kernel) rfl ?_ ?_
  · intro s vs ks H ra rk
    refine bindN ra rk fun vs hv => ?_
    match vs, hv with
    | [a], _ => exact BindsTo.of_eq (by rfl)
  intro ρ hρ; simp only [envZip_cons, envZip_nil, envZip_nil'] at hρ; subst hρ
  refine S_ret' (E_bi bi_max (by walk_at "mem") rfl (L_cons (by walk_at "E") (L_cons (E_bin (E_bin (E_bin (E_bin (E_bin (by walk_at "E") (by walk_at "E") p2) (E_bin (by walk_at "E") (by walk_at "E") p1) p3) (by walk_at "E") B_add) (E_bin (by walk_at "E") (by walk_at "E") p4) p5) (by walk_at "E") B_sub) L_nil)) K_max) rfl
theorem sp_btr {w : World} {x xb bd : Int} (hx : 0 ≤ xb) (hb : 0 ≤ bd) (h2 : bd ≤ 1000) (hx2 : intBits x ≤ 10000) : FnSpec w 1 "bin_to_radix" [.int x, .int xb, .int 10, .int bd] (.int ((x * 10 ^ bd.toNat).fdiv (2 ^ xb.toNat))) := by
  have p1 : BinV .Pow (.int 10) (.int bd) (.int (10 ^ bd.toNat)) := B_pow hb (by rw [bits10]; omega)
  have p2 : BinV .Mult (.int x) (.int (10 ^ bd.toNat)) (.int (x * 10 ^ bd.toNat)) := B_mul (.of_bits (by omega) (Nat.le_trans (bits_of (k := 4000) (by
    have e : (10 ^ bd.toNat : Int).natAbs = 10 ^ bd.toNat := by rw [Int.natAbs_pow]; rfl
    rw [e]
    exact Nat.lt_of_le_of_lt (Nat.pow_le_pow_right (by decide) (show bd.toNat ≤ 1000 by omega)) (by decide +kernel))) (by decide)))
  have p3 : BinV .RShift (.int (x * 10 ^ bd.toNat)) (.int xb) (.int ((x * 10 ^ bd.toNat).fdiv (2 ^ xb.toNat))) := B_shr hx
  refine fn_intro (Γ := ["int"]) 28 (by kernel_rfl) (by rfl) (by kernel_rfl) ["x", "xbits", "base", "bdigits"] [] [.int x, .int xb, .int 10, .int bd] (by decide +kernel) rfl ?_ ?_
  · intro s vs ks H ra rk
    refine bindN ra rk fun vs hv => ?_
    match vs, hv with
    | [a, b, c, d], _ => exact BindsTo.of_eq (by rfl)
  intro ρ hρ; simp only [envZip_cons, envZip_nil, envZip_nil'] at hρ; subst hρ
  exact S_ret' (E_bin (E_bin (by walk_at "E") (E_bin (by walk_at "E") (by walk_at "E") p1) p2) (by walk_at "E") p3) rfl
end Mine
end

-- WcB
section
namespace Mine
open PySem.Builtin (bitAnd bitXor)
open PySem.Builtin.Int (intBits)
local macro_rules | `(tactic| walk_at "mem") => `(tactic| with_reducible (first | exact List.mem_cons_self | (refine List.mem_cons_of_mem _ ?_; walk_at "mem")))
local macro_rules | `(tactic| walk_at "upd") => `(tactic| with_reducible (first | exact Upd.head | (apply Upd.tail; walk_at "upd")))
local macro_rules | `(tactic| walk_at "upds") => `(tactic| first | exact Upds.nil | exact Upds.cons (by walk_at "upd") (by walk_at "upds"))
local macro_rules | `(tactic| walk_at "names") => `(tactic| first | exact Names.nil | exact Names.cons (by walk_at "names"))
local macro_rules | `(tactic| walk_at "side") => `(tactic| first | assumption | decide | omega)
local macro_rules | `(tactic| walk_at "B") => `(tactic| with_reducible first
  | exact B_add | exact B_sub | (show BinV .Mult _ _ _; exact B_mul (by walk_at "side")) | (show BinV .FloorDiv _ _ _; exact B_fdiv (by walk_at "side") (by walk_at "side")) | (show BinV .Mod _ _ _; exact B_mod (by walk_at "side"))
  | (show BinV .LShift _ _ _; exact B_shl (by walk_at "side") (by walk_at "side")) | (show BinV .RShift _ _ _; exact B_shr (by walk_at "side")) | (show BinV .Pow _ _ _; exact B_pow (by walk_at "side") (by walk_at "side"))
  | exact B_and | exact B_xor | (show BinV .Add (.str _) _ _; exact B_adds (by walk_at "side")))
local macro_rules | `(tactic| walk_at "I") => `(tactic| with_reducible first
  | exact I_add | exact I_sub | (show IBinV .LShift _ _ _; exact I_shl (by walk_at "side") (by walk_at "side")) | (show IBinV .RShift _ _ _; exact I_shr (by walk_at "side")) | exact I_xor | (show IBinV .Add (.str _) _ _; exact I_adds (by walk_at "side")))
local macro_rules | `(tactic| walk_at "C") => `(tactic| with_reducible first
  | exact C_eq | exact C_ne | exact C_lt | exact C_le | exact C_gt | exact C_ge | exact C_eqs | exact C_nes
  | (show CmpV .Eq (.tuple _) (.tuple _) _; exact C_eqd (by with_unfolding_all rfl) (by with_unfolding_all rfl) (by with_unfolding_all exact Nat.le_of_ble_eq_true rfl))
  | (show CmpV .NotEq (.tuple _) (.tuple _) _; exact C_ned (by with_unfolding_all rfl) (by with_unfolding_all rfl) (by with_unfolding_all exact Nat.le_of_ble_eq_true rfl)))
local macro_rules | `(tactic| walk_at "U") => `(tactic| with_reducible first | exact U_neg | (show UnV .Not _ _; exact U_not (by walk_at "R")))
local macro_rules | `(tactic| walk_at "R") => `(tactic| with_reducible first | exact R_int | exact R_bool | (show TruV (.str _) _; exact R_str (by walk_at "side")))
local macro_rules | `(tactic| walk_at "G") => `(tactic| with_reducible first
  | exact gl_fzero | exact gl_zero | exact gl_one | exact gl_near | exact gl_floor | exact gl_ceil | exact gl_up | exact gl_down | exact gl_fnan | exact gl_finf | exact gl_fninf | exact gl_blog | exact gl_digits)
local macro_rules | `(tactic| walk_at "L") => `(tactic| with_reducible first | exact L_nil | (show EvL _ _ _ _ (_ :: _) _ _; exact L_cons (by walk_at "E") (by walk_at "L")))
local macro_rules | `(tactic| walk_at "M0") => `(tactic| with_reducible first | exact M_bitlen | (show Meth0 _ (.str _) _; first | exact M_strip (by walk_at "side") | exact M_lower (by walk_at "side")))
local macro_rules | `(tactic| walk_at "K") => `(tactic| with_reducible first | assumption | exact K_int | exact K_abs | exact K_max | exact K_min | (show CallV (.builtin "len") _ _; exact K_len (by walk_at "side")) | (show CallV (.builtin "divmod") _ _; exact K_divmod (by walk_at "side") (by walk_at "side")))
local macro_rules | `(tactic| walk_at "Ebi") => `(tactic| with_reducible first
  | (show EvE _ _ _ _ (.Call (.Name (Str.ofString "int") _) _ _ _) _ _; exact E_bi bi_int (by walk_at "mem") rfl (by walk_at "L") (by walk_at "K"))
  | (show EvE _ _ _ _ (.Call (.Name (Str.ofString "len") _) _ _ _) _ _; exact E_bi bi_len (by walk_at "mem") rfl (by walk_at "L") (by walk_at "K"))
  | (show EvE _ _ _ _ (.Call (.Name (Str.ofString "abs") _) _ _ _) _ _; exact E_bi bi_abs (by walk_at "mem") rfl (by walk_at "L") (by walk_at "K"))
  | (show EvE _ _ _ _ (.Call (.Name (Str.ofString "max") _) _ _ _) _ _; exact E_bi bi_max (by walk_at "mem") rfl (by walk_at "L") (by walk_at "K"))
  | (show EvE _ _ _ _ (.Call (.Name (Str.ofString "min") _) _ _ _) _ _; exact E_bi bi_min (by walk_at "mem") rfl (by walk_at "L") (by walk_at "K"))
  | (show EvE _ _ _ _ (.Call (.Name (Str.ofString "divmod") _) _ _ _) _ _; exact E_bi bi_divmod (by walk_at "mem") rfl (by walk_at "L") (by walk_at "K"))
  | (show EvE _ _ _ _ (.Call (.Name (Str.ofString "str") _) _ _ _) _ _; exact E_bi bi_str (by walk_at "mem") rfl (by walk_at "L") (by walk_at "K"))
  | (show EvE _ _ _ _ (.Call (.Name (Str.ofString "pow") _) _ _ _) _ _; exact E_bi bi_pow (by walk_at "mem") rfl (by walk_at "L") (by walk_at "K"))
  | (show EvE _ _ _ _ (.Call (.Name (Str.ofString "isinstance") _) _ _ _) _ _; exact E_isint (by walk_at "mem") (by walk_at "mem") (by walk_at "E")))
local macro_rules | `(tactic| walk_at "E") => `(tactic| with_reducible first
  | assumption
  | (show EvE _ _ _ _ (.Name _ _) _ _; first | exact E_name (by walk_at "mem") | exact E_gl (by walk_at "mem") (by walk_at "G"))
  | exact E_int
  | (show EvE _ _ _ _ (.BinOp _ _ _ _) _ _; exact E_bin (by walk_at "E") (by walk_at "E") (by walk_at "B"))
  | exact E_str | exact E_bool | exact E_none
  | (show EvE _ _ _ _ (.UnaryOp _ _ _) _ _; exact E_un (by walk_at "E") (by walk_at "U"))
  | (show EvE _ _ _ _ (.Tuple _ _ _) _ _; exact E_tup (by walk_at "L"))
  | (show EvE _ _ _ _ (.Call (.Name _ _) _ _ _) _ _; first | walk_at "Ebi" | exact E_call (by walk_at "mem") (by walk_at "L") (by assumption))
  | (show EvE _ _ _ _ (.BoolOp .Or [_, _] _) _ _; exact E_orp (by walk_at "E") (by walk_at "side"))
  | (show EvE _ _ _ _ (.Call (.Attribute _ _ _) [] [] _) _ _; exact E_meth0 (by walk_at "E") (by walk_at "M0"))
  | (show EvE _ _ _ _ (.Compare _ [_] [_] _) _ _; exact E_cmp (by walk_at "E") (by walk_at "E") (by walk_at "C")))
local macro_rules | `(tactic| walk_at "T") => `(tactic| with_reducible first
  | assumption
  | (show EvT _ _ _ _ (.UnaryOp .Not _ _) _ _; exact T_not (by walk_at "T")) | (show EvT _ _ _ _ (.Compare _ [_] [_] _) _ _; exact T_cmp (by walk_at "E") (by walk_at "E") (by walk_at "C"))
  | (show EvT _ _ _ _ (.Compare _ [_, _] [_, _] _) _ _; exact T_chain (by walk_at "E") (by walk_at "E") (by walk_at "C") (fun _ => by walk_at "E") (fun _ => by walk_at "C"))
  | (show EvT _ _ _ _ (.BoolOp _ _ _) _ _; exact T_bool (by walk_at "A")) | exact T_val (by walk_at "E") (by walk_at "R"))
local macro_rules | `(tactic| walk_at "A") => `(tactic| with_reducible first
  | exact A_and0 | exact A_or0 | (show EvA _ _ _ _ .And _ _ _; exact A_and (by walk_at "T") (fun _ => by walk_at "A")) | exact A_or (by walk_at "T") (fun _ => by walk_at "A"))
local macro_rules | `(tactic| walk_at "S1") => `(tactic| with_reducible first
  | refine S_pop ?_
  | (show Exs _ _ _ _ ((.Assign [.Name _ _] _ _ :: _) :: _) _; refine S_assign (by walk_at "E") (by walk_at "upd") ?_)
  | (show Exs _ _ _ _ ((.AugAssign _ _ _ _ :: _) :: _) _; refine S_aug (by walk_at "mem") (by walk_at "E") (by walk_at "I") (by walk_at "upd") ?_)
  | (show Exs _ _ _ _ ((.Assign [.Tuple _ _ _] _ _ :: _) :: _) _; refine S_unpack (by walk_at "E") (by walk_at "names") (by walk_at "upds") ?_))
local macro_rules | `(tactic| walk_at "S") => `(tactic| repeat walk_at "S1")
local macro_rules | `(tactic| walk_at "ret") => `(tactic| (with_reducible show Exs _ _ _ _ ((.Return _ _ :: _) :: _) _; with_reducible apply S_ret'; walk_at "E"))
local macro_rules | `(tactic| walk_at "weak") => `(tactic| with_reducible first | exact Weak.nil | (apply Weak.skip; walk_at "weak") | (apply Weak.same; walk_at "weak") | (apply Weak.keep; rotate_left; walk_at "weak"))
local macro_rules | `(tactic| walk_at "end") => `(tactic| ((repeat (with_reducible refine S_pop ?_)); with_reducible apply S_end'; walk_at "weak"))
local macro_rules | `(tactic| walk_at "weak") => `(tactic| with_reducible first | exact Weak.nil | (apply Weak.skip; walk_at "weak") | (apply Weak.same; walk_at "weak") | (apply Weak.keep; rotate_left; walk_at "weak"))
local macro_rules | `(tactic| walk_at "end") => `(tactic| ((repeat (with_reducible refine S_pop ?_)); with_reducible apply S_end'; walk_at "weak"))
local macro_rules | `(tactic| walk_at "M1") => `(tactic| with_reducible first | assumption)
local macro_rules | `(tactic| walk_at "M0") => `(tactic| with_reducible first | assumption)
local macro_rules | `(tactic| walk_at "C") => `(tactic| with_reducible first | assumption)
local macro_rules | `(tactic| walk_at "E") => `(tactic| with_reducible first
  | (show EvE _ _ _ _ (.Call (.Attribute _ _ _) [.Constant _ _ _, .Constant _ _ _] [] _) _ _; exact E_replace' (by walk_at "E") (by assumption) (by decide +kernel) (by walk_at "side"))
  | (show EvE _ _ _ _ (.Call (.Attribute _ _ _) [_] [] _) _ _; exact E_meth1 (by walk_at "E") (by walk_at "E") (by walk_at "M1"))
  | (show EvE _ _ _ _ (.NamedExpr (.Name _ _) _ _) _ _; exact E_named (by walk_at "E") (by walk_at "upd"))
  | (show EvE _ _ _ _ (.Subscript _ (.Constant (.int _) _ _) _) _ _; exact E_listitem (by walk_at "E") (by walk_at "E") (by decide) (by decide) (by with_unfolding_all exact rfl)))
local macro_rules | `(tactic| walk_at "S1") => `(tactic| with_reducible first
  | (show Exs _ _ _ _ ((.Assign [.Tuple [.Name _ _, .Name _ _] _ _] (.Tuple [_, _] _ _) _ :: _) :: _) _; refine S_swap2 (by walk_at "L") (by walk_at "upd") (by walk_at "upd") ?_)
  | (show Exs _ _ _ _ ((.Assign [.Tuple [.Name _ _, .Name _ _, .Name _ _] _ _] (.Tuple [_, _, _] _ _) _ :: _) :: _) _; refine S_swap3 (by walk_at "L") (by walk_at "upd") (by walk_at "upd") (by walk_at "upd") ?_)
  | (show Exs _ _ _ _ ((.Assign [.Tuple _ _ _] _ _ :: _) :: _) _; refine S_unpackL (by walk_at "E") (by walk_at "names") (by walk_at "upds") ?_))
local macro_rules | `(tactic| walk_at "B") => `(tactic| with_reducible first | assumption)
abbrev std : Str := Str.ofString "0123456789abcdefghijklmnopqrstuvwxyz"
theorem sp_small {w : World} {n : Nat} (hn : n < 10 ^ 300) : FnSpec w 1 "small_numeral" [.int n, .int 10, .str std] (.str (tx (ntx n))) := by
  have k1 : CallV (.type "str") [.int (n : Int)] (.str (tx (ntx n))) := by
    have := K_str (i := (n : Int)) (by
      have h2 : (n : Int).natAbs < 2 ^ 1000 := Nat.lt_of_lt_of_le hn (by decide +kernel)
      have := Nat.log2_lt (n := (n : Int).natAbs) (k := 1000)
      by_cases h0 : (n : Int).natAbs = 0
      · rw [h0]; decide
      · have := (this h0).mpr h2; omega)
    rwa [str_nat] at this
  refine fn_intro (Γ := ["str", "divmod"]) 36 (by kernel_rfl) (by rfl) (by kernel_rfl) ["n", "base", "digits"] ["digs", "digit"] [.int n, .int 10, .str std] (by decide +kernel) rfl ?_ ?_
  · intro s vs ks H ra rk
    refine bindN ra rk fun vs hv => ?_
    match vs, hv with
    | [a, b, c], _ => exact binds_K (K := KK w) H.K rfl (by rfl) rfl rfl rfl
  intro ρ hρ; simp only [envZip_cons, envZip_nil, envZip_nil'] at hρ; subst hρ
  refine S_if (by walk_at "T") (fun _ => ?_) (fun h => absurd h (by decide))
  walk_at "ret"
  rfl
theorem sp_numeral {w : World} {n : Nat} {k : Int} (h0 : 0 < n) (hn : n < 10 ^ 300) (hk : k < 250) : FnSpec w 2 "numeral" [.int n] (.str (tx (ntx n))) [("base", .int 10), ("size", .int k)] := by
  have F1 := sp_small (w := w) hn
  refine fn_intro (Γ := ["numeral", "small_numeral", "divmod"]) 44 (by kernel_rfl) (by rfl) (by kernel_rfl) ["n", "base", "size", "digits"] ["half", "A", "B", "ad", "bd"] [.int n, .int 10, .int k, .str std] (by decide +kernel) rfl ?_ ?_
  · intro s vs ks H ra rk
    obtain ⟨v, rfl, r⟩ := repAll1 ra
    obtain ⟨v1, v2, rfl, r1, r2⟩ := repAll2 rk
    exact ⟨[v, v1, v2, .str std _], binds_K (K := KK w) H.K rfl (by rfl) rfl rfl rfl, .cons r (.cons r1 (.cons r2 (.cons rep_str .nil)))⟩
  intro ρ hρ; simp only [envZip_cons, envZip_nil, envZip_nil'] at hρ; subst hρ
  refine S_if (by walk_at "T") (fun h => absurd (of_decide_eq_true h) (by omega)) (fun _ => ?_)
  refine S_if (by walk_at "T") (fun _ => ?_) (fun h => absurd (of_decide_eq_false h) (by omega))
  walk_at "ret"
  rfl
theorem sp_fixed {w : World} {z e : Int} {p : Int} (hz : 0 < z) (ho : 0 ≤ e + p) (ho2 : e + p ≤ 100000) (hb : intBits z ≤ 10000) : FnSpec w 1 "to_fixed" [pvM z e, .int p] (.int (z * 2 ^ (e + p).toNat)) := by
  have e1 : sg z = 0 := if_neg (by omega)
  have e2 : (z.natAbs : Int) = z := by omega
  have p1 : BinV .LShift (.int z.natAbs) (.int (e + p)) (.int (z.natAbs * 2 ^ (e + p).toNat)) := B_shl ho (by rw [bl_abs]; omega)
  refine fn_intro (Γ := []) 107 (by kernel_rfl) (by rfl) (by kernel_rfl) ["s", "prec"] ["sign", "man", "exp", "bc", "offset"] [pvM z e, .int p] (by decide +kernel) rfl ?_ ?_
  · intro s vs ks H ra rk
    refine bindN ra rk fun vs hv => ?_
    match vs, hv with
    | [a, b], _ => exact BindsTo.of_eq (by rfl)
  intro ρ hρ; simp only [envZip_cons, envZip_nil, envZip_nil'] at hρ; subst hρ
  walk_at "S"
  refine S_if (by walk_at "T") (fun h => absurd h (by rw [e1]; decide)) (fun _ => ?_)
  refine S_if (by walk_at "T") (fun _ => ?_) (fun h => absurd (of_decide_eq_false h) (by omega))
  refine S_ret' (E_bin (by walk_at "E") (by walk_at "E") p1) ?_
  rw [e2]
end Mine
end

-- WcC
section
namespace Mine
open PySem.Builtin (bitAnd bitXor)
open PySem.Builtin.Int (intBits)
local macro_rules | `(tactic| walk_at "mem") => `(tactic| with_reducible (first | exact List.mem_cons_self | (refine List.mem_cons_of_mem _ ?_; walk_at "mem")))
local macro_rules | `(tactic| walk_at "upd") => `(tactic| with_reducible (first | exact Upd.head | (apply Upd.tail; walk_at "upd")))
local macro_rules | `(tactic| walk_at "upds") => `(tactic| first | exact Upds.nil | exact Upds.cons (by walk_at "upd") (by walk_at "upds"))
local macro_rules | `(tactic| walk_at "names") => `(tactic| first | exact Names.nil | exact Names.cons (by walk_at "names"))
local macro_rules | `(tactic| walk_at "side") => `(tactic| first | assumption | decide | omega)
local macro_rules | `(tactic| walk_at "B") => `(tactic| with_reducible first
  | exact B_add | exact B_sub | (show BinV .Mult _ _ _; exact B_mul (by walk_at "side")) | (show BinV .FloorDiv _ _ _; exact B_fdiv (by walk_at "side") (by walk_at "side")) | (show BinV .Mod _ _ _; exact B_mod (by walk_at "side"))
  | (show BinV .LShift _ _ _; exact B_shl (by walk_at "side") (by walk_at "side")) | (show BinV .RShift _ _ _; exact B_shr (by walk_at "side")) | (show BinV .Pow _ _ _; exact B_pow (by walk_at "side") (by walk_at "side"))
  | exact B_and | exact B_xor | (show BinV .Add (.str _) _ _; exact B_adds (by walk_at "side")))
local macro_rules | `(tactic| walk_at "I") => `(tactic| with_reducible first
  | exact I_add | exact I_sub | (show IBinV .LShift _ _ _; exact I_shl (by walk_at "side") (by walk_at "side")) | (show IBinV .RShift _ _ _; exact I_shr (by walk_at "side")) | exact I_xor | (show IBinV .Add (.str _) _ _; exact I_adds (by walk_at "side")))
local macro_rules | `(tactic| walk_at "C") => `(tactic| with_reducible first
  | exact C_eq | exact C_ne | exact C_lt | exact C_le | exact C_gt | exact C_ge | exact C_eqs | exact C_nes
  | (show CmpV .Eq (.tuple _) (.tuple _) _; exact C_eqd (by with_unfolding_all rfl) (by with_unfolding_all rfl) (by with_unfolding_all exact Nat.le_of_ble_eq_true rfl))
  | (show CmpV .NotEq (.tuple _) (.tuple _) _; exact C_ned (by with_unfolding_all rfl) (by with_unfolding_all rfl) (by with_unfolding_all exact Nat.le_of_ble_eq_true rfl)))
local macro_rules | `(tactic| walk_at "U") => `(tactic| with_reducible first | exact U_neg | (show UnV .Not _ _; exact U_not (by walk_at "R")))
local macro_rules | `(tactic| walk_at "R") => `(tactic| with_reducible first | exact R_int | exact R_bool | (show TruV (.str _) _; exact R_str (by walk_at "side")))
local macro_rules | `(tactic| walk_at "G") => `(tactic| with_reducible first
  | exact gl_fzero | exact gl_zero | exact gl_one | exact gl_near | exact gl_floor | exact gl_ceil | exact gl_up | exact gl_down | exact gl_fnan | exact gl_finf | exact gl_fninf | exact gl_blog | exact gl_digits)
local macro_rules | `(tactic| walk_at "L") => `(tactic| with_reducible first | exact L_nil | (show EvL _ _ _ _ (_ :: _) _ _; exact L_cons (by walk_at "E") (by walk_at "L")))
local macro_rules | `(tactic| walk_at "M0") => `(tactic| with_reducible first | exact M_bitlen | (show Meth0 _ (.str _) _; first | exact M_strip (by walk_at "side") | exact M_lower (by walk_at "side")))
local macro_rules | `(tactic| walk_at "K") => `(tactic| with_reducible first | assumption | exact K_int | exact K_abs | exact K_max | exact K_min | (show CallV (.builtin "len") _ _; exact K_len (by walk_at "side")) | (show CallV (.builtin "divmod") _ _; exact K_divmod (by walk_at "side") (by walk_at "side")))
local macro_rules | `(tactic| walk_at "Ebi") => `(tactic| with_reducible first
  | (show EvE _ _ _ _ (.Call (.Name (Str.ofString "int") _) _ _ _) _ _; exact E_bi bi_int (by walk_at "mem") rfl (by walk_at "L") (by walk_at "K"))
  | (show EvE _ _ _ _ (.Call (.Name (Str.ofString "len") _) _ _ _) _ _; exact E_bi bi_len (by walk_at "mem") rfl (by walk_at "L") (by walk_at "K"))
  | (show EvE _ _ _ _ (.Call (.Name (Str.ofString "abs") _) _ _ _) _ _; exact E_bi bi_abs (by walk_at "mem") rfl (by walk_at "L") (by walk_at "K"))
  | (show EvE _ _ _ _ (.Call (.Name (Str.ofString "max") _) _ _ _) _ _; exact E_bi bi_max (by walk_at "mem") rfl (by walk_at "L") (by walk_at "K"))
  | (show EvE _ _ _ _ (.Call (.Name (Str.ofString "min") _) _ _ _) _ _; exact E_bi bi_min (by walk_at "mem") rfl (by walk_at "L") (by walk_at "K"))
  | (show EvE _ _ _ _ (.Call (.Name (Str.ofString "divmod") _) _ _ _) _ _; exact E_bi bi_divmod (by walk_at "mem") rfl (by walk_at "L") (by walk_at "K"))
  | (show EvE _ _ _ _ (.Call (.Name (Str.ofString "str") _) _ _ _) _ _; exact E_bi bi_str (by walk_at "mem") rfl (by walk_at "L") (by walk_at "K"))
  | (show EvE _ _ _ _ (.Call (.Name (Str.ofString "pow") _) _ _ _) _ _; exact E_bi bi_pow (by walk_at "mem") rfl (by walk_at "L") (by walk_at "K"))
  | (show EvE _ _ _ _ (.Call (.Name (Str.ofString "isinstance") _) _ _ _) _ _; exact E_isint (by walk_at "mem") (by walk_at "mem") (by walk_at "E")))
local macro_rules | `(tactic| walk_at "E") => `(tactic| with_reducible first
  | assumption
  | (show EvE _ _ _ _ (.Name _ _) _ _; first | exact E_name (by walk_at "mem") | exact E_gl (by walk_at "mem") (by walk_at "G"))
  | exact E_int
  | (show EvE _ _ _ _ (.BinOp _ _ _ _) _ _; exact E_bin (by walk_at "E") (by walk_at "E") (by walk_at "B"))
  | exact E_str | exact E_bool | exact E_none
  | (show EvE _ _ _ _ (.UnaryOp _ _ _) _ _; exact E_un (by walk_at "E") (by walk_at "U"))
  | (show EvE _ _ _ _ (.Tuple _ _ _) _ _; exact E_tup (by walk_at "L"))
  | (show EvE _ _ _ _ (.Call (.Name _ _) _ _ _) _ _; first | walk_at "Ebi" | exact E_call (by walk_at "mem") (by walk_at "L") (by assumption))
  | (show EvE _ _ _ _ (.BoolOp .Or [_, _] _) _ _; exact E_orp (by walk_at "E") (by walk_at "side"))
  | (show EvE _ _ _ _ (.Call (.Attribute _ _ _) [] [] _) _ _; exact E_meth0 (by walk_at "E") (by walk_at "M0"))
  | (show EvE _ _ _ _ (.Compare _ [_] [_] _) _ _; exact E_cmp (by walk_at "E") (by walk_at "E") (by walk_at "C")))
local macro_rules | `(tactic| walk_at "T") => `(tactic| with_reducible first
  | assumption
  | (show EvT _ _ _ _ (.UnaryOp .Not _ _) _ _; exact T_not (by walk_at "T")) | (show EvT _ _ _ _ (.Compare _ [_] [_] _) _ _; exact T_cmp (by walk_at "E") (by walk_at "E") (by walk_at "C"))
  | (show EvT _ _ _ _ (.Compare _ [_, _] [_, _] _) _ _; exact T_chain (by walk_at "E") (by walk_at "E") (by walk_at "C") (fun _ => by walk_at "E") (fun _ => by walk_at "C"))
  | (show EvT _ _ _ _ (.BoolOp _ _ _) _ _; exact T_bool (by walk_at "A")) | exact T_val (by walk_at "E") (by walk_at "R"))
local macro_rules | `(tactic| walk_at "A") => `(tactic| with_reducible first
  | exact A_and0 | exact A_or0 | (show EvA _ _ _ _ .And _ _ _; exact A_and (by walk_at "T") (fun _ => by walk_at "A")) | exact A_or (by walk_at "T") (fun _ => by walk_at "A"))
local macro_rules | `(tactic| walk_at "S1") => `(tactic| with_reducible first
  | refine S_pop ?_
  | (show Exs _ _ _ _ ((.Assign [.Name _ _] _ _ :: _) :: _) _; refine S_assign (by walk_at "E") (by walk_at "upd") ?_)
  | (show Exs _ _ _ _ ((.AugAssign _ _ _ _ :: _) :: _) _; refine S_aug (by walk_at "mem") (by walk_at "E") (by walk_at "I") (by walk_at "upd") ?_)
  | (show Exs _ _ _ _ ((.Assign [.Tuple _ _ _] _ _ :: _) :: _) _; refine S_unpack (by walk_at "E") (by walk_at "names") (by walk_at "upds") ?_))
local macro_rules | `(tactic| walk_at "S") => `(tactic| repeat walk_at "S1")
local macro_rules | `(tactic| walk_at "ret") => `(tactic| (with_reducible show Exs _ _ _ _ ((.Return _ _ :: _) :: _) _; with_reducible apply S_ret'; walk_at "E"))
local macro_rules | `(tactic| walk_at "weak") => `(tactic| with_reducible first | exact Weak.nil | (apply Weak.skip; walk_at "weak") | (apply Weak.same; walk_at "weak") | (apply Weak.keep; rotate_left; walk_at "weak"))
local macro_rules | `(tactic| walk_at "end") => `(tactic| ((repeat (with_reducible refine S_pop ?_)); with_reducible apply S_end'; walk_at "weak"))
local macro_rules | `(tactic| walk_at "weak") => `(tactic| with_reducible first | exact Weak.nil | (apply Weak.skip; walk_at "weak") | (apply Weak.same; walk_at "weak") | (apply Weak.keep; rotate_left; walk_at "weak"))
local macro_rules | `(tactic| walk_at "end") => `(tactic| ((repeat (with_reducible refine S_pop ?_)); with_reducible apply S_end'; walk_at "weak"))
local macro_rules | `(tactic| walk_at "M1") => `(tactic| with_reducible first | assumption)
local macro_rules | `(tactic| walk_at "M0") => `(tactic| with_reducible first | assumption)
local macro_rules | `(tactic| walk_at "C") => `(tactic| with_reducible first | assumption)
local macro_rules | `(tactic| walk_at "E") => `(tactic| with_reducible first
  | (show EvE _ _ _ _ (.Call (.Attribute _ _ _) [.Constant _ _ _, .Constant _ _ _] [] _) _ _; exact E_replace' (by walk_at "E") (by assumption) (by decide +kernel) (by walk_at "side"))
  | (show EvE _ _ _ _ (.Call (.Attribute _ _ _) [_] [] _) _ _; exact E_meth1 (by walk_at "E") (by walk_at "E") (by walk_at "M1"))
  | (show EvE _ _ _ _ (.NamedExpr (.Name _ _) _ _) _ _; exact E_named (by walk_at "E") (by walk_at "upd"))
  | (show EvE _ _ _ _ (.Subscript _ (.Constant (.int _) _ _) _) _ _; exact E_listitem (by walk_at "E") (by walk_at "E") (by decide) (by decide) (by with_unfolding_all exact rfl)))
local macro_rules | `(tactic| walk_at "S1") => `(tactic| with_reducible first
  | (show Exs _ _ _ _ ((.Assign [.Tuple [.Name _ _, .Name _ _] _ _] (.Tuple [_, _] _ _) _ :: _) :: _) _; refine S_swap2 (by walk_at "L") (by walk_at "upd") (by walk_at "upd") ?_)
  | (show Exs _ _ _ _ ((.Assign [.Tuple [.Name _ _, .Name _ _, .Name _ _] _ _] (.Tuple [_, _, _] _ _) _ :: _) :: _) _; refine S_swap3 (by walk_at "L") (by walk_at "upd") (by walk_at "upd") (by walk_at "upd") ?_)
  | (show Exs _ _ _ _ ((.Assign [.Tuple _ _ _] _ _ :: _) :: _) _; refine S_unpackL (by walk_at "E") (by walk_at "names") (by walk_at "upds") ?_))
local macro_rules | `(tactic| walk_at "B") => `(tactic| with_reducible first | assumption)
abbrev blg : Int := 33219280948873626
/-- the sign in front of a text -/
theorem ofs_mi : Str.ofString "-" = tx [45] := by decide +kernel
theorem bits_blg : (intBits blg : Int) ≤ 64 := by decide +kernel

set_option maxHeartbeats 4000000 in
theorem sp_tde {w : World} {z e k f F : Int} {sb : Nat} (hc : Can z e) (hz : z ≠ 0) (hk0 : 0 ≤ k) (hk : k < 250) (hbz : intBits z ≤ 1000) (he : -1000 ≤ e ∧ e ≤ 1000)
    (hf : f = (k * blg).fdiv (10 ^ 16) + 10 - e - intBits z) (hf0 : 0 ≤ f) (hf1 : f ≤ 1000) (ho : 0 ≤ e + f) (hF : F = (2 * f * 10 ^ 16 + blg).fdiv (2 * blg)) (hF0 : 0 ≤ F) (hF1 : F ≤ 1000)
    (hsb : ((z.natAbs : Int) * 2 ^ (e + f).toNat * 10 ^ F.toNat).fdiv (2 ^ f.toNat) = sb) (h0 : 0 < sb) (h1 : sb < 10 ^ 300) (hb2 : intBits ((z.natAbs : Int) * 2 ^ (e + f).toNat) ≤ 10000) :
    FnSpec w 3 "to_digits_exp" [pvM z e, .int k, .int 10] (.tuple [.str (tx (sgt (decide (z < 0)))), .str (tx (ntx sb)), .int ((ntx sb).length - F - 1)]) := by
  have F1 := sp_neg (w := w) hc
  have F2 := sp_fixed (w := w) (z := z.natAbs) (e := e) (p := f) (by omega) ho (by omega) (by rw [bl_abs]; omega)
  have F3 := sp_btr (w := w) (x := (z.natAbs : Int) * 2 ^ (e + f).toNat) (xb := f) (bd := F) hf0 hF0 hF1 hb2
  rw [hsb] at F3
  have F4 := sp_numeral (w := w) (n := sb) (k := k) h0 h1 hk
  have p1 : BinV .Pow (.int 10) (.int 16) (.int (10 ^ 16)) := B_pow (a := 10) (b := 16) (by decide) (by rw [bits10]; decide)
  have p2 : BinV .Mult (.int k) (.int blg) (.int (k * blg)) := B_mul (.of_right (by decide +kernel))
  have p3 : BinV .FloorDiv (.int (k * blg)) (.int (10 ^ 16)) (.int ((k * blg).fdiv (10 ^ 16))) := B_fdiv (by decide) (by decide +kernel)
  have p4 : BinV .Mult (.int 2) (.int f) (.int (2 * f)) := B_mul (.of_left (by decide +kernel))
  have p5 : BinV .Mult (.int (2 * f)) (.int (10 ^ 16)) (.int (2 * f * 10 ^ 16)) := B_mul (.of_right (by decide +kernel))
  have p6 : BinV .Mult (.int 2) (.int blg) (.int (2 * blg)) := B_mul (.of_left (by decide +kernel))
  have p7 : BinV .FloorDiv (.int (2 * f * 10 ^ 16 + blg)) (.int (2 * blg)) (.int F) := hF ▸ B_fdiv (by decide) (by decide +kernel)
  refine fn_intro (Γ := ["mpf_neg", "int", "blog2_10", "pow", "NotImplementedError", "abs", "max", "to_fixed", "bin_to_radix", "numeral", "len"]) 222 (by kernel_rfl) (by rfl) (by kernel_rfl) ["s", "dps", "base"] ["sign", "_sign", "man", "exp", "bc", "blog2", "unit", "bitprec", "exp_from_1", "exponent", "fixprec", "fixdps", "sf", "sb", "digits"]
    [pvM z e, .int k, .int 10] (by decide +kernel) rfl ?_ ?_
  · intro s vs ks H ra rk
    refine bindN ra rk fun vs hv => ?_
    match vs, hv with
    | [a, b, c], _ => exact binds_K (K := KK w) H.K rfl (by rfl) rfl rfl rfl
  intro ρ hρ; simp only [envZip_cons, envZip_nil, envZip_nil'] at hρ; subst hρ
  refine S_join (ρ₁ := [("s", some (pvM z.natAbs e)), ("dps", some (.int k)), ("base", some (.int 10)), ("sign", some (.str (tx (sgt (decide (z < 0)))))), ("_sign", none), ("man", none), ("exp", none), ("bc", none), ("blog2", none), ("unit", none), ("bitprec", none), ("exp_from_1", none), ("exponent", none), ("fixprec", none), ("fixdps", none), ("sf", none), ("sb", none), ("digits", none)]) ?_ ?_
  · refine S_if (T_val (E_tupitem (by walk_at "E") (by walk_at "E") (by decide) (by decide) (j := 0) rfl rfl) R_int) (fun h => ?_) (fun h => ?_)
    · have hneg : z < 0 := by
        by_cases hn : z < 0
        · exact hn
        · rw [show sg z = 0 from if_neg hn] at h; cases h
      walk_at "S"
      walk_at "end"
      · have : (z.natAbs : Int) = -z := by omega
        rw [this]
      · rw [decide_eq_true hneg]; exact congrArg PyData.str ofs_mi
    · have hneg : ¬ z < 0 := by
        intro hn
        rw [show sg z = 1 from if_pos hn] at h; cases h
      walk_at "S"
      walk_at "end"
      · have : (z.natAbs : Int) = z := by omega
        rw [this]
      · rw [decide_eq_false hneg]; exact congrArg PyData.str ofs_nil
  walk_at "S"
  have e1 : ((z.natAbs : Int).natAbs : Int) = z.natAbs := rfl
  refine S_if (T_eq (b₂ := false) (by walk_at "T") (by simp; omega)) (fun h => by cases h) (fun _ => ?_)
  refine S_if (by walk_at "T") (fun _ => ?_) (fun h => absurd h (by decide))
  walk_at "S"
  refine S_if (T_eq (b₂ := false) (T_bool (A_and (by walk_at "T") (fun _ => A_and (by walk_at "T") (fun _ => A_and0)))) ?_) (fun h => by cases h) (fun _ => ?_)
  · rw [bl_abs]
    have : ¬ (3500 < (if e + (intBits z : Int) < 0 then -(e + (intBits z : Int)) else e + intBits z)) := by split <;> omega
    simp [this]
  walk_at "S"
  have hfm : (if (k * blg).fdiv (10 ^ 16) + 10 - e - (intBits (z.natAbs : Int) : Int) < 0 then 0 else (k * blg).fdiv (10 ^ 16) + 10 - e - (intBits (z.natAbs : Int) : Int)) = f := by
    rw [bl_abs, ← hf, if_neg (by omega)]
  refine S_weak (ρ' := [("s", some (pvM z.natAbs e)), ("dps", some (.int k)), ("base", some (.int 10)), ("sign", some (.str (tx (sgt (decide (z < 0)))))), ("_sign", none), ("man", none), ("exp", none), ("bc", none), ("blog2", some (.int blg)), ("unit", some (.int (10 ^ 16))), ("bitprec", none), ("exp_from_1", none), ("exponent", some (.int 0)), ("fixprec", some (.int f)), ("fixdps", none), ("sf", none), ("sb", none), ("digits", none)]) ?_ ?_
  · walk_at "weak"
    rw [hfm]
  have hlen : (ntx sb).length ≤ 300 := ntx_len (by decide) h1
  have hls : (tx (ntx sb)).length ≤ sizeLine := by rw [tx_len]; unfold sizeLine; omega
  walk_at "S"
  refine S_assign (E_callK2 (by walk_at "mem") (L_cons (by walk_at "E") L_nil) (by walk_at "E") (by walk_at "E") F4) (by walk_at "upd") ?_
  walk_at "S"
  walk_at "ret"
  rw [tx_len]; simp
end Mine
end

-- WcD
section
namespace Mine
open PySem.Builtin (bitAnd bitXor)
open PySem.Builtin.Int (intBits)
local macro_rules | `(tactic| walk_at "mem") => `(tactic| with_reducible (first | exact List.mem_cons_self | (refine List.mem_cons_of_mem _ ?_; walk_at "mem")))
local macro_rules | `(tactic| walk_at "upd") => `(tactic| with_reducible (first | exact Upd.head | (apply Upd.tail; walk_at "upd")))
local macro_rules | `(tactic| walk_at "upds") => `(tactic| first | exact Upds.nil | exact Upds.cons (by walk_at "upd") (by walk_at "upds"))
local macro_rules | `(tactic| walk_at "names") => `(tactic| first | exact Names.nil | exact Names.cons (by walk_at "names"))
local macro_rules | `(tactic| walk_at "side") => `(tactic| first | assumption | decide | omega)
local macro_rules | `(tactic| walk_at "B") => `(tactic| with_reducible first
  | exact B_add | exact B_sub | (show BinV .Mult _ _ _; exact B_mul (by walk_at "side")) | (show BinV .FloorDiv _ _ _; exact B_fdiv (by walk_at "side") (by walk_at "side")) | (show BinV .Mod _ _ _; exact B_mod (by walk_at "side"))
  | (show BinV .LShift _ _ _; exact B_shl (by walk_at "side") (by walk_at "side")) | (show BinV .RShift _ _ _; exact B_shr (by walk_at "side")) | (show BinV .Pow _ _ _; exact B_pow (by walk_at "side") (by walk_at "side"))
  | exact B_and | exact B_xor | (show BinV .Add (.str _) _ _; exact B_adds (by walk_at "side")))
local macro_rules | `(tactic| walk_at "I") => `(tactic| with_reducible first
  | exact I_add | exact I_sub | (show IBinV .LShift _ _ _; exact I_shl (by walk_at "side") (by walk_at "side")) | (show IBinV .RShift _ _ _; exact I_shr (by walk_at "side")) | exact I_xor | (show IBinV .Add (.str _) _ _; exact I_adds (by walk_at "side")))
local macro_rules | `(tactic| walk_at "C") => `(tactic| with_reducible first
  | exact C_eq | exact C_ne | exact C_lt | exact C_le | exact C_gt | exact C_ge | exact C_eqs | exact C_nes
  | (show CmpV .Eq (.tuple _) (.tuple _) _; exact C_eqd (by with_unfolding_all rfl) (by with_unfolding_all rfl) (by with_unfolding_all exact Nat.le_of_ble_eq_true rfl))
  | (show CmpV .NotEq (.tuple _) (.tuple _) _; exact C_ned (by with_unfolding_all rfl) (by with_unfolding_all rfl) (by with_unfolding_all exact Nat.le_of_ble_eq_true rfl)))
local macro_rules | `(tactic| walk_at "U") => `(tactic| with_reducible first | exact U_neg | (show UnV .Not _ _; exact U_not (by walk_at "R")))
local macro_rules | `(tactic| walk_at "R") => `(tactic| with_reducible first | exact R_int | exact R_bool | (show TruV (.str _) _; exact R_str (by walk_at "side")))
local macro_rules | `(tactic| walk_at "G") => `(tactic| with_reducible first
  | exact gl_fzero | exact gl_zero | exact gl_one | exact gl_near | exact gl_floor | exact gl_ceil | exact gl_up | exact gl_down | exact gl_fnan | exact gl_finf | exact gl_fninf | exact gl_blog | exact gl_digits)
local macro_rules | `(tactic| walk_at "L") => `(tactic| with_reducible first | exact L_nil | (show EvL _ _ _ _ (_ :: _) _ _; exact L_cons (by walk_at "E") (by walk_at "L")))
local macro_rules | `(tactic| walk_at "M0") => `(tactic| with_reducible first | exact M_bitlen | (show Meth0 _ (.str _) _; first | exact M_strip (by walk_at "side") | exact M_lower (by walk_at "side")))
local macro_rules | `(tactic| walk_at "K") => `(tactic| with_reducible first | assumption | exact K_int | exact K_abs | exact K_max | exact K_min | (show CallV (.builtin "len") _ _; exact K_len (by walk_at "side")) | (show CallV (.builtin "divmod") _ _; exact K_divmod (by walk_at "side") (by walk_at "side")))
local macro_rules | `(tactic| walk_at "Ebi") => `(tactic| with_reducible first
  | (show EvE _ _ _ _ (.Call (.Name (Str.ofString "int") _) _ _ _) _ _; exact E_bi bi_int (by walk_at "mem") rfl (by walk_at "L") (by walk_at "K"))
  | (show EvE _ _ _ _ (.Call (.Name (Str.ofString "len") _) _ _ _) _ _; exact E_bi bi_len (by walk_at "mem") rfl (by walk_at "L") (by walk_at "K"))
  | (show EvE _ _ _ _ (.Call (.Name (Str.ofString "abs") _) _ _ _) _ _; exact E_bi bi_abs (by walk_at "mem") rfl (by walk_at "L") (by walk_at "K"))
  | (show EvE _ _ _ _ (.Call (.Name (Str.ofString "max") _) _ _ _) _ _; exact E_bi bi_max (by walk_at "mem") rfl (by walk_at "L") (by walk_at "K"))
  | (show EvE _ _ _ _ (.Call (.Name (Str.ofString "min") _) _ _ _) _ _; exact E_bi bi_min (by walk_at "mem") rfl (by walk_at "L") (by walk_at "K"))
  | (show EvE _ _ _ _ (.Call (.Name (Str.ofString "divmod") _) _ _ _) _ _; exact E_bi bi_divmod (by walk_at "mem") rfl (by walk_at "L") (by walk_at "K"))
  | (show EvE _ _ _ _ (.Call (.Name (Str.ofString "str") _) _ _ _) _ _; exact E_bi bi_str (by walk_at "mem") rfl (by walk_at "L") (by walk_at "K"))
  | (show EvE _ _ _ _ (.Call (.Name (Str.ofString "pow") _) _ _ _) _ _; exact E_bi bi_pow (by walk_at "mem") rfl (by walk_at "L") (by walk_at "K"))
  | (show EvE _ _ _ _ (.Call (.Name (Str.ofString "isinstance") _) _ _ _) _ _; exact E_isint (by walk_at "mem") (by walk_at "mem") (by walk_at "E")))
local macro_rules | `(tactic| walk_at "E") => `(tactic| with_reducible first
  | assumption
  | (show EvE _ _ _ _ (.Name _ _) _ _; first | exact E_name (by walk_at "mem") | exact E_gl (by walk_at "mem") (by walk_at "G"))
  | exact E_int
  | (show EvE _ _ _ _ (.BinOp _ _ _ _) _ _; exact E_bin (by walk_at "E") (by walk_at "E") (by walk_at "B"))
  | exact E_str | exact E_bool | exact E_none
  | (show EvE _ _ _ _ (.UnaryOp _ _ _) _ _; exact E_un (by walk_at "E") (by walk_at "U"))
  | (show EvE _ _ _ _ (.Tuple _ _ _) _ _; exact E_tup (by walk_at "L"))
  | (show EvE _ _ _ _ (.Call (.Name _ _) _ _ _) _ _; first | walk_at "Ebi" | exact E_call (by walk_at "mem") (by walk_at "L") (by assumption))
  | (show EvE _ _ _ _ (.BoolOp .Or [_, _] _) _ _; exact E_orp (by walk_at "E") (by walk_at "side"))
  | (show EvE _ _ _ _ (.Call (.Attribute _ _ _) [] [] _) _ _; exact E_meth0 (by walk_at "E") (by walk_at "M0"))
  | (show EvE _ _ _ _ (.Compare _ [_] [_] _) _ _; exact E_cmp (by walk_at "E") (by walk_at "E") (by walk_at "C")))
local macro_rules | `(tactic| walk_at "T") => `(tactic| with_reducible first
  | assumption
  | (show EvT _ _ _ _ (.UnaryOp .Not _ _) _ _; exact T_not (by walk_at "T")) | (show EvT _ _ _ _ (.Compare _ [_] [_] _) _ _; exact T_cmp (by walk_at "E") (by walk_at "E") (by walk_at "C"))
  | (show EvT _ _ _ _ (.Compare _ [_, _] [_, _] _) _ _; exact T_chain (by walk_at "E") (by walk_at "E") (by walk_at "C") (fun _ => by walk_at "E") (fun _ => by walk_at "C"))
  | (show EvT _ _ _ _ (.BoolOp _ _ _) _ _; exact T_bool (by walk_at "A")) | exact T_val (by walk_at "E") (by walk_at "R"))
local macro_rules | `(tactic| walk_at "A") => `(tactic| with_reducible first
  | exact A_and0 | exact A_or0 | (show EvA _ _ _ _ .And _ _ _; exact A_and (by walk_at "T") (fun _ => by walk_at "A")) | exact A_or (by walk_at "T") (fun _ => by walk_at "A"))
local macro_rules | `(tactic| walk_at "S1") => `(tactic| with_reducible first
  | refine S_pop ?_
  | (show Exs _ _ _ _ ((.Assign [.Name _ _] _ _ :: _) :: _) _; refine S_assign (by walk_at "E") (by walk_at "upd") ?_)
  | (show Exs _ _ _ _ ((.AugAssign _ _ _ _ :: _) :: _) _; refine S_aug (by walk_at "mem") (by walk_at "E") (by walk_at "I") (by walk_at "upd") ?_)
  | (show Exs _ _ _ _ ((.Assign [.Tuple _ _ _] _ _ :: _) :: _) _; refine S_unpack (by walk_at "E") (by walk_at "names") (by walk_at "upds") ?_))
local macro_rules | `(tactic| walk_at "S") => `(tactic| repeat walk_at "S1")
local macro_rules | `(tactic| walk_at "ret") => `(tactic| (with_reducible show Exs _ _ _ _ ((.Return _ _ :: _) :: _) _; with_reducible apply S_ret'; walk_at "E"))
local macro_rules | `(tactic| walk_at "weak") => `(tactic| with_reducible first | exact Weak.nil | (apply Weak.skip; walk_at "weak") | (apply Weak.same; walk_at "weak") | (apply Weak.keep; rotate_left; walk_at "weak"))
local macro_rules | `(tactic| walk_at "end") => `(tactic| ((repeat (with_reducible refine S_pop ?_)); with_reducible apply S_end'; walk_at "weak"))
local macro_rules | `(tactic| walk_at "weak") => `(tactic| with_reducible first | exact Weak.nil | (apply Weak.skip; walk_at "weak") | (apply Weak.same; walk_at "weak") | (apply Weak.keep; rotate_left; walk_at "weak"))
local macro_rules | `(tactic| walk_at "end") => `(tactic| ((repeat (with_reducible refine S_pop ?_)); with_reducible apply S_end'; walk_at "weak"))
local macro_rules | `(tactic| walk_at "M1") => `(tactic| with_reducible first | assumption)
local macro_rules | `(tactic| walk_at "M0") => `(tactic| with_reducible first | assumption)
local macro_rules | `(tactic| walk_at "C") => `(tactic| with_reducible first | assumption)
local macro_rules | `(tactic| walk_at "E") => `(tactic| with_reducible first
  | (show EvE _ _ _ _ (.Call (.Attribute _ _ _) [.Constant _ _ _, .Constant _ _ _] [] _) _ _; exact E_replace' (by walk_at "E") (by assumption) (by decide +kernel) (by walk_at "side"))
  | (show EvE _ _ _ _ (.Call (.Attribute _ _ _) [_] [] _) _ _; exact E_meth1 (by walk_at "E") (by walk_at "E") (by walk_at "M1"))
  | (show EvE _ _ _ _ (.NamedExpr (.Name _ _) _ _) _ _; exact E_named (by walk_at "E") (by walk_at "upd"))
  | (show EvE _ _ _ _ (.Subscript _ (.Constant (.int _) _ _) _) _ _; exact E_listitem (by walk_at "E") (by walk_at "E") (by decide) (by decide) (by with_unfolding_all exact rfl)))
local macro_rules | `(tactic| walk_at "S1") => `(tactic| with_reducible first
  | (show Exs _ _ _ _ ((.Assign [.Tuple [.Name _ _, .Name _ _] _ _] (.Tuple [_, _] _ _) _ :: _) :: _) _; refine S_swap2 (by walk_at "L") (by walk_at "upd") (by walk_at "upd") ?_)
  | (show Exs _ _ _ _ ((.Assign [.Tuple [.Name _ _, .Name _ _, .Name _ _] _ _] (.Tuple [_, _, _] _ _) _ :: _) :: _) _; refine S_swap3 (by walk_at "L") (by walk_at "upd") (by walk_at "upd") (by walk_at "upd") ?_)
  | (show Exs _ _ _ _ ((.Assign [.Tuple _ _ _] _ _ :: _) :: _) _; refine S_unpackL (by walk_at "E") (by walk_at "names") (by walk_at "upds") ?_))
local macro_rules | `(tactic| walk_at "B") => `(tactic| with_reducible first | assumption)
theorem E_at {w : World} {n : Nat} {Γ : List Str} {ρ : PEnv} {e m : Expr} {pp : Pos} {c i : Nat} {l : List Nat} (he : EvE w n Γ ρ e (.str (tx l)) ρ) (hm : EvE w n Γ ρ m (.int (i : Int)) ρ) (hl : l[i]? = some c) (hL : l.length ≤ 1000)
    (q1 : ∀ o i, subscripted m false o i = operate [o, i] (getItem o i) := by intros; with_unfolding_all rfl) (q2 : ∀ o t r, letTemporaryGo e (.str o t) r = pure () := by intros; with_unfolding_all rfl) :
    EvE w n Γ ρ (.Subscript e m pp) (.str (tx [c])) ρ := by
  have h0 : i < l.length := (List.getElem?_eq_some_iff.mp hl).1
  refine E_eq (E_stritem he hm (by unfold fitsSsize; simp; omega) (by rw [tx_len]; omega) (by rw [tx_len]; omega) q1 q2) ?_
  exact congrArg PyData.str (tx_item hl)
theorem E_pre {w : World} {n : Nat} {Γ : List Str} {ρ : PEnv} {e m : Expr} {pp pq : Pos} {k : Nat} {l : List Nat} (he : EvE w n Γ ρ e (.str (tx l)) ρ) (hm : EvE w n Γ ρ m (.int (k : Int)) ρ) (hk : k ≤ l.length) (hL : l.length ≤ 1000)
    (q2 : ∀ o r, letTemporaryGo e o r = pure () := by intros; with_unfolding_all rfl) :
    EvE w n Γ ρ (.Subscript e (.Slice none (some m) none pq) pp) (.str (tx (l.take k))) ρ := by
  refine E_eq (E_slice he O_none (O_some hm) (by rw [tx_len]; unfold sizeLine; omega) q2) ?_
  exact congrArg PyData.str (tx_to l ⟨by omega, by omega⟩)
theorem std56 : Txt.slice std (some 5) (some 10) = tx [53, 54, 55, 56, 57] := by decide +kernel
theorem std13 : by3 std 1 10 2 = tx [49, 51, 53, 55, 57] := by decide +kernel
theorem c_in1 {c : Nat} {l : List Nat} : CmpV .In (.str (tx [c])) (.str (tx l)) (decide (c ∈ l)) := by
  have := C_in (x := tx l) (y := tx [c])
  rwa [tx_has1] at this
end Mine
end

-- PyS
section
namespace Mine
open PySem.Builtin.Int (intBits)
section
variable {w : World} {n : Nat} {Γ : List Str} {ρ ρ' ρ₁ ρ₂ ρ₃ : PEnv} {e t : Expr} {d : PV} {rest body : List Stmt} {bs : List (List Stmt)} {o : Out} {x : Str}
theorem turns_P {P : List PV → PEnv → Prop} (step : ∀ d ds ρ, P (d :: ds) ρ → ∃ ρ₁, Upd x d ρ ρ₁ ∧ ((∃ ρ₂, P ds ρ₂ ∧ Exs w n Γ ρ₁ [body] (.next ρ₂)) ∨ (∃ ρ₂, P [] ρ₂ ∧ Exs w n Γ ρ₁ [body] (.brk ρ₂)))) :
    ∀ ds ρ, P ds ρ → ∃ ρ', P [] ρ' ∧ Turns w n Γ x body ds ρ ρ'
  | [], ρ, h => ⟨ρ, h, .done⟩
  | d :: ds, ρ, h => by
    obtain ⟨ρ₁, u, ⟨ρ₂, p, b⟩ | ⟨ρ₂, p, b⟩⟩ := step d ds ρ h
    · obtain ⟨ρ', q, t⟩ := turns_P step ds ρ₂ p
      exact ⟨ρ', q, .turn u b t⟩
    · exact ⟨ρ₂, p, .brk u b⟩
theorem S_forP {P : List PV → PEnv → Prop} {ds : List PV} {px pf : Pos} (h1 : EvI w n Γ ρ e ds ρ₁) (h0 : P ds ρ₁)
    (step : ∀ d ds ρ, P (d :: ds) ρ → ∃ ρ₁, Upd x d ρ ρ₁ ∧ ((∃ ρ₂, P ds ρ₂ ∧ Exs w n Γ ρ₁ [body] (.next ρ₂)) ∨ (∃ ρ₂, P [] ρ₂ ∧ Exs w n Γ ρ₁ [body] (.brk ρ₂))))
    (h2 : ∀ ρ₂, P [] ρ₂ → Exs w n Γ ρ₂ (rest :: bs) o)
    (hs : ∀ x env, foldedSetIterable e env x = pure x := by intros; with_unfolding_all rfl) : Exs w n Γ ρ ((.For (.Name x px) e body [] pf :: rest) :: bs) o := by
  obtain ⟨ρ', q, t⟩ := turns_P step ds ρ₁ h0
  exact S_for h1 t (h2 ρ' q) hs
theorem Whiles.of {P : Nat → PEnv} {k : Nat} (h1 : ∀ i, i < k → EvT w n Γ (P i) t true (P i) ∧ Exs w n Γ (P i) [body] (.next (P (i + 1)))) (h2 : EvT w n Γ (P k) t false (P k)) : Whiles w n Γ t body k (P 0) (P k) := by
  suffices h : ∀ j, j ≤ k → Whiles w n Γ t body j (P (k - j)) (P k) by have := h k (Nat.le_refl _); rwa [Nat.sub_self] at this
  intro j
  induction j with
  | zero => intro _; exact .done h2
  | succ j ih =>
    intro hj
    have a := h1 (k - (j + 1)) (by omega)
    rw [show k - (j + 1) + 1 = k - j by omega] at a
    exact .turn a.1 a.2 (ih (by omega))
end
theorem mulok {c : Nat} {n : Int} (h : n ≤ 100000) (h2 : -100000 ≤ n) : MulOk (tx [c]) n := by
  have hl : (tx [c]).length = 1 := by rw [tx_len]; rfl
  unfold MulOk
  rw [hl]
  refine ⟨by simp; omega, fun h1 _ => ?_, fun h1 _ => ?_⟩
  · have : (1 : Int) ≤ (2 ^ 63 - 1) / n := (Int.le_ediv_iff_mul_le (by omega)).mpr (by omega)
    show ¬ ((1 : Nat) : Int) > _
    omega
  · unfold PySem.Builtin.Str.tooLong sizeLine
    simp; omega
theorem tx_mul (c : Nat) (n : Int) : Txt.mul (tx [c]) n = tx (List.replicate n.toNat c) := by
  rw [tx_of (Txt.mul (tx [c]) n)]
  congr 1
  exact mul_one_list c n
theorem std_succ {a : Nat} (h1 : 48 ≤ a) (h2 : a < 57) : Txt.item std ((a : Int) - 48 + 1) = tx [a + 1] := by
  have : ∀ a : Nat, a < 57 → 48 ≤ a → Txt.item std ((a : Int) - 48 + 1) = tx [a + 1] := by decide +kernel
  exact this a h2 h1
theorem int1 {a : Nat} (h1 : 48 ≤ a) (h2 : a ≤ 57) : CallV (.type "int") [.str (tx [a]), .int 10] (.int ((a : Int) - 48)) := by
  have := K_intb (int_pos (A := [a]) (by intro c hc; simp at hc; omega) (by simp) (by simp)) (by rw [tx_len]; simp)
  rwa [show ((dv [a] : Nat) : Int) = (a : Int) - 48 by simp [dv, PySem.NumText.digitsVal]; omega] at this
end Mine
end

-- WcE
section
namespace Mine
open PySem.Builtin (bitAnd bitXor)
open PySem.Builtin.Int (intBits)
local macro_rules | `(tactic| walk_at "mem") => `(tactic| with_reducible (first | exact List.mem_cons_self | (refine List.mem_cons_of_mem _ ?_; walk_at "mem")))
local macro_rules | `(tactic| walk_at "upd") => `(tactic| with_reducible (first | exact Upd.head | (apply Upd.tail; walk_at "upd")))
local macro_rules | `(tactic| walk_at "upds") => `(tactic| first | exact Upds.nil | exact Upds.cons (by walk_at "upd") (by walk_at "upds"))
local macro_rules | `(tactic| walk_at "names") => `(tactic| first | exact Names.nil | exact Names.cons (by walk_at "names"))
local macro_rules | `(tactic| walk_at "side") => `(tactic| first | assumption | decide | omega)
local macro_rules | `(tactic| walk_at "B") => `(tactic| with_reducible first
  | exact B_add | exact B_sub | (show BinV .Mult _ _ _; exact B_mul (by walk_at "side")) | (show BinV .FloorDiv _ _ _; exact B_fdiv (by walk_at "side") (by walk_at "side")) | (show BinV .Mod _ _ _; exact B_mod (by walk_at "side"))
  | (show BinV .LShift _ _ _; exact B_shl (by walk_at "side") (by walk_at "side")) | (show BinV .RShift _ _ _; exact B_shr (by walk_at "side")) | (show BinV .Pow _ _ _; exact B_pow (by walk_at "side") (by walk_at "side"))
  | exact B_and | exact B_xor | (show BinV .Add (.str _) _ _; exact B_adds (by walk_at "side")))
local macro_rules | `(tactic| walk_at "I") => `(tactic| with_reducible first
  | exact I_add | exact I_sub | (show IBinV .LShift _ _ _; exact I_shl (by walk_at "side") (by walk_at "side")) | (show IBinV .RShift _ _ _; exact I_shr (by walk_at "side")) | exact I_xor | (show IBinV .Add (.str _) _ _; exact I_adds (by walk_at "side")))
local macro_rules | `(tactic| walk_at "C") => `(tactic| with_reducible first
  | exact C_eq | exact C_ne | exact C_lt | exact C_le | exact C_gt | exact C_ge | exact C_eqs | exact C_nes
  | (show CmpV .Eq (.tuple _) (.tuple _) _; exact C_eqd (by with_unfolding_all rfl) (by with_unfolding_all rfl) (by with_unfolding_all exact Nat.le_of_ble_eq_true rfl))
  | (show CmpV .NotEq (.tuple _) (.tuple _) _; exact C_ned (by with_unfolding_all rfl) (by with_unfolding_all rfl) (by with_unfolding_all exact Nat.le_of_ble_eq_true rfl)))
local macro_rules | `(tactic| walk_at "U") => `(tactic| with_reducible first | exact U_neg | (show UnV .Not _ _; exact U_not (by walk_at "R")))
local macro_rules | `(tactic| walk_at "R") => `(tactic| with_reducible first | exact R_int | exact R_bool | (show TruV (.str _) _; exact R_str (by walk_at "side")))
local macro_rules | `(tactic| walk_at "G") => `(tactic| with_reducible first
  | exact gl_fzero | exact gl_zero | exact gl_one | exact gl_near | exact gl_floor | exact gl_ceil | exact gl_up | exact gl_down | exact gl_fnan | exact gl_finf | exact gl_fninf | exact gl_blog | exact gl_digits)
local macro_rules | `(tactic| walk_at "L") => `(tactic| with_reducible first | exact L_nil | (show EvL _ _ _ _ (_ :: _) _ _; exact L_cons (by walk_at "E") (by walk_at "L")))
local macro_rules | `(tactic| walk_at "M0") => `(tactic| with_reducible first | exact M_bitlen | (show Meth0 _ (.str _) _; first | exact M_strip (by walk_at "side") | exact M_lower (by walk_at "side")))
local macro_rules | `(tactic| walk_at "K") => `(tactic| with_reducible first | assumption | exact K_int | exact K_abs | exact K_max | exact K_min | (show CallV (.builtin "len") _ _; exact K_len (by walk_at "side")) | (show CallV (.builtin "divmod") _ _; exact K_divmod (by walk_at "side") (by walk_at "side")))
local macro_rules | `(tactic| walk_at "Ebi") => `(tactic| with_reducible first
  | (show EvE _ _ _ _ (.Call (.Name (Str.ofString "int") _) _ _ _) _ _; exact E_bi bi_int (by walk_at "mem") rfl (by walk_at "L") (by walk_at "K"))
  | (show EvE _ _ _ _ (.Call (.Name (Str.ofString "len") _) _ _ _) _ _; exact E_bi bi_len (by walk_at "mem") rfl (by walk_at "L") (by walk_at "K"))
  | (show EvE _ _ _ _ (.Call (.Name (Str.ofString "abs") _) _ _ _) _ _; exact E_bi bi_abs (by walk_at "mem") rfl (by walk_at "L") (by walk_at "K"))
  | (show EvE _ _ _ _ (.Call (.Name (Str.ofString "max") _) _ _ _) _ _; exact E_bi bi_max (by walk_at "mem") rfl (by walk_at "L") (by walk_at "K"))
  | (show EvE _ _ _ _ (.Call (.Name (Str.ofString "min") _) _ _ _) _ _; exact E_bi bi_min (by walk_at "mem") rfl (by walk_at "L") (by walk_at "K"))
  | (show EvE _ _ _ _ (.Call (.Name (Str.ofString "divmod") _) _ _ _) _ _; exact E_bi bi_divmod (by walk_at "mem") rfl (by walk_at "L") (by walk_at "K"))
  | (show EvE _ _ _ _ (.Call (.Name (Str.ofString "str") _) _ _ _) _ _; exact E_bi bi_str (by walk_at "mem") rfl (by walk_at "L") (by walk_at "K"))
  | (show EvE _ _ _ _ (.Call (.Name (Str.ofString "pow") _) _ _ _) _ _; exact E_bi bi_pow (by walk_at "mem") rfl (by walk_at "L") (by walk_at "K"))
  | (show EvE _ _ _ _ (.Call (.Name (Str.ofString "isinstance") _) _ _ _) _ _; exact E_isint (by walk_at "mem") (by walk_at "mem") (by walk_at "E")))
local macro_rules | `(tactic| walk_at "E") => `(tactic| with_reducible first
  | assumption
  | (show EvE _ _ _ _ (.Name _ _) _ _; first | exact E_name (by walk_at "mem") | exact E_gl (by walk_at "mem") (by walk_at "G"))
  | exact E_int
  | (show EvE _ _ _ _ (.BinOp _ _ _ _) _ _; exact E_bin (by walk_at "E") (by walk_at "E") (by walk_at "B"))
  | exact E_str | exact E_bool | exact E_none
  | (show EvE _ _ _ _ (.UnaryOp _ _ _) _ _; exact E_un (by walk_at "E") (by walk_at "U"))
  | (show EvE _ _ _ _ (.Tuple _ _ _) _ _; exact E_tup (by walk_at "L"))
  | (show EvE _ _ _ _ (.Call (.Name _ _) _ _ _) _ _; first | walk_at "Ebi" | exact E_call (by walk_at "mem") (by walk_at "L") (by assumption))
  | (show EvE _ _ _ _ (.BoolOp .Or [_, _] _) _ _; exact E_orp (by walk_at "E") (by walk_at "side"))
  | (show EvE _ _ _ _ (.Call (.Attribute _ _ _) [] [] _) _ _; exact E_meth0 (by walk_at "E") (by walk_at "M0"))
  | (show EvE _ _ _ _ (.Compare _ [_] [_] _) _ _; exact E_cmp (by walk_at "E") (by walk_at "E") (by walk_at "C")))
local macro_rules | `(tactic| walk_at "T") => `(tactic| with_reducible first
  | assumption
  | (show EvT _ _ _ _ (.UnaryOp .Not _ _) _ _; exact T_not (by walk_at "T")) | (show EvT _ _ _ _ (.Compare _ [_] [_] _) _ _; exact T_cmp (by walk_at "E") (by walk_at "E") (by walk_at "C"))
  | (show EvT _ _ _ _ (.Compare _ [_, _] [_, _] _) _ _; exact T_chain (by walk_at "E") (by walk_at "E") (by walk_at "C") (fun _ => by walk_at "E") (fun _ => by walk_at "C"))
  | (show EvT _ _ _ _ (.BoolOp _ _ _) _ _; exact T_bool (by walk_at "A")) | exact T_val (by walk_at "E") (by walk_at "R"))
local macro_rules | `(tactic| walk_at "A") => `(tactic| with_reducible first
  | exact A_and0 | exact A_or0 | (show EvA _ _ _ _ .And _ _ _; exact A_and (by walk_at "T") (fun _ => by walk_at "A")) | exact A_or (by walk_at "T") (fun _ => by walk_at "A"))
local macro_rules | `(tactic| walk_at "S1") => `(tactic| with_reducible first
  | refine S_pop ?_
  | (show Exs _ _ _ _ ((.Assign [.Name _ _] _ _ :: _) :: _) _; refine S_assign (by walk_at "E") (by walk_at "upd") ?_)
  | (show Exs _ _ _ _ ((.AugAssign _ _ _ _ :: _) :: _) _; refine S_aug (by walk_at "mem") (by walk_at "E") (by walk_at "I") (by walk_at "upd") ?_)
  | (show Exs _ _ _ _ ((.Assign [.Tuple _ _ _] _ _ :: _) :: _) _; refine S_unpack (by walk_at "E") (by walk_at "names") (by walk_at "upds") ?_))
local macro_rules | `(tactic| walk_at "S") => `(tactic| repeat walk_at "S1")
local macro_rules | `(tactic| walk_at "ret") => `(tactic| (with_reducible show Exs _ _ _ _ ((.Return _ _ :: _) :: _) _; with_reducible apply S_ret'; walk_at "E"))
local macro_rules | `(tactic| walk_at "weak") => `(tactic| with_reducible first | exact Weak.nil | (apply Weak.skip; walk_at "weak") | (apply Weak.same; walk_at "weak") | (apply Weak.keep; rotate_left; walk_at "weak"))
local macro_rules | `(tactic| walk_at "end") => `(tactic| ((repeat (with_reducible refine S_pop ?_)); with_reducible apply S_end'; walk_at "weak"))
local macro_rules | `(tactic| walk_at "weak") => `(tactic| with_reducible first | exact Weak.nil | (apply Weak.skip; walk_at "weak") | (apply Weak.same; walk_at "weak") | (apply Weak.keep; rotate_left; walk_at "weak"))
local macro_rules | `(tactic| walk_at "end") => `(tactic| ((repeat (with_reducible refine S_pop ?_)); with_reducible apply S_end'; walk_at "weak"))
local macro_rules | `(tactic| walk_at "M1") => `(tactic| with_reducible first | assumption)
local macro_rules | `(tactic| walk_at "M0") => `(tactic| with_reducible first | assumption)
local macro_rules | `(tactic| walk_at "C") => `(tactic| with_reducible first | assumption)
local macro_rules | `(tactic| walk_at "E") => `(tactic| with_reducible first
  | (show EvE _ _ _ _ (.Call (.Attribute _ _ _) [.Constant _ _ _, .Constant _ _ _] [] _) _ _; exact E_replace' (by walk_at "E") (by assumption) (by decide +kernel) (by walk_at "side"))
  | (show EvE _ _ _ _ (.Call (.Attribute _ _ _) [_] [] _) _ _; exact E_meth1 (by walk_at "E") (by walk_at "E") (by walk_at "M1"))
  | (show EvE _ _ _ _ (.NamedExpr (.Name _ _) _ _) _ _; exact E_named (by walk_at "E") (by walk_at "upd"))
  | (show EvE _ _ _ _ (.Subscript _ (.Constant (.int _) _ _) _) _ _; exact E_listitem (by walk_at "E") (by walk_at "E") (by decide) (by decide) (by with_unfolding_all exact rfl)))
local macro_rules | `(tactic| walk_at "S1") => `(tactic| with_reducible first
  | (show Exs _ _ _ _ ((.Assign [.Tuple [.Name _ _, .Name _ _] _ _] (.Tuple [_, _] _ _) _ :: _) :: _) _; refine S_swap2 (by walk_at "L") (by walk_at "upd") (by walk_at "upd") ?_)
  | (show Exs _ _ _ _ ((.Assign [.Tuple [.Name _ _, .Name _ _, .Name _ _] _ _] (.Tuple [_, _, _] _ _) _ :: _) :: _) _; refine S_swap3 (by walk_at "L") (by walk_at "upd") (by walk_at "upd") (by walk_at "upd") ?_)
  | (show Exs _ _ _ _ ((.Assign [.Tuple _ _ _] _ _ :: _) :: _) _; refine S_unpackL (by walk_at "E") (by walk_at "names") (by walk_at "upds") ?_))
local macro_rules | `(tactic| walk_at "B") => `(tactic| with_reducible first | assumption)
theorem tx1_eq {c d : Nat} {y : Str} (hy : y = tx [d]) : (tx [c] == y) = decide (c = d) := by
  subst hy
  rw [Bool.eq_iff_iff]
  simp only [beq_iff_eq, decide_eq_true_eq]
  exact ⟨fun h => by simpa using tx_inj h, fun h => by rw [h]⟩
theorem tx1_ne {c d : Nat} {y : Str} (hy : y = tx [d]) : (tx [c] != y) = !decide (c = d) := by
  show (!(tx [c] == y)) = _
  rw [tx1_eq hy]
theorem T_A {w : World} {n : Nat} {Γ : List Str} {ρ : PEnv} {e : Expr} {b : Bool} (h : EvT w n Γ ρ e b ρ) : EvA w n Γ ρ .And [e] b ρ := by
  have := A_and h (fun _ => A_and0)
  rwa [Bool.and_true] at this
/-- the figures behind are zeros -/
def zAt (l : List Nat) : PV → Bool
  | .int i => l[i.toNat]? == some 48
  | _ => false
abbrev rdEnv (σ : Int) (dg : PV) (D : Nat) (td : Bool) (i dig : Option PV) : PEnv :=
  [("sign", some (.int σ)), ("digits", some dg), ("dps", some (.int D)), ("base", some (.int 10)), ("rnd", some (.str "n")), ("fixed", some (.bool false)), ("exponent", some (.int 0)), ("rnd_digs", some (.str (tx [53, 54, 55, 56, 57]))),
    ("tie_down", some (.bool td)), ("tie_up", some (.bool false)), ("i", i), ("dig", dig)]
def Shape (l : List Nat) (D c : Nat) (TD : Bool) (l' : List Nat) (x : Int) : Prop :=
  (((TD = true ∧ c = 53) ∨ (TD = false ∧ c < 53)) ∧ l' = l.take D ∧ x = 0) ∨
  (TD = false ∧ 53 ≤ c ∧ ((l.take D = List.replicate D 57 ∧ l' = 49 :: List.replicate (D - 1) 48 ∧ x = 1) ∨
    ∃ A a j, l.take D = A ++ a :: List.replicate j 57 ∧ a ≠ 57 ∧ l' = A ++ (a + 1) :: List.replicate j 48 ∧ x = 0))
theorem shape_ex {l : List Nat} {D c : Nat} (hd : Dg l) (hD1 : 1 ≤ D) (hl : D < l.length) (TD : Bool) (ht : TD = true → c = 53) :
    ∃ l' x, Shape l D c TD l' x ∧ Dg l' ∧ l'.length = D ∧ (x = 0 ∨ x = 1) ∧ ∃ u, u ≤ 1 ∧ dv l' * 10 ^ x.toNat = dv (l.take D) + u := by
  have hlen : (l.take D).length = D := by rw [List.length_take]; omega
  have hdt : Dg (l.take D) := fun x hx => hd x (List.mem_of_mem_take hx)
  by_cases h1 : TD = true ∨ c < 53
  · refine ⟨l.take D, 0, .inl ⟨?_, rfl, rfl⟩, hdt, hlen, .inl rfl, 0, by omega, by simp⟩
    cases TD with
    | true => exact .inl ⟨rfl, ht rfl⟩
    | false => exact .inr ⟨rfl, by simpa using h1⟩
  · have h2 : TD = false ∧ 53 ≤ c := by
      cases TD with
      | true => exact absurd (.inl rfl) h1
      | false => exact ⟨rfl, by omega⟩
    obtain ⟨j, h | ⟨A, a, h, ha⟩⟩ := nines_end (l.take D)
    · have hj : j = D := by rw [h, List.length_replicate] at hlen; exact hlen
      subst hj
      refine ⟨49 :: List.replicate (j - 1) 48, 1, .inr ⟨h2.1, h2.2, .inl ⟨h, rfl, rfl⟩⟩, ?_, by simp; omega, .inr rfl, 1, by omega, ?_⟩
      · intro c hc
        rcases List.mem_cons.mp hc with rfl | hc
        · omega
        · have := (List.mem_replicate.mp hc).2; omega
      · rw [h, dv_one, dv_nines]
        show 10 ^ (j - 1) * 10 ^ 1 = _
        rw [← Nat.pow_add, show j - 1 + 1 = j by omega]
    · have hA : Dg (A ++ a :: List.replicate j 57) := h ▸ hdt
      have ha2 := hA a (by simp)
      refine ⟨A ++ (a + 1) :: List.replicate j 48, 0, .inr ⟨h2.1, h2.2, .inr ⟨A, a, j, h, ha, rfl, rfl⟩⟩, ?_, ?_, .inl rfl, 1, by omega, ?_⟩
      · intro c hc
        rcases List.mem_append.mp hc with hc | hc
        · exact hA c (by simp [hc])
        · rcases List.mem_cons.mp hc with rfl | hc
          · omega
          · have := (List.mem_replicate.mp hc).2; omega
      · rw [h] at hlen; simp at hlen ⊢; exact hlen
      · rw [h, dv_inc A ha2.1]; simp

set_option maxHeartbeats 8000000 in
theorem sp_round {w : World} {l : List Nat} {D c c0 : Nat} {σ : Int} (hd : Dg l) (hD1 : 1 ≤ D) (hD : l[D]? = some c) (hc0 : l[D - 1]? = some c0) (hl : l.length ≤ 300) :
    ∃ (l' : List Nat) (x : Int), FnSpec w 1 "round_digits" [.int σ, .str (tx l), .int D, .int 10, .str "n"] (.tuple [.str (tx l'), .int x]) ∧ Dg l' ∧ l'.length = D ∧ (x = 0 ∨ x = 1) ∧ ∃ u, u ≤ 1 ∧ dv l' * 10 ^ x.toNat = dv (l.take D) + u := by
  have hlt : D < l.length := (List.getElem?_eq_some_iff.mp hD).1
  have kl : (tx l).length ≤ sizeLine := by rw [tx_len]; unfold sizeLine; omega
  have hcd := hd c (List.mem_of_getElem? hD)
  generalize hB : (upto (D + 1) l.length).all (zAt l) = B
  generalize hT : (if c = 53 then (B && !decide (c0 ∈ [49, 51, 53, 55, 57])) else false) = TD
  have ht : TD = true → c = 53 := fun h => by
    by_cases hc : c = 53
    · exact hc
    · rw [if_neg hc] at hT; rw [h] at hT; cases hT
  obtain ⟨l', x, hS, q1, q2, q3, q4⟩ := shape_ex hd hD1 hlt TD ht
  refine ⟨l', x, ?_, q1, q2, q3, q4⟩
  refine fn_intro (Γ := ["len", "round_nearest", "round_up", "round_down", "round_ceiling", "round_floor", "stddigits", "range", "int"]) 230 (by kernel_rfl) (by rfl) (by kernel_rfl) ["sign", "digits", "dps", "base", "rnd", "fixed"] ["exponent", "rnd_digs", "tie_down", "tie_up", "i", "dig"]
    [.int σ, .str (tx l), .int D, .int 10, .str "n", .bool false] (by decide +kernel) rfl ?_ ?_
  · intro s vs ks H ra rk
    obtain ⟨v1, r1, rfl, q1, ra⟩ := ra.uncons
    obtain ⟨v2, r2, rfl, q2, ra⟩ := ra.uncons
    obtain ⟨v3, r3, rfl, q3, ra⟩ := ra.uncons
    obtain ⟨v4, r4, rfl, q4, ra⟩ := ra.uncons
    obtain ⟨v5, r5, rfl, q5, ra⟩ := ra.uncons
    obtain rfl := ra.unnil
    obtain rfl := rk.unnil
    exact ⟨[v1, v2, v3, v4, v5, .bool false], binds_K (K := KK w) H.K rfl (by rfl) rfl rfl rfl, .cons q1 (.cons q2 (.cons q3 (.cons q4 (.cons q5 (.cons rep_bool .nil)))))⟩
  intro ρ hρ; simp only [envZip_cons, envZip_nil, envZip_nil'] at hρ; subst hρ
  refine S_assert (T_eq (by walk_at "T") (decide_eq_true (by rw [tx_len]; omega))) ?_
  refine S_assert (T_eq (T_cmp (by walk_at "E") (by walk_at "E") (C_intup (by decide +kernel) (by decide +kernel) (by decide +kernel))) (by decide +kernel)) ?_
  refine S_if (by walk_at "T") (fun h => absurd h (by decide +kernel)) (fun _ => ?_)
  refine S_if (by walk_at "T") (fun h => absurd h (by decide +kernel)) (fun _ => ?_)
  walk_at "S"
  refine S_if (by walk_at "T") (fun h => absurd h (by decide +kernel)) (fun _ => ?_)
  refine S_if (by walk_at "T") (fun _ => ?_) (fun h => absurd h (by decide +kernel))
  refine S_assign (E_eq (E_slice (by walk_at "E") (O_some (by walk_at "E")) (O_some (by walk_at "E")) (by decide +kernel)) (congrArg PyData.str (show _ = tx [53, 54, 55, 56, 57] by decide +kernel))) (by walk_at "upd") ?_
  walk_at "S"
  refine S_join (ρ₁ := rdEnv σ (.str (tx l)) D TD none none) ?_ ?_
  · refine S_if (by walk_at "T") (fun _ => ?_) (fun h => absurd h (by decide +kernel))
    refine S_if (T_eq (T_cmp (E_at (by walk_at "E") (by walk_at "E") hD (by omega)) (E_first (x0 := 53) (by walk_at "E") rfl) C_eqs) (tx1_eq rfl)) (fun h => ?_) (fun h => ?_)
    · rw [if_pos (of_decide_eq_true h)] at hT
      subst hT
      walk_at "S"
      refine S_forP (P := fun ds ρ => ∃ b oi, ρ = rdEnv σ (.str (tx l)) D b oi none ∧ (b && ds.all (zAt l)) = B ∧ ∀ d ∈ ds, ∃ i : Nat, d = .int (i : Int) ∧ i < l.length)
        (I_range2 (by walk_at "mem") (L_cons (by walk_at "E") (L_cons (by walk_at "E") L_nil)) (by omega) (by omega) (by rw [tx_len]; omega) (by rw [tx_len]; omega)) ⟨true, none, rfl, by rw [tx_len]; simpa using hB, ?_⟩ ?_ ?_
      · intro d hm
        obtain ⟨k, hk, rfl⟩ := List.mem_map.mp hm
        rw [List.mem_range, tx_len] at hk
        exact ⟨D + 1 + k, by push_cast; rfl, by omega⟩
      · rintro d ds ρ ⟨b, oi, rfl, hb, hm⟩
        obtain ⟨i, rfl, hi⟩ := hm d (by simp)
        have hli : l[i]? = some l[i] := List.getElem?_eq_getElem hi
        refine ⟨rdEnv σ (.str (tx l)) D b (some (.int (i : Int))) none, by walk_at "upd", ?_⟩
        by_cases hz : l[i] = 48
        · refine .inl ⟨rdEnv σ (.str (tx l)) D b (some (.int (i : Int))) none, ⟨b, _, rfl, ?_, fun d hd => hm d (by simp [hd])⟩, ?_⟩
          · rw [List.all_cons] at hb
            have : zAt l (.int (i : Int)) = true := by simp [zAt, hli, hz]
            rw [this, Bool.true_and] at hb
            exact hb
          · refine S_if (T_eq (b₂ := false) (T_cmp (E_at (by walk_at "E") (by walk_at "E") hli (by omega)) (by walk_at "E") C_nes) ?_) (fun h => by cases h) (fun _ => S_pop S_end)
            rw [tx1_ne ofs_0, hz]; rfl
        · refine .inr ⟨rdEnv σ (.str (tx l)) D false (some (.int (i : Int))) none, ⟨false, _, rfl, ?_, fun d hd => by cases hd⟩, ?_⟩
          · rw [List.all_cons] at hb
            have : zAt l (.int (i : Int)) = false := by simp [zAt, hli, hz]
            rw [this] at hb
            simpa using hb
          · refine S_if (T_eq (b₂ := true) (T_cmp (E_at (by walk_at "E") (by walk_at "E") hli (by omega)) (by walk_at "E") C_nes) ?_) (fun _ => ?_) (fun h => by cases h)
            · rw [tx1_ne ofs_0, decide_eq_false hz]; rfl
            · walk_at "S"
              exact S_brk
      · rintro ρ ⟨b, oi, rfl, hb, _⟩
        have hb' : b = B := by simpa using hb
        subst hb'
        refine S_if (T_cmp (E_at (i := D - 1) (by walk_at "E") (E_eq (a := .int ((D : Int) - 1)) (by walk_at "E") (congrArg PyData.int (by omega))) hc0 (by omega)) (E_eq (E_slice3 (by walk_at "E") (by walk_at "E") (by walk_at "E") (by walk_at "E") (by decide +kernel) (by decide)) (congrArg PyData.str std13)) c_in1) (fun h => ?_) (fun h => ?_)
        · walk_at "S"
          walk_at "end"
          rw [h]; simp
        · walk_at "end"
          rw [h]; simp
    · rw [if_neg (of_decide_eq_false h)] at hT
      subst hT
      walk_at "end"
  have hlenD : (l.take D).length = D := by rw [List.length_take]; omega
  rcases hS with ⟨hcase, rfl, rfl⟩ | ⟨rfl, h53, hS⟩
  · rcases hcase with ⟨rfl, rfl⟩ | ⟨rfl, hlt53⟩
    · have hi5 := int1 (a := 53) (by decide) (by decide)
      refine S_if (by walk_at "T") (fun _ => ?_) (fun h => absurd h (by decide))
      refine S_assign (E_eq (b := .str (tx (l.take D ++ [52]))) (E_bin (E_pre (k := D) (by walk_at "E") (by walk_at "E") (by omega) (by omega)) (E_eq (b := .str (tx [52])) (E_stritem (by walk_at "E") (E_bin (E_bi bi_int (by walk_at "mem") rfl (L_cons (E_at (by walk_at "E") (by walk_at "E") hD (by omega)) (L_cons (by walk_at "E") L_nil)) hi5) (by walk_at "E") B_sub) (by decide) (by decide +kernel) (by decide +kernel)) (congrArg PyData.str (by decide +kernel))) (B_adds (by rw [tx_len, tx_len, hlenD]; unfold sizeLine; simp; omega))) (by rw [tx_add])) (by walk_at "upd") ?_
      walk_at "S"
      have hat : (l.take D ++ [52])[D]? = some 52 := by rw [List.getElem?_append_right (by omega), hlenD]; simp
      refine S_if (T_eq (b₂ := false) (T_cmp (E_at (by walk_at "E") (by walk_at "E") hat (by simp; omega)) (by walk_at "E") c_in1) (by decide)) (fun h => by cases h) (fun _ => ?_)
      refine S_assign (E_eq (b := .str (tx (l.take D))) (E_pre (k := D) (by walk_at "E") (by walk_at "E") (by simp; omega) (by simp; omega)) (by congr 2; rw [List.take_append_of_le_length (by omega), List.take_of_length_le (by omega)])) (by walk_at "upd") ?_
      walk_at "S"
      walk_at "ret"
      rfl
    · refine S_if (by walk_at "T") (fun h => absurd h (by decide)) (fun _ => ?_)
      refine S_if (by walk_at "T") (fun h => absurd h (by decide)) (fun _ => ?_)
      walk_at "S"
      refine S_if (T_eq (b₂ := false) (T_cmp (E_at (by walk_at "E") (by walk_at "E") hD (by omega)) (by walk_at "E") c_in1) (by simp; omega)) (fun h => by cases h) (fun _ => ?_)
      refine S_assign (E_pre (k := D) (by walk_at "E") (by walk_at "E") (by omega) (by omega)) (by walk_at "upd") ?_
      walk_at "S"
      walk_at "ret"
      rfl
  · refine S_if (by walk_at "T") (fun h => absurd h (by decide)) (fun _ => ?_)
    refine S_if (by walk_at "T") (fun h => absurd h (by decide)) (fun _ => ?_)
    walk_at "S"
    refine S_if (T_eq (b₂ := true) (T_cmp (E_at (by walk_at "E") (by walk_at "E") hD (by omega)) (by walk_at "E") c_in1) (by simp; omega)) (fun _ => ?_) (fun h => by cases h)
    refine S_assign (E_pre (k := D) (by walk_at "E") (by walk_at "E") (by omega) (by omega)) (by walk_at "upd") ?_
    walk_at "S"
    refine S_assign (E_eq (b := .str (tx [57])) (E_stritem (by walk_at "E") (by walk_at "E") (by decide) (by decide +kernel) (by decide +kernel)) (congrArg PyData.str (by decide +kernel))) (by walk_at "upd") ?_
    let P : List Nat → Nat → PEnv := fun l m => [("sign", some (.int σ)), ("digits", some (.str (tx l))), ("dps", some (.int D)), ("base", some (.int 10)), ("rnd", some (.str "n")), ("fixed", some (.bool false)), ("exponent", some (.int 0)), ("rnd_digs", some (.str (tx [53, 54, 55, 56, 57]))),
      ("tie_down", some (.bool false)), ("tie_up", some (.bool false)), ("i", some (.int ((D : Int) - 1 - (m : Nat)))), ("dig", some (.str (tx [57])))]
    have hidx : ∀ m : Nat, m + 1 ≤ D → (D : Int) - 1 - (m : Nat) = ((D - 1 - m : Nat) : Int) := fun m hm => by omega
    rcases hS with ⟨h9, rfl, rfl⟩ | ⟨A, a, j, h9, ha, rfl, rfl⟩
    · rw [h9]
      refine S_weak (ρ' := P (List.replicate D 57) 0) (by walk_at "weak"; simp) ?_
      refine S_while (k := D) (ρ₁ := P (List.replicate D 57) D) (Whiles.of (P := P (List.replicate D 57)) (fun m hm => ⟨?_, ?_⟩) ?_) ?_
      · refine T_eq (T_bool (A_and (b₁ := true) (T_eq (by walk_at "T") (decide_eq_true (by omega))) (fun _ => A_and (b₁ := true) (T_eq (T_cmp (E_at (i := D - 1 - m) (c := 57) (by walk_at "E") (E_eq (a := .int ((D : Int) - 1 - (m : Nat))) (by walk_at "E") (congrArg PyData.int (hidx m hm))) (by rw [List.getElem?_replicate]; simp; omega) (by simp; omega)) (by walk_at "E") C_eqs) (by simp)) (fun _ => A_and0)))) rfl
      · walk_at "S"
        walk_at "end"
        exact congrArg PyData.int (by push_cast; omega)
      · exact T_eq (T_bool (A_and (b₁ := false) (b₂ := false) (T_eq (by walk_at "T") (decide_eq_false (by omega))) (fun h => by cases h))) rfl
      · refine S_if (by walk_at "T") (fun h => absurd (of_decide_eq_true h) (by omega)) (fun _ => ?_)
        refine S_assign (E_eq (b := .str (tx (49 :: List.replicate (D - 1) 48))) (E_bin (by walk_at "E") (E_bin (by walk_at "E") (E_bin (by walk_at "E") (E_ife (d := .int 1) (by walk_at "T") (fun h => absurd h (by decide)) (fun _ => by walk_at "E")) B_sub) (B_strmul (by rw [ofs_0]; exact mulok (by omega) (by omega)))) (B_adds (by rw [ofs_0, tx_mul, show Str.ofString "1" = tx [49] by decide +kernel, tx_len, tx_len]; unfold sizeLine; simp; omega)))
          (by rw [ofs_0, tx_mul, show Str.ofString "1" = tx [49] by decide +kernel, tx_add]; congr 2; rw [show ((D : Int) - 1).toNat = D - 1 by omega]; rfl)) (by walk_at "upd") ?_
        walk_at "S"
        walk_at "ret"
        rfl
    · have hDj : A.length + 1 + j = D := by rw [h9] at hlenD; simp at hlenD; omega
      have ha2 : 48 ≤ a ∧ a ≤ 57 := hd a (List.mem_of_mem_take (h9 ▸ by simp : a ∈ l.take D))
      rw [h9]
      refine S_weak (ρ' := P (A ++ a :: List.replicate j 57) 0) (by walk_at "weak"; simp) ?_
      have hai : (A ++ a :: List.replicate j 57)[A.length]? = some a := by rw [List.getElem?_append_right (by omega)]; simp
      refine S_while (k := j) (ρ₁ := P (A ++ a :: List.replicate j 57) j) (Whiles.of (P := P (A ++ a :: List.replicate j 57)) (fun m hm => ⟨?_, ?_⟩) ?_) ?_
      · refine T_eq (T_bool (A_and (b₁ := true) (T_eq (by walk_at "T") (decide_eq_true (by omega))) (fun _ => A_and (b₁ := true) (T_eq (T_cmp (E_at (i := D - 1 - m) (c := 57) (by walk_at "E") (E_eq (a := .int ((D : Int) - 1 - (m : Nat))) (by walk_at "E") (congrArg PyData.int (hidx m (by omega)))) (by
          rw [List.getElem?_append_right (by omega), show D - 1 - m - A.length = (j - 1 - m) + 1 by omega, List.getElem?_cons_succ, List.getElem?_replicate]; simp; omega) (by simp; omega)) (by walk_at "E") C_eqs) (by simp)) (fun _ => A_and0)))) rfl
      · walk_at "S"
        walk_at "end"
        exact congrArg PyData.int (by push_cast; omega)
      · exact T_eq (T_bool (A_and (b₁ := true) (b₂ := false) (T_eq (by walk_at "T") (decide_eq_true (by omega))) (fun _ => T_A (T_eq (T_cmp (E_at (i := A.length) (c := a) (by walk_at "E") (E_eq (a := .int ((D : Int) - 1 - (j : Nat))) (by walk_at "E") (congrArg PyData.int (by omega))) hai (by simp; omega)) (by walk_at "E") C_eqs) (by rw [tx1_eq rfl]; exact decide_eq_false ha))))) rfl
      · have hin := int1 ha2.1 ha2.2
        refine S_if (T_eq (b₂ := true) (by walk_at "T") (decide_eq_true (by omega))) (fun _ => ?_) (fun h => by cases h)
        have gi : ∀ {u : PV}, (u = .int ((D : Int) - 1 - (j : Nat))) → u = .int ((A.length : Nat) : Int) := fun h => h.trans (congrArg PyData.int (by omega))
        refine S_assign (E_eq (b := .str (tx (A ++ (a + 1) :: List.replicate j 48))) (E_bin (E_bin (E_pre (k := A.length) (by walk_at "E") (E_eq (by walk_at "E") (gi rfl)) (by simp) (by simp; omega))
          (E_eq (b := .str (tx [a + 1])) (E_stritem (by walk_at "E") (E_bin (E_bi bi_int (by walk_at "mem") rfl (L_cons (E_at (i := A.length) (by walk_at "E") (E_eq (by walk_at "E") (gi rfl)) hai (by simp; omega)) (L_cons (by walk_at "E") L_nil)) hin) (by walk_at "E") B_add) (by unfold fitsSsize; simp; omega) (by simp only [show std.length = 36 by decide +kernel]; omega) (by simp only [show std.length = 36 by decide +kernel]; omega)) (congrArg PyData.str (std_succ ha2.1 (by omega)))) (B_adds (by rw [tx_len, tx_len]; unfold sizeLine; simp; omega)))
          (E_bin (by walk_at "E") (E_bin (E_bin (by walk_at "E") (by walk_at "E") B_sub) (by walk_at "E") B_sub) (B_strmul (by rw [ofs_0]; exact mulok (by omega) (by omega)))) (B_adds (by rw [ofs_0, tx_mul, tx_add, tx_len, tx_len]; unfold sizeLine; simp; omega)))
          (by rw [ofs_0, tx_mul, tx_add, tx_add]; congr 2; rw [show ((D : Int) - (↑D - 1 - ↑j) - 1).toNat = j by omega]; simp)) (by walk_at "upd") ?_
        walk_at "S"
        walk_at "ret"
        rfl
end Mine
end

-- WcF
section
namespace Mine
open PySem.Builtin (bitAnd bitXor)
open PySem.Builtin.Int (intBits)
local macro_rules | `(tactic| walk_at "mem") => `(tactic| with_reducible (first | exact List.mem_cons_self | (refine List.mem_cons_of_mem _ ?_; walk_at "mem")))
local macro_rules | `(tactic| walk_at "upd") => `(tactic| with_reducible (first | exact Upd.head | (apply Upd.tail; walk_at "upd")))
local macro_rules | `(tactic| walk_at "upds") => `(tactic| first | exact Upds.nil | exact Upds.cons (by walk_at "upd") (by walk_at "upds"))
local macro_rules | `(tactic| walk_at "names") => `(tactic| first | exact Names.nil | exact Names.cons (by walk_at "names"))
local macro_rules | `(tactic| walk_at "side") => `(tactic| first | assumption | decide | omega)
local macro_rules | `(tactic| walk_at "B") => `(tactic| with_reducible first
  | exact B_add | exact B_sub | (show BinV .Mult _ _ _; exact B_mul (by walk_at "side")) | (show BinV .FloorDiv _ _ _; exact B_fdiv (by walk_at "side") (by walk_at "side")) | (show BinV .Mod _ _ _; exact B_mod (by walk_at "side"))
  | (show BinV .LShift _ _ _; exact B_shl (by walk_at "side") (by walk_at "side")) | (show BinV .RShift _ _ _; exact B_shr (by walk_at "side")) | (show BinV .Pow _ _ _; exact B_pow (by walk_at "side") (by walk_at "side"))
  | exact B_and | exact B_xor | (show BinV .Add (.str _) _ _; exact B_adds (by walk_at "side")))
local macro_rules | `(tactic| walk_at "I") => `(tactic| with_reducible first
  | exact I_add | exact I_sub | (show IBinV .LShift _ _ _; exact I_shl (by walk_at "side") (by walk_at "side")) | (show IBinV .RShift _ _ _; exact I_shr (by walk_at "side")) | exact I_xor | (show IBinV .Add (.str _) _ _; exact I_adds (by walk_at "side")))
local macro_rules | `(tactic| walk_at "C") => `(tactic| with_reducible first
  | exact C_eq | exact C_ne | exact C_lt | exact C_le | exact C_gt | exact C_ge | exact C_eqs | exact C_nes
  | (show CmpV .Eq (.tuple _) (.tuple _) _; exact C_eqd (by with_unfolding_all rfl) (by with_unfolding_all rfl) (by with_unfolding_all exact Nat.le_of_ble_eq_true rfl))
  | (show CmpV .NotEq (.tuple _) (.tuple _) _; exact C_ned (by with_unfolding_all rfl) (by with_unfolding_all rfl) (by with_unfolding_all exact Nat.le_of_ble_eq_true rfl)))
local macro_rules | `(tactic| walk_at "U") => `(tactic| with_reducible first | exact U_neg | (show UnV .Not _ _; exact U_not (by walk_at "R")))
local macro_rules | `(tactic| walk_at "R") => `(tactic| with_reducible first | exact R_int | exact R_bool | (show TruV (.str _) _; exact R_str (by walk_at "side")))
local macro_rules | `(tactic| walk_at "G") => `(tactic| with_reducible first
  | exact gl_fzero | exact gl_zero | exact gl_one | exact gl_near | exact gl_floor | exact gl_ceil | exact gl_up | exact gl_down | exact gl_fnan | exact gl_finf | exact gl_fninf | exact gl_blog | exact gl_digits)
local macro_rules | `(tactic| walk_at "L") => `(tactic| with_reducible first | exact L_nil | (show EvL _ _ _ _ (_ :: _) _ _; exact L_cons (by walk_at "E") (by walk_at "L")))
local macro_rules | `(tactic| walk_at "M0") => `(tactic| with_reducible first | exact M_bitlen | (show Meth0 _ (.str _) _; first | exact M_strip (by walk_at "side") | exact M_lower (by walk_at "side")))
local macro_rules | `(tactic| walk_at "K") => `(tactic| with_reducible first | assumption | exact K_int | exact K_abs | exact K_max | exact K_min | (show CallV (.builtin "len") _ _; exact K_len (by walk_at "side")) | (show CallV (.builtin "divmod") _ _; exact K_divmod (by walk_at "side") (by walk_at "side")))
local macro_rules | `(tactic| walk_at "Ebi") => `(tactic| with_reducible first
  | (show EvE _ _ _ _ (.Call (.Name (Str.ofString "int") _) _ _ _) _ _; exact E_bi bi_int (by walk_at "mem") rfl (by walk_at "L") (by walk_at "K"))
  | (show EvE _ _ _ _ (.Call (.Name (Str.ofString "len") _) _ _ _) _ _; exact E_bi bi_len (by walk_at "mem") rfl (by walk_at "L") (by walk_at "K"))
  | (show EvE _ _ _ _ (.Call (.Name (Str.ofString "abs") _) _ _ _) _ _; exact E_bi bi_abs (by walk_at "mem") rfl (by walk_at "L") (by walk_at "K"))
  | (show EvE _ _ _ _ (.Call (.Name (Str.ofString "max") _) _ _ _) _ _; exact E_bi bi_max (by walk_at "mem") rfl (by walk_at "L") (by walk_at "K"))
  | (show EvE _ _ _ _ (.Call (.Name (Str.ofString "min") _) _ _ _) _ _; exact E_bi bi_min (by walk_at "mem") rfl (by walk_at "L") (by walk_at "K"))
  | (show EvE _ _ _ _ (.Call (.Name (Str.ofString "divmod") _) _ _ _) _ _; exact E_bi bi_divmod (by walk_at "mem") rfl (by walk_at "L") (by walk_at "K"))
  | (show EvE _ _ _ _ (.Call (.Name (Str.ofString "str") _) _ _ _) _ _; exact E_bi bi_str (by walk_at "mem") rfl (by walk_at "L") (by walk_at "K"))
  | (show EvE _ _ _ _ (.Call (.Name (Str.ofString "pow") _) _ _ _) _ _; exact E_bi bi_pow (by walk_at "mem") rfl (by walk_at "L") (by walk_at "K"))
  | (show EvE _ _ _ _ (.Call (.Name (Str.ofString "isinstance") _) _ _ _) _ _; exact E_isint (by walk_at "mem") (by walk_at "mem") (by walk_at "E")))
local macro_rules | `(tactic| walk_at "E") => `(tactic| with_reducible first
  | assumption
  | (show EvE _ _ _ _ (.Name _ _) _ _; first | exact E_name (by walk_at "mem") | exact E_gl (by walk_at "mem") (by walk_at "G"))
  | exact E_int
  | (show EvE _ _ _ _ (.BinOp _ _ _ _) _ _; exact E_bin (by walk_at "E") (by walk_at "E") (by walk_at "B"))
  | exact E_str | exact E_bool | exact E_none
  | (show EvE _ _ _ _ (.UnaryOp _ _ _) _ _; exact E_un (by walk_at "E") (by walk_at "U"))
  | (show EvE _ _ _ _ (.Tuple _ _ _) _ _; exact E_tup (by walk_at "L"))
  | (show EvE _ _ _ _ (.Call (.Name _ _) _ _ _) _ _; first | walk_at "Ebi" | exact E_call (by walk_at "mem") (by walk_at "L") (by assumption))
  | (show EvE _ _ _ _ (.BoolOp .Or [_, _] _) _ _; exact E_orp (by walk_at "E") (by walk_at "side"))
  | (show EvE _ _ _ _ (.Call (.Attribute _ _ _) [] [] _) _ _; exact E_meth0 (by walk_at "E") (by walk_at "M0"))
  | (show EvE _ _ _ _ (.Compare _ [_] [_] _) _ _; exact E_cmp (by walk_at "E") (by walk_at "E") (by walk_at "C")))
local macro_rules | `(tactic| walk_at "T") => `(tactic| with_reducible first
  | assumption
  | (show EvT _ _ _ _ (.UnaryOp .Not _ _) _ _; exact T_not (by walk_at "T")) | (show EvT _ _ _ _ (.Compare _ [_] [_] _) _ _; exact T_cmp (by walk_at "E") (by walk_at "E") (by walk_at "C"))
  | (show EvT _ _ _ _ (.Compare _ [_, _] [_, _] _) _ _; exact T_chain (by walk_at "E") (by walk_at "E") (by walk_at "C") (fun _ => by walk_at "E") (fun _ => by walk_at "C"))
  | (show EvT _ _ _ _ (.BoolOp _ _ _) _ _; exact T_bool (by walk_at "A")) | exact T_val (by walk_at "E") (by walk_at "R"))
local macro_rules | `(tactic| walk_at "A") => `(tactic| with_reducible first
  | exact A_and0 | exact A_or0 | (show EvA _ _ _ _ .And _ _ _; exact A_and (by walk_at "T") (fun _ => by walk_at "A")) | exact A_or (by walk_at "T") (fun _ => by walk_at "A"))
local macro_rules | `(tactic| walk_at "S1") => `(tactic| with_reducible first
  | refine S_pop ?_
  | (show Exs _ _ _ _ ((.Assign [.Name _ _] _ _ :: _) :: _) _; refine S_assign (by walk_at "E") (by walk_at "upd") ?_)
  | (show Exs _ _ _ _ ((.AugAssign _ _ _ _ :: _) :: _) _; refine S_aug (by walk_at "mem") (by walk_at "E") (by walk_at "I") (by walk_at "upd") ?_)
  | (show Exs _ _ _ _ ((.Assign [.Tuple _ _ _] _ _ :: _) :: _) _; refine S_unpack (by walk_at "E") (by walk_at "names") (by walk_at "upds") ?_))
local macro_rules | `(tactic| walk_at "S") => `(tactic| repeat walk_at "S1")
local macro_rules | `(tactic| walk_at "ret") => `(tactic| (with_reducible show Exs _ _ _ _ ((.Return _ _ :: _) :: _) _; with_reducible apply S_ret'; walk_at "E"))
local macro_rules | `(tactic| walk_at "weak") => `(tactic| with_reducible first | exact Weak.nil | (apply Weak.skip; walk_at "weak") | (apply Weak.same; walk_at "weak") | (apply Weak.keep; rotate_left; walk_at "weak"))
local macro_rules | `(tactic| walk_at "end") => `(tactic| ((repeat (with_reducible refine S_pop ?_)); with_reducible apply S_end'; walk_at "weak"))
local macro_rules | `(tactic| walk_at "weak") => `(tactic| with_reducible first | exact Weak.nil | (apply Weak.skip; walk_at "weak") | (apply Weak.same; walk_at "weak") | (apply Weak.keep; rotate_left; walk_at "weak"))
local macro_rules | `(tactic| walk_at "end") => `(tactic| ((repeat (with_reducible refine S_pop ?_)); with_reducible apply S_end'; walk_at "weak"))
local macro_rules | `(tactic| walk_at "M1") => `(tactic| with_reducible first | assumption)
local macro_rules | `(tactic| walk_at "M0") => `(tactic| with_reducible first | assumption)
local macro_rules | `(tactic| walk_at "C") => `(tactic| with_reducible first | assumption)
local macro_rules | `(tactic| walk_at "E") => `(tactic| with_reducible first
  | (show EvE _ _ _ _ (.Call (.Attribute _ _ _) [.Constant _ _ _, .Constant _ _ _] [] _) _ _; exact E_replace' (by walk_at "E") (by assumption) (by decide +kernel) (by walk_at "side"))
  | (show EvE _ _ _ _ (.Call (.Attribute _ _ _) [_] [] _) _ _; exact E_meth1 (by walk_at "E") (by walk_at "E") (by walk_at "M1"))
  | (show EvE _ _ _ _ (.NamedExpr (.Name _ _) _ _) _ _; exact E_named (by walk_at "E") (by walk_at "upd"))
  | (show EvE _ _ _ _ (.Subscript _ (.Constant (.int _) _ _) _) _ _; exact E_listitem (by walk_at "E") (by walk_at "E") (by decide) (by decide) (by with_unfolding_all exact rfl)))
local macro_rules | `(tactic| walk_at "S1") => `(tactic| with_reducible first
  | (show Exs _ _ _ _ ((.Assign [.Tuple [.Name _ _, .Name _ _] _ _] (.Tuple [_, _] _ _) _ :: _) :: _) _; refine S_swap2 (by walk_at "L") (by walk_at "upd") (by walk_at "upd") ?_)
  | (show Exs _ _ _ _ ((.Assign [.Tuple [.Name _ _, .Name _ _, .Name _ _] _ _] (.Tuple [_, _, _] _ _) _ :: _) :: _) _; refine S_swap3 (by walk_at "L") (by walk_at "upd") (by walk_at "upd") (by walk_at "upd") ?_)
  | (show Exs _ _ _ _ ((.Assign [.Tuple _ _ _] _ _ :: _) :: _) _; refine S_unpackL (by walk_at "E") (by walk_at "names") (by walk_at "upds") ?_))
local macro_rules | `(tactic| walk_at "B") => `(tactic| with_reducible first | assumption)
theorem rs_app {a b : List Nat} {c d : Nat} (h : d ≠ c) : rs c (a ++ d :: b) = a ++ d :: rs c b := by
  unfold rs
  rw [List.reverse_append, List.reverse_cons, List.append_assoc, List.dropWhile_append]
  split
  · rename_i h2
    have h3 : b.reverse.dropWhile (· == c) = [] := by simpa using h2
    rw [h3]
    have : ((d == c) = false) := by simpa using h
    simp [List.dropWhile_cons, this]
  · simp
theorem rs_rs (c : Nat) (b : List Nat) : rs c (rs c b) = rs c b := by
  obtain ⟨k, e, h⟩ := rs_split c b
  unfold rs at h ⊢
  generalize (b.reverse.dropWhile (· == c)).reverse = l at *
  cases hl : l.reverse with
  | nil => simp at hl; subst hl; rfl
  | cons x r =>
    have : l.getLast? = some x := by rw [← List.head?_reverse, hl]; rfl
    have := h x this
    rw [List.dropWhile_cons, if_neg (by simpa using this), ← hl, List.reverse_reverse]
theorem dg_last_ne {l : List Nat} (h : Dg l) {c : Nat} (hc : l.getLast? = some c) : 48 ≤ c ∧ c ≤ 57 := h c (List.mem_of_mem_getLast? hc)

/-- the number's text out of the figures L with k of them ahead of the point and the exponent X -/
def bT (R : List Nat) : List Nat := if rs 48 R = [] then [48] else rs 48 R
def tsT (neg : Bool) (L : List Nat) (k X : Nat) : NumT := ⟨neg, L.take k, some (bT (L.drop k)), if X = 0 then none else some (43 :: ntx X, X)⟩
theorem bT_dg {R : List Nat} (h : Dg R) : Dg (bT R) ∧ bT R ≠ [] ∧ rs 48 (bT R) = rs 48 R ∧ (bT R).length ≤ R.length + 1 := by
  unfold bT
  obtain ⟨k, e, _⟩ := rs_split 48 R
  split
  · rename_i h2
    refine ⟨by intro c hc; simp at hc; omega, by simp, by rw [h2]; rfl, by simp⟩
  · rename_i h2
    refine ⟨h.rs, h2, rs_rs _ _, ?_⟩
    have := congrArg List.length e
    simp at this; omega
theorem ntx_small {X : Nat} (h : X < 20) : (ntx X).length ≤ 2 := ntx_len (by decide) (by omega)
theorem tsT_ok {neg : Bool} {L : List Nat} {k X : Nat} (hL : Dg L) (hk : 1 ≤ k) (hk2 : k ≤ L.length) (hl : L.length ≤ 250) (hX : X < 20) : (tsT neg L k X).Ok := by
  have hA : Dg (L.take k) := fun c hc => hL c (List.mem_of_mem_take hc)
  have hR : Dg (L.drop k) := fun c hc => hL c (List.mem_of_mem_drop hc)
  obtain ⟨b1, b2, b3, b4⟩ := bT_dg hR
  have hnx := ntx_small hX
  have hsg : (sgt neg).length ≤ 1 := by cases neg <;> simp [sgt]
  refine ⟨hA, ?_, ?_, ?_, ?_, ?_⟩
  · intro h
    have : (L.take k).length = 0 := by show (L.take k).length = 0; rw [show L.take k = [] from h]; rfl
    rw [List.length_take] at this; omega
  · intro b hb
    cases hb
    exact ⟨b1, b2⟩
  · intro e v he
    simp only [tsT] at he
    split at he
    · cases he
    · cases he
      have h47 : 47 ∉ 43 :: ntx X := by
        intro hm; rcases List.mem_cons.mp hm with hm | hm
        · cases hm
        · exact dg_free (ntx_dg X) (by omega) hm
      have h101 : 101 ∉ 43 :: ntx X := by
        intro hm; rcases List.mem_cons.mp hm with hm | hm
        · cases hm
        · exact dg_free (ntx_dg X) (by omega) hm
      refine ⟨?_, okt.cons (by decide) (okt_dg (ntx_dg X)), h101, h47, ?_, by omega⟩
      · have : ∀ X : Nat, X < 20 → PySem.intText? (tx (43 :: ntx X)) = some ((X : Nat) : Int) := by decide +kernel
        exact this X hX
      · obtain ⟨c, h1, h2⟩ := dg_last (ntx_dg X) (ntx_ne X)
        exact ⟨c, last_cons h1, h2⟩
  · unfold NumT.text NumT.mant tsT
    simp only [pT, List.length_append, List.length_cons, List.length_take]
    have : (eT (if X = 0 then none else some (43 :: ntx X, (X : Int)))).length ≤ 4 := by
      split
      · simp [eT]
      · simp [eT]; omega
    rw [List.length_drop] at b4
    omega
  · intro e v he
    simp only [tsT] at he
    split at he
    · cases he
    · cases he
      intro i hi
      cases i with
      | zero =>
        intro h
        have : 45 ∈ ntx X := List.mem_of_getElem? (by simpa using h)
        exact dg_free (ntx_dg X) (by omega) this
      | succ i =>
        have : 43 ∈ ntx X := List.mem_of_getElem? (by simpa using hi)
        exact absurd this (dg_free (ntx_dg X) (by omega))
theorem tsT_val {neg : Bool} {L : List Nat} {k X : Nat} (hL : Dg L) (hk2 : k ≤ L.length) : (tsT neg L k X).val = (sgi neg (dv L) : Rat) * (10 : Rat) ^ ((X : Int) - (L.length - k : Nat)) := by
  have hR : Dg (L.drop k) := fun c hc => hL c (List.mem_of_mem_drop hc)
  obtain ⟨b1, b2, b3, b4⟩ := bT_dg hR
  have e1 : (tsT neg L k X).frac = rs 48 (L.drop k) := b3
  have e2 : (tsT neg L k X).exp = X - (rs 48 (L.drop k)).length := by
    unfold NumT.exp
    rw [e1]
    congr 1
    simp only [tsT]
    split
    · rename_i h; subst h; rfl
    · rfl
  unfold NumT.val NumT.man
  rw [e1, e2]
  have hd := dv_rs (L.take k) (L.drop k)
  rw [List.take_append_drop] at hd
  obtain ⟨j, ej, _⟩ := rs_split 48 (L.drop k)
  have hlen : (L.drop k).length = (rs 48 (L.drop k)).length + j := by
    have := congrArg List.length ej
    simpa using this
  rw [show (L.drop k).length - (rs 48 (L.drop k)).length = j by omega] at hd
  rw [List.length_drop] at hlen
  rw [hlen]
  show ((sgi neg (dv (L.take k ++ rs 48 (L.drop k))) : Int) : Rat) * _ = _
  rw [hd]
  have e3 : sgi neg (dv (L.take k ++ rs 48 (L.drop k)) * 10 ^ j) = sgi neg (dv (L.take k ++ rs 48 (L.drop k))) * 10 ^ j := by
    unfold sgi
    split <;> push_cast <;> grind
  rw [e3, Rat.intCast_mul]
  have e4 : ((10 ^ j : Int) : Rat) = (10 : Rat) ^ (j : Int) := ten_nat j
  rw [e4, Rat.mul_assoc, ← Rat.zpow_add (by decide)]
  congr 2
  push_cast
  omega

/-- where the point stands -/
theorem cut_ex {l' : List Nat} {D : Nat} {E : Int} (hd : Dg l') (hl : l'.length = D) (hD : 6 ≤ D) (hD2 : D ≤ 100) (hE : -5 < E) (hE2 : E < 20) :
    ∃ (L : List Nat) (k X : Nat), Dg L ∧ 1 ≤ k ∧ k ≤ L.length ∧ L.length ≤ 250 ∧ X < 20 ∧ dv L = dv l' ∧ (X : Int) - (L.length - k : Nat) = E - (D - 1) ∧
      ((E < 0 ∧ L = List.replicate (-E).toNat 48 ++ l' ∧ k = 1 ∧ X = 0) ∨ (0 ≤ E ∧ E < D ∧ L = l' ∧ (k : Int) = E + 1 ∧ X = 0) ∨ ((D : Int) ≤ E ∧ L = l' ∧ k = 1 ∧ (X : Int) = E)) := by
  by_cases h1 : E < 0
  · refine ⟨List.replicate (-E).toNat 48 ++ l', 1, 0, ?_, by omega, by simp; omega, by simp; omega, by omega, ?_, by simp; omega, .inl ⟨h1, rfl, rfl, rfl⟩⟩
    · intro c hc
      rcases List.mem_append.mp hc with hc | hc
      · have := (List.mem_replicate.mp hc).2; omega
      · exact hd c hc
    · rw [dv_app, dv_zeros]; simp
  · by_cases h2 : E < D
    · exact ⟨l', (E + 1).toNat, 0, hd, by omega, by omega, by omega, by omega, rfl, by omega, .inr (.inl ⟨by omega, h2, rfl, by omega, rfl⟩)⟩
    · exact ⟨l', 1, E.toNat, hd, by omega, by omega, by omega, by omega, rfl, by omega, .inr (.inr ⟨by omega, rfl, rfl, by omega⟩)⟩

theorem sp_str0 {w : World} {D : Int} (hD : D ≠ 0) : FnSpec w 4 "to_str" [pvM 0 0, .int D] (.str (tx [48, 46, 48])) := by
  refine fn_intro (Γ := ["ValueError", "round_nearest", "round_floor", "round_ceiling", "round_up", "round_down", "fzero", "finf", "fninf", "fnan", "min", "to_digits_exp", "stddigits", "int", "hex", "round_digits"]) 238 (by kernel_rfl) (by rfl) (by kernel_rfl) ["s", "dps", "strip_zeros", "min_fixed", "max_fixed", "show_zero_exponent", "base", "binary_exp", "rnd"] ["sep", "prefix", "t", "sign", "digits", "exponent", "rnd_digs", "exp_add", "split"]
    [pvM 0 0, .int D, .bool true, .none, .none, .bool false, .int 10, .bool false, .str "n"] (by decide +kernel) rfl ?_ ?_
  · intro s vs ks H ra rk
    obtain ⟨v1, v2, rfl, r1, r2⟩ := repAll2 ra
    obtain rfl := rk.unnil
    exact ⟨[v1, v2, .bool true, .none, .none, .bool false, .int 10 _, .bool false, .str "n" _], binds_K (K := KK w) H.K rfl (by rfl) rfl rfl rfl, .cons r1 (.cons r2 (.cons rep_bool (.cons rep_none (.cons rep_none (.cons rep_bool (.cons rep_int (.cons rep_bool (.cons rep_str .nil))))))))⟩
  intro ρ hρ; simp only [envZip_cons, envZip_nil, envZip_nil'] at hρ; subst hρ
  refine S_assign (E_ife (by walk_at "T") (fun h => absurd h (by decide)) (fun _ => by walk_at "E")) (by walk_at "upd") ?_
  refine S_if (by walk_at "T") (fun h => absurd h (by decide)) (fun _ => ?_)
  walk_at "S"
  refine S_if (T_eq (b₂ := false) (T_cmp (by walk_at "E") (by walk_at "E") (C_notintup (by decide +kernel) (by decide +kernel) (by decide +kernel))) (by decide +kernel)) (fun h => by cases h) (fun _ => ?_)
  walk_at "S"
  refine S_if (by walk_at "T") (fun h => absurd h (by decide)) (fun _ => ?_)
  refine S_if (by walk_at "T") (fun h => absurd h (by decide)) (fun _ => ?_)
  refine S_if (by walk_at "T") (fun h => absurd h (by decide)) (fun _ => ?_)
  walk_at "S"
  refine S_if (T_not (T_val (E_tupitem (by walk_at "E") (by walk_at "E") (by decide) (by decide) (j := 1) rfl rfl) R_int)) (fun _ => ?_) (fun h => absurd h (by decide))
  refine S_if (by walk_at "T") (fun _ => ?_) (fun h => absurd h (by decide))
  refine S_if (by walk_at "T") (fun _ => ?_) (fun h => absurd h (by simpa using hD))
  walk_at "S"
  refine S_if (by walk_at "T") (fun h => absurd h (by decide)) (fun _ => ?_)
  walk_at "S"
  walk_at "ret"
  exact congrArg PyData.str (show _ = tx [48, 46, 48] by decide +kernel)
end Mine
end

-- WcG
section
namespace Mine
open PySem.Builtin (bitAnd bitXor)
open PySem.Builtin.Int (intBits)
local macro_rules | `(tactic| walk_at "mem") => `(tactic| with_reducible (first | exact List.mem_cons_self | (refine List.mem_cons_of_mem _ ?_; walk_at "mem")))
local macro_rules | `(tactic| walk_at "upd") => `(tactic| with_reducible (first | exact Upd.head | (apply Upd.tail; walk_at "upd")))
local macro_rules | `(tactic| walk_at "upds") => `(tactic| first | exact Upds.nil | exact Upds.cons (by walk_at "upd") (by walk_at "upds"))
local macro_rules | `(tactic| walk_at "names") => `(tactic| first | exact Names.nil | exact Names.cons (by walk_at "names"))
local macro_rules | `(tactic| walk_at "side") => `(tactic| first | assumption | decide | omega)
local macro_rules | `(tactic| walk_at "B") => `(tactic| with_reducible first
  | exact B_add | exact B_sub | (show BinV .Mult _ _ _; exact B_mul (by walk_at "side")) | (show BinV .FloorDiv _ _ _; exact B_fdiv (by walk_at "side") (by walk_at "side")) | (show BinV .Mod _ _ _; exact B_mod (by walk_at "side"))
  | (show BinV .LShift _ _ _; exact B_shl (by walk_at "side") (by walk_at "side")) | (show BinV .RShift _ _ _; exact B_shr (by walk_at "side")) | (show BinV .Pow _ _ _; exact B_pow (by walk_at "side") (by walk_at "side"))
  | exact B_and | exact B_xor | (show BinV .Add (.str _) _ _; exact B_adds (by walk_at "side")))
local macro_rules | `(tactic| walk_at "I") => `(tactic| with_reducible first
  | exact I_add | exact I_sub | (show IBinV .LShift _ _ _; exact I_shl (by walk_at "side") (by walk_at "side")) | (show IBinV .RShift _ _ _; exact I_shr (by walk_at "side")) | exact I_xor | (show IBinV .Add (.str _) _ _; exact I_adds (by walk_at "side")))
local macro_rules | `(tactic| walk_at "C") => `(tactic| with_reducible first
  | exact C_eq | exact C_ne | exact C_lt | exact C_le | exact C_gt | exact C_ge | exact C_eqs | exact C_nes
  | (show CmpV .Eq (.tuple _) (.tuple _) _; exact C_eqd (by with_unfolding_all rfl) (by with_unfolding_all rfl) (by with_unfolding_all exact Nat.le_of_ble_eq_true rfl))
  | (show CmpV .NotEq (.tuple _) (.tuple _) _; exact C_ned (by with_unfolding_all rfl) (by with_unfolding_all rfl) (by with_unfolding_all exact Nat.le_of_ble_eq_true rfl)))
local macro_rules | `(tactic| walk_at "U") => `(tactic| with_reducible first | exact U_neg | (show UnV .Not _ _; exact U_not (by walk_at "R")))
local macro_rules | `(tactic| walk_at "R") => `(tactic| with_reducible first | exact R_int | exact R_bool | (show TruV (.str _) _; exact R_str (by walk_at "side")))
local macro_rules | `(tactic| walk_at "G") => `(tactic| with_reducible first
  | exact gl_fzero | exact gl_zero | exact gl_one | exact gl_near | exact gl_floor | exact gl_ceil | exact gl_up | exact gl_down | exact gl_fnan | exact gl_finf | exact gl_fninf | exact gl_blog | exact gl_digits)
local macro_rules | `(tactic| walk_at "L") => `(tactic| with_reducible first | exact L_nil | (show EvL _ _ _ _ (_ :: _) _ _; exact L_cons (by walk_at "E") (by walk_at "L")))
local macro_rules | `(tactic| walk_at "M0") => `(tactic| with_reducible first | exact M_bitlen | (show Meth0 _ (.str _) _; first | exact M_strip (by walk_at "side") | exact M_lower (by walk_at "side")))
local macro_rules | `(tactic| walk_at "K") => `(tactic| with_reducible first | assumption | exact K_int | exact K_abs | exact K_max | exact K_min | (show CallV (.builtin "len") _ _; exact K_len (by walk_at "side")) | (show CallV (.builtin "divmod") _ _; exact K_divmod (by walk_at "side") (by walk_at "side")))
local macro_rules | `(tactic| walk_at "Ebi") => `(tactic| with_reducible first
  | (show EvE _ _ _ _ (.Call (.Name (Str.ofString "int") _) _ _ _) _ _; exact E_bi bi_int (by walk_at "mem") rfl (by walk_at "L") (by walk_at "K"))
  | (show EvE _ _ _ _ (.Call (.Name (Str.ofString "len") _) _ _ _) _ _; exact E_bi bi_len (by walk_at "mem") rfl (by walk_at "L") (by walk_at "K"))
  | (show EvE _ _ _ _ (.Call (.Name (Str.ofString "abs") _) _ _ _) _ _; exact E_bi bi_abs (by walk_at "mem") rfl (by walk_at "L") (by walk_at "K"))
  | (show EvE _ _ _ _ (.Call (.Name (Str.ofString "max") _) _ _ _) _ _; exact E_bi bi_max (by walk_at "mem") rfl (by walk_at "L") (by walk_at "K"))
  | (show EvE _ _ _ _ (.Call (.Name (Str.ofString "min") _) _ _ _) _ _; exact E_bi bi_min (by walk_at "mem") rfl (by walk_at "L") (by walk_at "K"))
  | (show EvE _ _ _ _ (.Call (.Name (Str.ofString "divmod") _) _ _ _) _ _; exact E_bi bi_divmod (by walk_at "mem") rfl (by walk_at "L") (by walk_at "K"))
  | (show EvE _ _ _ _ (.Call (.Name (Str.ofString "str") _) _ _ _) _ _; exact E_bi bi_str (by walk_at "mem") rfl (by walk_at "L") (by walk_at "K"))
  | (show EvE _ _ _ _ (.Call (.Name (Str.ofString "pow") _) _ _ _) _ _; exact E_bi bi_pow (by walk_at "mem") rfl (by walk_at "L") (by walk_at "K"))
  | (show EvE _ _ _ _ (.Call (.Name (Str.ofString "isinstance") _) _ _ _) _ _; exact E_isint (by walk_at "mem") (by walk_at "mem") (by walk_at "E")))
local macro_rules | `(tactic| walk_at "E") => `(tactic| with_reducible first
  | assumption
  | (show EvE _ _ _ _ (.Name _ _) _ _; first | exact E_name (by walk_at "mem") | exact E_gl (by walk_at "mem") (by walk_at "G"))
  | exact E_int
  | (show EvE _ _ _ _ (.BinOp _ _ _ _) _ _; exact E_bin (by walk_at "E") (by walk_at "E") (by walk_at "B"))
  | exact E_str | exact E_bool | exact E_none
  | (show EvE _ _ _ _ (.UnaryOp _ _ _) _ _; exact E_un (by walk_at "E") (by walk_at "U"))
  | (show EvE _ _ _ _ (.Tuple _ _ _) _ _; exact E_tup (by walk_at "L"))
  | (show EvE _ _ _ _ (.Call (.Name _ _) _ _ _) _ _; first | walk_at "Ebi" | exact E_call (by walk_at "mem") (by walk_at "L") (by assumption))
  | (show EvE _ _ _ _ (.BoolOp .Or [_, _] _) _ _; exact E_orp (by walk_at "E") (by walk_at "side"))
  | (show EvE _ _ _ _ (.Call (.Attribute _ _ _) [] [] _) _ _; exact E_meth0 (by walk_at "E") (by walk_at "M0"))
  | (show EvE _ _ _ _ (.Compare _ [_] [_] _) _ _; exact E_cmp (by walk_at "E") (by walk_at "E") (by walk_at "C")))
local macro_rules | `(tactic| walk_at "T") => `(tactic| with_reducible first
  | assumption
  | (show EvT _ _ _ _ (.UnaryOp .Not _ _) _ _; exact T_not (by walk_at "T")) | (show EvT _ _ _ _ (.Compare _ [_] [_] _) _ _; exact T_cmp (by walk_at "E") (by walk_at "E") (by walk_at "C"))
  | (show EvT _ _ _ _ (.Compare _ [_, _] [_, _] _) _ _; exact T_chain (by walk_at "E") (by walk_at "E") (by walk_at "C") (fun _ => by walk_at "E") (fun _ => by walk_at "C"))
  | (show EvT _ _ _ _ (.BoolOp _ _ _) _ _; exact T_bool (by walk_at "A")) | exact T_val (by walk_at "E") (by walk_at "R"))
local macro_rules | `(tactic| walk_at "A") => `(tactic| with_reducible first
  | exact A_and0 | exact A_or0 | (show EvA _ _ _ _ .And _ _ _; exact A_and (by walk_at "T") (fun _ => by walk_at "A")) | exact A_or (by walk_at "T") (fun _ => by walk_at "A"))
local macro_rules | `(tactic| walk_at "S1") => `(tactic| with_reducible first
  | refine S_pop ?_
  | (show Exs _ _ _ _ ((.Assign [.Name _ _] _ _ :: _) :: _) _; refine S_assign (by walk_at "E") (by walk_at "upd") ?_)
  | (show Exs _ _ _ _ ((.AugAssign _ _ _ _ :: _) :: _) _; refine S_aug (by walk_at "mem") (by walk_at "E") (by walk_at "I") (by walk_at "upd") ?_)
  | (show Exs _ _ _ _ ((.Assign [.Tuple _ _ _] _ _ :: _) :: _) _; refine S_unpack (by walk_at "E") (by walk_at "names") (by walk_at "upds") ?_))
local macro_rules | `(tactic| walk_at "S") => `(tactic| repeat walk_at "S1")
local macro_rules | `(tactic| walk_at "ret") => `(tactic| (with_reducible show Exs _ _ _ _ ((.Return _ _ :: _) :: _) _; with_reducible apply S_ret'; walk_at "E"))
local macro_rules | `(tactic| walk_at "weak") => `(tactic| with_reducible first | exact Weak.nil | (apply Weak.skip; walk_at "weak") | (apply Weak.same; walk_at "weak") | (apply Weak.keep; rotate_left; walk_at "weak"))
local macro_rules | `(tactic| walk_at "end") => `(tactic| ((repeat (with_reducible refine S_pop ?_)); with_reducible apply S_end'; walk_at "weak"))
local macro_rules | `(tactic| walk_at "weak") => `(tactic| with_reducible first | exact Weak.nil | (apply Weak.skip; walk_at "weak") | (apply Weak.same; walk_at "weak") | (apply Weak.keep; rotate_left; walk_at "weak"))
local macro_rules | `(tactic| walk_at "end") => `(tactic| ((repeat (with_reducible refine S_pop ?_)); with_reducible apply S_end'; walk_at "weak"))
local macro_rules | `(tactic| walk_at "M1") => `(tactic| with_reducible first | assumption)
local macro_rules | `(tactic| walk_at "M0") => `(tactic| with_reducible first | assumption)
local macro_rules | `(tactic| walk_at "C") => `(tactic| with_reducible first | assumption)
local macro_rules | `(tactic| walk_at "E") => `(tactic| with_reducible first
  | (show EvE _ _ _ _ (.Call (.Attribute _ _ _) [.Constant _ _ _, .Constant _ _ _] [] _) _ _; exact E_replace' (by walk_at "E") (by assumption) (by decide +kernel) (by walk_at "side"))
  | (show EvE _ _ _ _ (.Call (.Attribute _ _ _) [_] [] _) _ _; exact E_meth1 (by walk_at "E") (by walk_at "E") (by walk_at "M1"))
  | (show EvE _ _ _ _ (.NamedExpr (.Name _ _) _ _) _ _; exact E_named (by walk_at "E") (by walk_at "upd"))
  | (show EvE _ _ _ _ (.Subscript _ (.Constant (.int _) _ _) _) _ _; exact E_listitem (by walk_at "E") (by walk_at "E") (by decide) (by decide) (by with_unfolding_all exact rfl)))
local macro_rules | `(tactic| walk_at "S1") => `(tactic| with_reducible first
  | (show Exs _ _ _ _ ((.Assign [.Tuple [.Name _ _, .Name _ _] _ _] (.Tuple [_, _] _ _) _ :: _) :: _) _; refine S_swap2 (by walk_at "L") (by walk_at "upd") (by walk_at "upd") ?_)
  | (show Exs _ _ _ _ ((.Assign [.Tuple [.Name _ _, .Name _ _, .Name _ _] _ _] (.Tuple [_, _, _] _ _) _ :: _) :: _) _; refine S_swap3 (by walk_at "L") (by walk_at "upd") (by walk_at "upd") (by walk_at "upd") ?_)
  | (show Exs _ _ _ _ ((.Assign [.Tuple _ _ _] _ _ :: _) :: _) _; refine S_unpackL (by walk_at "E") (by walk_at "names") (by walk_at "upds") ?_))
local macro_rules | `(tactic| walk_at "B") => `(tactic| with_reducible first | assumption)
theorem E_to {w : World} {n : Nat} {Γ : List Str} {ρ : PEnv} {e m : Expr} {pp pq : Pos} {k : Nat} {l : List Nat} (he : EvE w n Γ ρ e (.str (tx l)) ρ) (hm : EvE w n Γ ρ m (.int (k : Int)) ρ) (hk : k ≤ l.length) (hL : l.length ≤ 1000)
    (q2 : ∀ o r, letTemporaryGo e o r = pure () := by intros; with_unfolding_all rfl) :
    EvE w n Γ ρ (.Subscript e (.Slice (some m) none none pq) pp) (.str (tx (l.drop k))) ρ := by
  refine E_eq (E_slice he (O_some hm) O_none (by rw [tx_len]; unfold sizeLine; omega) q2) ?_
  exact congrArg PyData.str (tx_from l ⟨by omega, by omega⟩)
set_option maxHeartbeats 8000000 in
theorem sp_str {w : World} {z e E0 E x : Int} {D : Nat} {neg : Bool} {l l' L : List Nat} {k X : Nat} (hz : z ≠ 0) (hD : 6 ≤ D) (hD2 : D ≤ 100)
    (F1 : FnSpec w 3 "to_digits_exp" [pvM z e, .int (D + 10), .int 10] (.tuple [.str (tx (sgt neg)), .str (tx l), .int E0]))
    (F2 : FnSpec w 1 "round_digits" [.int (sg z), .str (tx l), .int D, .int 10, .str "n"] (.tuple [.str (tx l'), .int x])) (hE : E = E0 + x) (hE1 : -5 < E) (hE2 : E < 20) (hl : l'.length = D) (hd : Dg l')
    (hL : Dg L) (hk1 : 1 ≤ k) (hk : k ≤ L.length) (hLl : L.length ≤ 250) (hX : X < 20)
    (hc : ((E < 0 ∧ L = List.replicate (-E).toNat 48 ++ l' ∧ k = 1 ∧ X = 0) ∨ (0 ≤ E ∧ E < D ∧ L = l' ∧ (k : Int) = E + 1 ∧ X = 0) ∨ ((D : Int) ≤ E ∧ L = l' ∧ k = 1 ∧ (X : Int) = E))) :
    FnSpec w 4 "to_str" [pvM z e, .int D] (.str (tx (tsT neg L k X).text)) := by
  subst hE
  have hz' : z.natAbs ≠ 0 := by omega
  have p1 : BinV .FloorDiv (.int D) (.int 3) (.int ((D : Int).fdiv 3)) := B_fdiv (by decide) (by decide +kernel)
  have m3 : (if -5 < -((D : Int).fdiv 3) then -5 else -((D : Int).fdiv 3)) ≤ -5 := by split <;> omega
  generalize hmf : (if -5 < -((D : Int).fdiv 3) then -5 else -((D : Int).fdiv 3)) = mf at m3
  refine fn_intro (Γ := ["ValueError", "round_nearest", "round_floor", "round_ceiling", "round_up", "round_down", "fzero", "finf", "fninf", "fnan", "min", "to_digits_exp", "stddigits", "int", "hex", "round_digits"]) 238 (by kernel_rfl) (by rfl) (by kernel_rfl) ["s", "dps", "strip_zeros", "min_fixed", "max_fixed", "show_zero_exponent", "base", "binary_exp", "rnd"] ["sep", "prefix", "t", "sign", "digits", "exponent", "rnd_digs", "exp_add", "split"]
    [pvM z e, .int D, .bool true, .none, .none, .bool false, .int 10, .bool false, .str "n"] (by decide +kernel) rfl ?_ ?_
  · intro s vs ks H ra rk
    obtain ⟨v1, v2, rfl, r1, r2⟩ := repAll2 ra
    obtain rfl := rk.unnil
    exact ⟨[v1, v2, .bool true, .none, .none, .bool false, .int 10 _, .bool false, .str "n" _], binds_K (K := KK w) H.K rfl (by rfl) rfl rfl rfl, .cons r1 (.cons r2 (.cons rep_bool (.cons rep_none (.cons rep_none (.cons rep_bool (.cons rep_int (.cons rep_bool (.cons rep_str .nil))))))))⟩
  intro ρ hρ; simp only [envZip_cons, envZip_nil, envZip_nil'] at hρ; subst hρ
  refine S_assign (E_ife (by walk_at "T") (fun h => absurd h (by decide)) (fun _ => by walk_at "E")) (by walk_at "upd") ?_
  refine S_if (by walk_at "T") (fun h => absurd h (by decide)) (fun _ => ?_)
  walk_at "S"
  refine S_if (T_eq (b₂ := false) (T_cmp (by walk_at "E") (by walk_at "E") (C_notintup (by decide +kernel) (by decide +kernel) (by decide +kernel))) (by decide +kernel)) (fun h => by cases h) (fun _ => ?_)
  walk_at "S"
  refine S_if (by walk_at "T") (fun h => absurd h (by decide)) (fun _ => ?_)
  refine S_if (by walk_at "T") (fun h => absurd h (by decide)) (fun _ => ?_)
  refine S_if (by walk_at "T") (fun h => absurd h (by decide)) (fun _ => ?_)
  walk_at "S"
  refine S_if (T_not (T_val (E_tupitem (by walk_at "E") (by walk_at "E") (by decide) (by decide) (j := 1) rfl rfl) R_int)) (fun h => absurd h (by simpa using hz)) (fun _ => ?_)
  refine S_if (T_cmp (by walk_at "E") (by walk_at "E") C_isnone) (fun _ => ?_) (fun h => absurd h (by decide))
  refine S_assign (E_eq (b := .int mf) (E_bi bi_min (by walk_at "mem") rfl (L_cons (E_un (E_bin (by walk_at "E") (by walk_at "E") p1) U_neg) (L_cons (by walk_at "E") L_nil)) K_min) (congrArg PyData.int hmf)) (by walk_at "upd") ?_
  walk_at "S"
  refine S_if (T_cmp (by walk_at "E") (by walk_at "E") C_isnone) (fun _ => ?_) (fun h => absurd h (by decide))
  walk_at "S"
  refine S_assign (E_eq (E_slice (by walk_at "E") (O_some (E_bin (E_bin (by walk_at "E") (by walk_at "E") (B_fdiv (by decide) (by decide +kernel))) (E_bin (by walk_at "E") (by walk_at "E") (B_mod (by decide))) B_add)) (O_some (by walk_at "E")) (by decide +kernel)) (congrArg PyData.str (show _ = tx [53, 54, 55, 56, 57] by decide +kernel))) (by walk_at "upd") ?_
  refine S_if (T_eq (b₂ := false) (by walk_at "T") (by simp; omega)) (fun h => by cases h) (fun _ => ?_)
  refine S_if (T_eq (b₂ := false) (T_bool (A_and (b₁ := false) (b₂ := true) (by walk_at "T") (fun h => by cases h))) rfl) (fun h => by cases h) (fun _ => ?_)
  walk_at "S"
  refine S_unpack (E_call (by walk_at "mem") (L_cons (E_tupitem (by walk_at "E") (by walk_at "E") (by decide) (by decide) (j := 0) rfl rfl) (by walk_at "L")) F2) (by walk_at "names") (by walk_at "upds") ?_
  walk_at "S"
  refine S_join (ρ₁ := [("s", some (pvM z e)), ("dps", some (.int D)), ("strip_zeros", some (.bool true)), ("min_fixed", none), ("max_fixed", none), ("show_zero_exponent", some (.bool false)), ("base", some (.int 10)), ("binary_exp", none), ("rnd", none), ("sep", some (.str "e")), ("prefix", some (.str "")), ("t", none), ("sign", some (.str (tx (sgt neg)))), ("digits", some (.str (tx L))), ("exponent", some (.int X)), ("rnd_digs", none), ("exp_add", none), ("split", some (.int k))]) ?_ ?_
  · rcases hc with ⟨c1, rfl, rfl, rfl⟩ | ⟨c1, c2, rfl, c3, rfl⟩ | ⟨c1, rfl, rfl, c3⟩
    · refine S_if (T_eq (b₂ := true) (by walk_at "T") (by rw [decide_eq_true (show mf < E0 + x by omega), decide_eq_true (show E0 + x < D by omega)]; rfl)) (fun _ => ?_) (fun h => by cases h)
      refine S_if (T_eq (b₂ := true) (by walk_at "T") (decide_eq_true c1)) (fun _ => ?_) (fun h => by cases h)
      refine S_assign (E_eq (b := .str (tx (List.replicate (-(E0 + x)).toNat 48 ++ l'))) (E_bin (E_bin (by walk_at "E") (by walk_at "E") (B_strmul (by rw [ofs_0]; exact mulok (by omega) (by omega)))) (by walk_at "E") (B_adds (by rw [ofs_0, tx_mul, tx_len, tx_len]; unfold sizeLine; simp; omega))) (by rw [ofs_0, tx_mul, tx_add])) (by walk_at "upd") ?_
      walk_at "S"
      walk_at "end"
      all_goals first | rfl | exact congrArg PyData.int (by omega)
    · refine S_if (T_eq (b₂ := true) (by walk_at "T") (by rw [decide_eq_true (show mf < E0 + x by omega), decide_eq_true (show E0 + x < D by omega)]; rfl)) (fun _ => ?_) (fun h => by cases h)
      refine S_if (T_eq (b₂ := false) (by walk_at "T") (decide_eq_false (by omega))) (fun h => by cases h) (fun _ => ?_)
      walk_at "S"
      refine S_if (T_eq (b₂ := false) (by walk_at "T") (decide_eq_false (by omega))) (fun h => by cases h) (fun _ => ?_)
      walk_at "S"
      walk_at "end"
      all_goals first | rfl | exact congrArg PyData.int (by omega)
    · refine S_if (T_eq (b₂ := false) (by walk_at "T") (by rw [decide_eq_false (show ¬ E0 + x < D by omega)]; simp)) (fun h => by cases h) (fun _ => ?_)
      walk_at "S"
      walk_at "end"
      all_goals first | rfl | exact congrArg PyData.int (by omega)
  have hR : Dg (L.drop k) := fun c hc => hL c (List.mem_of_mem_drop hc)
  refine S_assign (E_eq (b := .str (tx (L.take k ++ 46 :: L.drop k))) (E_bin (E_bin (E_pre (k := k) (by walk_at "E") (by walk_at "E") hk (by omega)) (by walk_at "E") (B_adds (by rw [ofs_pt, tx_len, tx_len]; unfold sizeLine; simp; omega))) (E_to (k := k) (by walk_at "E") (by walk_at "E") hk (by omega)) (B_adds (by rw [ofs_pt, tx_add, tx_len, tx_len]; unfold sizeLine; simp; omega))) (by rw [ofs_pt, tx_add, tx_add]; simp)) (by walk_at "upd") ?_
  have mr := m_rstrip_0 (X := L.take k ++ 46 :: L.drop k) (by simp; omega)
  rw [rs_app (by decide)] at mr
  refine S_join (ρ₁ := [("s", some (pvM z e)), ("dps", some (.int D)), ("strip_zeros", some (.bool true)), ("min_fixed", none), ("max_fixed", none), ("show_zero_exponent", some (.bool false)), ("base", some (.int 10)), ("binary_exp", none), ("rnd", none), ("sep", some (.str "e")), ("prefix", some (.str "")), ("t", none), ("sign", some (.str (tx (sgt neg)))), ("digits", some (.str (tx (L.take k ++ 46 :: bT (L.drop k))))), ("exponent", some (.int X)), ("rnd_digs", none), ("exp_add", none), ("split", some (.int k))]) ?_ ?_
  · refine S_if (by walk_at "T") (fun _ => ?_) (fun h => by cases h)
    walk_at "S"
    by_cases hr : rs 48 (L.drop k) = []
    · have hb : bT (L.drop k) = [48] := if_pos hr
      have hlast : (L.take k ++ 46 :: rs 48 (L.drop k)).getLast? = some 46 := by rw [hr]; exact last_app rfl
      refine S_if (T_eq (b₂ := true) (T_cmp (E_last (by walk_at "E") (by walk_at "E") hlast) (by walk_at "E") C_eqs) (by rw [tx1_eq ofs_pt]; rfl)) (fun _ => ?_) (fun h => by cases h)
      refine S_aug (by walk_at "mem") (by walk_at "E") (I_adds (by rw [ofs_0, hr, tx_len, tx_len]; unfold sizeLine; simp; omega)) (by walk_at "upd") ?_
      walk_at "end"
      rw [ofs_0, hb, hr, tx_add]; simp
    · have hb : bT (L.drop k) = rs 48 (L.drop k) := if_neg hr
      obtain ⟨c, h1, h2⟩ := dg_last hR.rs hr
      have hlast : (L.take k ++ 46 :: rs 48 (L.drop k)).getLast? = some c := last_app (last_cons h1)
      refine S_if (T_eq (b₂ := false) (T_cmp (E_last (by walk_at "E") (by walk_at "E") hlast) (by walk_at "E") C_eqs) (by rw [tx1_eq ofs_pt]; exact decide_eq_false (by omega))) (fun h => by cases h) (fun _ => ?_)
      walk_at "end"
      rw [hb]
  have lb := (bT_dg hR).2.2.2
  have lb' : (L.drop k).length ≤ 250 := by simp; omega
  have lsg : (sgt neg).length ≤ 1 := by cases neg <;> simp [sgt]
  have hsz : (tx (sgt neg)).length + (Str.ofString "").length ≤ sizeLine := by rw [ofs_nil, tx_len, tx_len]; unfold sizeLine; simp; omega
  walk_at "S"
  refine S_weak (ρ' := [("s", none), ("dps", some (.int D)), ("strip_zeros", none), ("min_fixed", none), ("max_fixed", none), ("show_zero_exponent", some (.bool false)), ("base", none), ("binary_exp", none), ("rnd", none), ("sep", some (.str "e")), ("prefix", some (.str "")), ("t", none), ("sign", some (.str (tx (sgt neg)))), ("digits", some (.str (tx (L.take k ++ 46 :: bT (L.drop k))))), ("exponent", some (.int X)), ("rnd_digs", none), ("exp_add", none), ("split", some (.int k))]) (by walk_at "weak"; rw [ofs_nil, tx_add, List.append_nil]) ?_
  have hsd : (tx (sgt neg)).length + (tx (L.take k ++ 46 :: bT (L.drop k))).length ≤ sizeLine := by rw [tx_len, tx_len]; unfold sizeLine; simp; omega
  by_cases hX0 : X = 0
  · subst hX0
    refine S_if (T_eq (b₂ := true) (by walk_at "T") (by simp; omega)) (fun _ => ?_) (fun h => by cases h)
    walk_at "ret"
    rw [tx_add]
    simp [tsT, NumT.text, NumT.mant, pT, eT]
  · refine S_if (T_eq (b₂ := false) (by walk_at "T") (by rw [decide_eq_false (by omega)]; rfl)) (fun h => by cases h) (fun _ => ?_)
    have hs4 : (tx (sgt neg) ++ tx (L.take k ++ 46 :: bT (L.drop k))).length + (Str.ofString "e").length ≤ sizeLine := by rw [tx_add, ofs_e, tx_len, tx_len]; unfold sizeLine; simp; omega
    have hnx := ntx_small hX
    refine S_ret' (E_bin (E_bin (by walk_at "E") (by walk_at "E") (B_adds hs4)) (E_fplus (by walk_at "E") hX) (B_adds (by rw [str_nat, ofs_e, tx_add, tx_add]; simp only [Str.length_append, tx_len]; unfold sizeLine; simp [Str.length]; omega))) ?_
    rw [str_nat, ofs_e, tx_add, tx_add, show (⟨#[43]⟩ : Str) = tx [43] from rfl, tx_add, tx_add]
    simp [tsT, NumT.text, NumT.mant, pT, eT, hX0]
end Mine
end

-- MbA
section
namespace Mine
open PySem.Builtin.Int (intBits)

/-! ## how many figures -/
def dpsZ (n : Int) : Int := if 1 < (2 * n * 10 ^ 16 + 33219280948873626).fdiv (2 * 33219280948873626) - 1 then (2 * n * 10 ^ 16 + 33219280948873626).fdiv (2 * 33219280948873626) - 1 else 1
def Dp (p : Nat) : Nat := (dpsZ p).toNat + 5
def Bp (p : Nat) : Nat := (((((Dp p : Nat) : Int) + 10) * blg).fdiv (10 ^ 16)).toNat + 10
def Fp (f : Nat) : Nat := ((2 * (f : Int) * 10 ^ 16 + blg).fdiv (2 * blg)).toNat
structure PF (p : Nat) : Prop where
  d : dpsZ p + 5 = (Dp p : Int)
  d6 : 6 ≤ Dp p
  d30 : Dp p ≤ 30
  ten : 32 * 2 ^ p ≤ 10 ^ (Dp p - 1)
  b : ((((Dp p : Nat) : Int) + 10) * blg).fdiv (10 ^ 16) + 10 = (Bp p : Int)
  b60 : 60 ≤ Bp p
  b130 : Bp p ≤ 130
  bp : p ≤ Bp p
  low : 10 ^ Dp p ≤ 2 ^ (Bp p - 3)
theorem pf {p : Nat} (h1 : 1 ≤ p) (h2 : p ≤ 60) : PF p := by
  have h : ∀ p : Nat, p < 61 → 1 ≤ p → (dpsZ p + 5 = (Dp p : Int) ∧ 6 ≤ Dp p ∧ Dp p ≤ 30 ∧ 32 * 2 ^ p ≤ 10 ^ (Dp p - 1) ∧ ((((Dp p : Nat) : Int) + 10) * blg).fdiv (10 ^ 16) + 10 = (Bp p : Int) ∧ 60 ≤ Bp p ∧ Bp p ≤ 130 ∧ p ≤ Bp p ∧ 10 ^ Dp p ≤ 2 ^ (Bp p - 3)) := by
    decide +kernel
  obtain ⟨a, b, c, d, e, f, g, i, j⟩ := h p (by omega) h1
  exact ⟨a, b, c, d, e, f, g, i, j⟩
structure FF (f : Nat) : Prop where
  eq : (2 * (f : Int) * 10 ^ 16 + blg).fdiv (2 * blg) = (Fp f : Int)
  lo : 2 ^ f ≤ 4 * 10 ^ Fp f
  hi : 10 ^ Fp f ≤ 4 * 2 ^ f
  le : Fp f ≤ 100
theorem ff {f : Nat} (h : f < 200) : FF f := by
  have h' : ∀ f : Nat, f < 200 → ((2 * (f : Int) * 10 ^ 16 + blg).fdiv (2 * blg) = (Fp f : Int) ∧ 2 ^ f ≤ 4 * 10 ^ Fp f ∧ 10 ^ Fp f ≤ 4 * 2 ^ f ∧ Fp f ≤ 100) := by
    decide +kernel
  obtain ⟨a, b, c, d⟩ := h' f h
  exact ⟨a, b, c, d⟩

/-- the figures of a number -/
structure Figs (p : Nat) (z e : Int) (M f F sb N : Nat) : Prop where
  eM : M = z.natAbs * 2 ^ (e + f).toNat
  ee : 0 ≤ e + (f : Int)
  es : sb = M * 10 ^ F / 2 ^ f
  eN : N = (ntx sb).length
  hN : Dp p + 1 ≤ N
  hN2 : N ≤ 300
  lo : 10 ^ (N - 1) ≤ sb
  hi : sb < 10 ^ N
  h1 : sb * 2 ^ f ≤ M * 10 ^ F
  h2 : M * 10 ^ F < (sb + 1) * 2 ^ f
  x1 : (-4 : Int) ≤ (N : Int) - F - 1
  x2 : (N : Int) - F - 1 ≤ 12
  f3 : f < 200
  F3 : F = Fp f
  fi : (f : Int) = Bp p - e - intBits z
  sb3 : sb < 10 ^ 300
  M3 : M < 2 ^ 130
theorem figs {p : Nat} {z e : Int} (h1 : 1 ≤ p) (h2 : p ≤ 60) (hz : z ≠ 0) (hb : intBits z ≤ p) (hlo : -12 ≤ (intBits z : Int) + e - 1) (hhi : (intBits z : Int) + e ≤ 40) : ∃ M f F sb N, Figs p z e M f F sb N := by
  have P := pf h1 h2
  have b60 := P.b60
  have b130 := P.b130
  obtain ⟨f, hf⟩ : ∃ f : Nat, (f : Int) = Bp p - e - intBits z := ⟨((Bp p : Int) - e - intBits z).toNat, by omega⟩
  have hf2 : f < 200 := by omega
  have Q := ff hf2
  have hbz := bl_pos hz
  have hbp := P.bp
  have hef : (e + (f : Int)).toNat = Bp p - intBits z := by omega
  have hM1 : 2 ^ (Bp p - 1) ≤ z.natAbs * 2 ^ (Bp p - intBits z) := by
    have := Nat.mul_le_mul_right (2 ^ (Bp p - intBits z)) (bl_ge hz)
    rw [← Nat.pow_add, show intBits z - 1 + (Bp p - intBits z) = Bp p - 1 by omega] at this
    exact this
  have hM2 : z.natAbs * 2 ^ (Bp p - intBits z) < 2 ^ Bp p := by
    have := Nat.mul_lt_mul_of_pos_right (bl_lt z) (Nat.two_pow_pos (Bp p - intBits z))
    rw [← Nat.pow_add, show intBits z + (Bp p - intBits z) = Bp p by omega] at this
    exact this
  generalize hM : z.natAbs * 2 ^ (Bp p - intBits z) = M at hM1 hM2
  have hpos := Nat.two_pow_pos f
  obtain ⟨sb, hsb⟩ : ∃ sb, sb = M * 10 ^ Fp f / 2 ^ f := ⟨_, rfl⟩
  have k1 : sb * 2 ^ f ≤ M * 10 ^ Fp f := by rw [hsb]; exact Nat.div_mul_le_self _ _
  have k2 : M * 10 ^ Fp f < (sb + 1) * 2 ^ f := by rw [hsb, Nat.mul_comm (_ + 1)]; exact Nat.lt_mul_div_succ (M * 10 ^ Fp f) hpos
  have hlow := P.low
  have hpw : 2 ^ (Bp p - 1) = 4 * 2 ^ (Bp p - 3) := by rw [show Bp p - 1 = (Bp p - 3) + 2 by omega, Nat.pow_add]; omega
  have hpw2 : 2 ^ Bp p = 8 * 2 ^ (Bp p - 3) := by rw [show Bp p = (Bp p - 3) + 3 by omega, Nat.pow_add]; simp; omega
  have s1 : 10 ^ Dp p ≤ sb := by
    rw [hsb, Nat.le_div_iff_mul_le hpos]
    calc 10 ^ Dp p * 2 ^ f ≤ 2 ^ (Bp p - 3) * 2 ^ f := Nat.mul_le_mul_right _ hlow
      _ ≤ 2 ^ (Bp p - 3) * (4 * 10 ^ Fp f) := Nat.mul_le_mul_left _ Q.lo
      _ = 4 * 2 ^ (Bp p - 3) * 10 ^ Fp f := by rw [Nat.mul_left_comm, Nat.mul_assoc]
      _ ≤ M * 10 ^ Fp f := Nat.mul_le_mul_right _ (by omega)
  have s2 : sb < 2 ^ 140 := by
    rw [hsb, Nat.div_lt_iff_lt_mul hpos]
    calc M * 10 ^ Fp f < 2 ^ Bp p * 10 ^ Fp f := Nat.mul_lt_mul_of_pos_right hM2 (Nat.pow_pos (by decide))
      _ ≤ 2 ^ Bp p * (4 * 2 ^ f) := Nat.mul_le_mul_left _ Q.hi
      _ = 2 ^ (Bp p + 2) * 2 ^ f := by rw [Nat.pow_add]; simp [Nat.mul_assoc]
      _ ≤ 2 ^ 140 * 2 ^ f := Nat.mul_le_mul_right _ (Nat.pow_le_pow_right (by decide) (by omega))
  have s3 : sb < 10 ^ 300 := Nat.lt_of_lt_of_le s2 (by decide +kernel)
  have spos : 0 < sb := Nat.lt_of_lt_of_le (Nat.pow_pos (by decide)) s1
  have lo := ntx_lo spos
  have hi := ntx_hi sb
  have hN : Dp p + 1 ≤ (ntx sb).length := by
    have : 10 ^ Dp p < 10 ^ (ntx sb).length := Nat.lt_of_le_of_lt s1 hi
    exact (Nat.pow_lt_pow_iff_right (by decide)).mp this
  generalize hNe : (ntx sb).length = N at lo hi hN
  refine ⟨M, f, Fp f, sb, N, ?_⟩
  have t10 : 0 < 10 ^ Fp f := Nat.pow_pos (by decide)
  refine ⟨by rw [hef, hM], by omega, hsb, hNe.symm, hN, by have := ntx_len (k := 300) (by decide) s3; omega, lo, hi, k1, k2, ?_, ?_, hf2, rfl, hf, s3, Nat.lt_of_lt_of_le hM2 (Nat.pow_le_pow_right (by decide) b130)⟩
  · by_cases hc : (-4 : Int) ≤ (N : Int) - Fp f - 1
    · exact hc
    · exfalso
      have a1 : 10 ^ N * 10 ^ 4 ≤ 10 ^ Fp f := by rw [← Nat.pow_add]; exact Nat.pow_le_pow_right (by decide) (by omega)
      have a2 : M * (10 ^ N * 10 ^ 4) < 10 ^ N * 2 ^ f := Nat.lt_of_le_of_lt (Nat.mul_le_mul_left M a1) (Nat.lt_of_lt_of_le k2 (Nat.mul_le_mul_right _ hi))
      have a3 : 2 ^ f ≤ 2 ^ (Bp p - 1) * 4096 := by
        rw [show (4096 : Nat) = 2 ^ 12 from rfl, ← Nat.pow_add]; exact Nat.pow_le_pow_right (by decide) (by omega)
      have a4 : 10 ^ N * 2 ^ f ≤ 10 ^ N * (M * 4096) := Nat.mul_le_mul_left _ (Nat.le_trans a3 (Nat.mul_le_mul_right _ hM1))
      have a5 : M * (10 ^ N * 10 ^ 4) = 10 ^ N * (M * 10 ^ 4) := by rw [Nat.mul_left_comm]
      rw [a5] at a2
      have a6 := Nat.lt_of_mul_lt_mul_left (Nat.lt_of_lt_of_le a2 a4)
      omega
  · by_cases hc : (N : Int) - Fp f - 1 ≤ 12
    · exact hc
    · exfalso
      have a1 : 10 ^ Fp f * 10 ^ 13 ≤ 10 ^ (N - 1) := by rw [← Nat.pow_add]; exact Nat.pow_le_pow_right (by decide) (by omega)
      have a2 : 10 ^ Fp f * 10 ^ 13 * 2 ^ f ≤ M * 10 ^ Fp f := Nat.le_trans (Nat.mul_le_mul_right _ (Nat.le_trans a1 lo)) k1
      have a3 : 2 ^ Bp p ≤ 2 ^ f * 2 ^ 40 := by rw [← Nat.pow_add]; exact Nat.pow_le_pow_right (by decide) (by omega)
      have a4 : 10 ^ Fp f * (10 ^ 13 * 2 ^ f) < 10 ^ Fp f * (2 ^ f * 2 ^ 40) := by
        rw [← Nat.mul_assoc]
        refine Nat.lt_of_le_of_lt a2 ?_
        rw [Nat.mul_comm]
        exact Nat.mul_lt_mul_of_pos_left (Nat.lt_of_lt_of_le hM2 a3) t10
      have a5 := Nat.lt_of_mul_lt_mul_left a4
      omega
end Mine
end

-- MbB
section
namespace Mine
open PySem.Builtin.Int (intBits)

theorem near_nat {D N T0 u sb r M F f p : Nat} (hu : u ≤ 1) (hsb : sb = T0 * 10 ^ (N - D) + r) (hr : r < 10 ^ (N - D)) (hlo : 10 ^ (N - 1) ≤ sb) (h1 : sb * 2 ^ f ≤ M * 10 ^ F) (h2 : M * 10 ^ F < (sb + 1) * 2 ^ f)
    (hD : 1 ≤ D) (hN : D ≤ N) (ten : 32 * 2 ^ p ≤ 10 ^ (D - 1)) :
    (T0 + u) * 10 ^ (N - D) * 2 ^ f * 2 ^ (p + 4) ≤ M * 10 ^ F + M * 10 ^ F * 2 ^ (p + 4) ∧ M * 10 ^ F * 2 ^ (p + 4) ≤ M * 10 ^ F + (T0 + u) * 10 ^ (N - D) * 2 ^ f * 2 ^ (p + 4) := by
  have hG : 0 < 10 ^ (N - D) := Nat.pow_pos (by decide)
  have e1 : 10 ^ (D - 1) * 10 ^ (N - D) = 10 ^ (N - 1) := by rw [← Nat.pow_add]; congr 1; omega
  have e2 : 32 * 2 ^ p * 10 ^ (N - D) ≤ sb := Nat.le_trans (Nat.mul_le_mul_right _ ten) (by rw [e1]; exact hlo)
  have e3 : 2 ^ (p + 4) = 16 * 2 ^ p := by rw [Nat.pow_add]; omega
  rw [e3]
  generalize 10 ^ (N - D) = G at *
  have ht : (T0 + u) * G = T0 * G + u * G := Nat.add_mul _ _ _
  have hug : u * G ≤ G := by have := Nat.mul_le_mul_right G hu; omega
  rw [ht]
  generalize T0 * G = S at *
  generalize u * G = U at *
  subst hsb
  have hf : 0 < 2 ^ f := Nat.two_pow_pos f
  generalize 2 ^ f = B at *
  generalize hQ : 2 ^ p = Q at *
  generalize M * 10 ^ F = MA at *
  have e4 : 32 * Q * G * B ≤ (S + r) * B := Nat.mul_le_mul_right _ e2
  have k1 : (S + U) * B ≤ MA + G * B := by
    have : (S + U) * B ≤ (S + r) * B + G * B := by rw [← Nat.add_mul]; exact Nat.mul_le_mul_right _ (by omega)
    omega
  have k2 : MA ≤ (S + U) * B + 2 * G * B := by
    have : (S + r + 1) * B ≤ (S + U) * B + 2 * G * B := by rw [← Nat.add_mul]; exact Nat.mul_le_mul_right _ (by omega)
    omega
  have k3 : 16 * Q * (2 * G * B) = 32 * Q * G * B := by
    rw [show 32 = 16 * 2 from rfl]; simp only [Nat.mul_assoc, Nat.mul_left_comm, Nat.mul_comm]
  have k4 : (S + U) * B * (16 * Q) ≤ MA * (16 * Q) + G * B * (16 * Q) := by rw [← Nat.add_mul]; exact Nat.mul_le_mul_right _ k1
  have k5 : MA * (16 * Q) ≤ (S + U) * B * (16 * Q) + 2 * G * B * (16 * Q) := by rw [← Nat.add_mul]; exact Nat.mul_le_mul_right _ k2
  have k6 : G * B * (16 * Q) * 2 = 32 * Q * G * B := by
    rw [show 32 = 16 * 2 from rfl]; simp only [Nat.mul_assoc, Nat.mul_left_comm, Nat.mul_comm]
  have k7 : 2 * G * B * (16 * Q) = 32 * Q * G * B := by rw [← k3, Nat.mul_comm]
  constructor <;> omega
theorem near_rat {T M F f p : Nat} {t v : Rat} (ht : t * (10 : Rat) ^ (F : Int) = (T : Rat)) (hv : v * (2 : Rat) ^ (f : Int) = (M : Rat))
    (h1 : T * 2 ^ f * 2 ^ (p + 4) ≤ M * 10 ^ F + M * 10 ^ F * 2 ^ (p + 4)) (h2 : M * 10 ^ F * 2 ^ (p + 4) ≤ M * 10 ^ F + T * 2 ^ f * 2 ^ (p + 4)) :
    (t - v) * (2 : Rat) ^ ((p : Int) + 4) ≤ v ∧ (v - t) * (2 : Rat) ^ ((p : Int) + 4) ≤ v := by
  have c2 : ∀ n : Nat, (((2 ^ n : Nat)) : Rat) = (2 : Rat) ^ (n : Int) := fun n => by rw [Rat.zpow_natCast]; push_cast; rfl
  have c10 : ∀ n : Nat, (((10 ^ n : Nat)) : Rat) = (10 : Rat) ^ (n : Int) := fun n => by rw [Rat.zpow_natCast]; push_cast; rfl
  have hA : (0 : Rat) < (10 : Rat) ^ (F : Int) := Rat.zpow_pos (by decide)
  have hB : (0 : Rat) < (2 : Rat) ^ (f : Int) := p2_pos _
  have g1 : ((T * 2 ^ f * 2 ^ (p + 4) : Nat) : Rat) ≤ ((M * 10 ^ F + M * 10 ^ F * 2 ^ (p + 4) : Nat) : Rat) := by exact_mod_cast h1
  have g2 : ((M * 10 ^ F * 2 ^ (p + 4) : Nat) : Rat) ≤ ((M * 10 ^ F + T * 2 ^ f * 2 ^ (p + 4) : Nat) : Rat) := by exact_mod_cast h2
  have e4 : ((2 ^ (p + 4) : Nat) : Rat) = (2 : Rat) ^ ((p : Int) + 4) := by rw [c2]; push_cast; rfl
  simp only [Rat.natCast_add, Rat.natCast_mul, e4] at g1 g2
  rw [c2, c10, ← ht, ← hv] at g1 g2
  generalize (10 : Rat) ^ (F : Int) = A at *
  generalize (2 : Rat) ^ (f : Int) = B at *
  generalize (2 : Rat) ^ ((p : Int) + 4) = K at *
  have hAB : 0 < A * B := Rat.mul_pos hA hB
  constructor
  · have : (t - v) * K * (A * B) ≤ v * (A * B) := by grind
    exact Rat.le_of_mul_le_mul_right this hAB
  · have : (v - t) * K * (A * B) ≤ v * (A * B) := by grind
    exact Rat.le_of_mul_le_mul_right this hAB
end Mine
end

-- MbC
section
namespace Mine
open PySem.Builtin.Int (intBits)

/-- the text stands for a number close by -/
structure Near (p : Nat) (z e : Int) (t : Rat) : Prop where
  a : (t - val z e) * (2 : Rat) ^ ((p : Int) + 4) ≤ val z.natAbs e
  b : (val z e - t) * (2 : Rat) ^ ((p : Int) + 4) ≤ val z.natAbs e

theorem val_M {z e : Int} {f M : Nat} (hM : M = z.natAbs * 2 ^ (e + f).toNat) (h : 0 ≤ e + (f : Int)) : val z.natAbs e * (2 : Rat) ^ (f : Int) = (M : Rat) := by
  have e1 : (M : Rat) = val (M : Int) 0 := by unfold val; rw [Rat.zpow_zero, Rat.mul_one]; rfl
  rw [e1, hM]
  push_cast
  rw [val_shift]
  unfold val
  rw [Rat.mul_assoc, ← p2_add]
  congr 2; omega

set_option maxHeartbeats 2000000 in
theorem str_near {w : World} {p : Nat} {z e : Int} (h1 : 1 ≤ p) (h2 : p ≤ 60) (hc : Can z e) (hz : z ≠ 0) (hb : intBits z ≤ p) (hlo : -12 ≤ (intBits z : Int) + e - 1) (hhi : (intBits z : Int) + e ≤ 40) :
    ∃ t : NumT, t.Ok ∧ FnSpec w 4 "to_str" [pvM z e, .int (Dp p)] (.str (tx t.text)) ∧ Near p z e t.val := by
  have P := pf h1 h2
  have b60 := P.b60
  have b130 := P.b130
  have d6 := P.d6
  have d30 := P.d30
  obtain ⟨M, f, F, sb, N, G⟩ := figs h1 h2 hz hb hlo hhi
  have hbz := bl_pos hz
  have hF3 := G.F3
  have Q := ff G.f3
  have f3 := G.f3
  have fi := G.fi
  have hN := G.hN
  have hN2 := G.hN2
  have eN := G.eN
  have x1 := G.x1
  have x2 := G.x2
  have hFle : F ≤ 100 := by rw [hF3]; exact Q.le
  have hMI : ((z.natAbs : Int) * 2 ^ (e + (f : Int)).toNat) = (M : Int) := by rw [G.eM]; push_cast; rfl
  have spos : 0 < sb := Nat.lt_of_lt_of_le (Nat.pow_pos (by decide)) G.lo
  have F1 := sp_tde (w := w) (z := z) (e := e) (k := (Dp p : Nat) + 10) (f := f) (F := F) (sb := sb) hc hz (by omega) (by omega) (by omega) (by omega)
    (by rw [fi, P.b]) (by omega) (by omega) G.ee (by rw [hF3, Q.eq]) (by omega) (by omega) (by
      rw [hMI, G.es]
      rw [show ((F : Int)).toNat = F from rfl, show ((f : Int)).toNat = f from rfl, fdiv_eq]
      push_cast; rfl) spos G.sb3 (by rw [hMI]; exact Nat.le_trans (bits_of (k := 130) (by simpa using G.M3)) (by decide))
  rw [← eN] at F1
  have hdl := ntx_dg sb
  have hlt : Dp p < (ntx sb).length := by omega
  obtain ⟨c, hcD⟩ : ∃ c, (ntx sb)[Dp p]? = some c := ⟨_, List.getElem?_eq_getElem hlt⟩
  obtain ⟨c0, hc0⟩ : ∃ c, (ntx sb)[Dp p - 1]? = some c := ⟨_, List.getElem?_eq_getElem (by omega)⟩
  obtain ⟨l', x, F2, hd', hl', hx, u, hu, hT⟩ := sp_round (w := w) (σ := sg z) hdl (by omega) hcD hc0 (by omega)
  obtain ⟨L, k, X, hL, hk1, hk, hLl, hX, hdv, hexp, hcase⟩ := cut_ex (E := (N : Int) - F - 1 + x) hd' hl' d6 (by omega) (by omega) (by omega)
  have F3 := sp_str (w := w) (D := Dp p) hz d6 (by omega) F1 F2 rfl (by omega) (by omega) hl' hd' hL hk1 hk hLl hX hcase
  refine ⟨_, tsT_ok hL hk1 hk hLl hX, F3, ?_⟩
  have hval := tsT_val (neg := decide (z < 0)) (X := X) hL hk
  rw [hexp, hdv] at hval
  have hsbv : sb = dv ((ntx sb).take (Dp p)) * 10 ^ (N - Dp p) + dv ((ntx sb).drop (Dp p)) := by
    have := dv_app ((ntx sb).take (Dp p)) ((ntx sb).drop (Dp p))
    rw [List.take_append_drop, ntx_val, List.length_drop, ← eN] at this
    exact this
  have hr : dv ((ntx sb).drop (Dp p)) < 10 ^ (N - Dp p) := by
    have := dv_lt ((ntx sb).drop (Dp p)) (fun c hc => hdl c (List.mem_of_mem_drop hc))
    rwa [List.length_drop, ← eN] at this
  obtain ⟨n1, n2⟩ := near_nat hu hsbv hr G.lo G.h1 G.h2 (by omega) (by omega) P.ten
  generalize hT0 : dv ((ntx sb).take (Dp p)) = T0 at *
  have hv := val_M G.eM G.ee
  have ht : ((dv l' : Nat) : Rat) * (10 : Rat) ^ ((N : Int) - F - 1 + x - ((Dp p : Nat) - 1)) * (10 : Rat) ^ (F : Int) = (((T0 + u) * 10 ^ (N - Dp p) : Nat) : Rat) := by
    rw [← hT]
    have c10 : ∀ n : Nat, (((10 ^ n : Nat)) : Rat) = (10 : Rat) ^ (n : Int) := fun n => by rw [Rat.zpow_natCast]; push_cast; rfl
    rw [Rat.natCast_mul, Rat.natCast_mul, c10, c10, Rat.mul_assoc, Rat.mul_assoc, ← Rat.zpow_add (by decide), ← Rat.zpow_add (by decide)]
    congr 2
    omega
  obtain ⟨r1, r2⟩ := near_rat ht hv n1 n2
  rw [hval]
  by_cases hneg : z < 0
  · have e1 : ((sgi (decide (z < 0)) (dv l') : Int) : Rat) = -((dv l' : Nat) : Rat) := by
      rw [decide_eq_true hneg]; show ((-((dv l' : Nat) : Int) : Int) : Rat) = _; rw [Rat.intCast_neg]; rfl
    have e2 : val z e = -val z.natAbs e := by rw [← val_neg]; congr 1; omega
    constructor
    · rw [e1, e2]; rw [Rat.neg_mul]
      have : ∀ a b c d : Rat, (b - a) * c ≤ d → (-a - -b) * c ≤ d := fun a b c d h => by grind
      exact this _ _ _ _ r2
    · rw [e1, e2]; rw [Rat.neg_mul]
      have : ∀ a b c d : Rat, (a - b) * c ≤ d → (-b - -a) * c ≤ d := fun a b c d h => by grind
      exact this _ _ _ _ r1
  · have e1 : ((sgi (decide (z < 0)) (dv l') : Int) : Rat) = ((dv l' : Nat) : Rat) := by
      rw [decide_eq_false hneg]; rfl
    have e2 : val z e = val z.natAbs e := by congr 1; omega
    constructor
    · rw [e1]; rw [e2]; exact r1
    · rw [e1]; rw [e2]; exact r2
end Mine
end

-- MbD
section
namespace Mine
open PySem.Builtin.Int (intBits)

/-- nearer than an eighth of the way to any other number of p bits -/
def Nb (p : Nat) (v t : Rat) : Prop := ∀ u, Fl p u → (u < v → 8 * (t - v) < v - u ∧ 8 * (v - t) < v - u) ∧ (v < u → 8 * (t - v) < u - v ∧ 8 * (v - t) < u - v)
theorem nb_self (p : Nat) (v : Rat) : Nb p v v := fun u _ => by
  constructor <;> intro h <;> constructor <;> grind
theorem near_nb {p : Nat} {z e : Int} {t : Rat} (hp : 1 ≤ p) (hz : z ≠ 0) (hb : intBits z ≤ p) (h : Near p z e t) : Nb p (val z e) t := by
  intro u hu
  have ap := apart hp hz hb hu (e := e) rfl
  have hlt := val_abs_lt (z := z) (e := e) (Nat.le_refl (intBits z))
  generalize hg : (intBits z : Int) + e - p - 1 = g at ap
  have e1 : (2 : Rat) ^ ((intBits z : Int) + e) = (2 : Rat) ^ (g - 3) * (2 : Rat) ^ ((p : Int) + 4) := by rw [← p2_add]; congr 1; omega
  have e2 : (2 : Rat) ^ g = 8 * (2 : Rat) ^ (g - 3) := by
    rw [show g = (g - 3) + 3 by omega, p2_add, show g - 3 + 3 - 3 = g - 3 by omega, show (2 : Rat) ^ (3 : Int) = 8 by decide +kernel]; grind
  rw [e1] at hlt
  have hK := p2_pos ((p : Int) + 4)
  have a1 : (t - val z e) * (2 : Rat) ^ ((p : Int) + 4) < (2 : Rat) ^ (g - 3) * (2 : Rat) ^ ((p : Int) + 4) := Std.lt_of_le_of_lt h.a hlt
  have a2 : (val z e - t) * (2 : Rat) ^ ((p : Int) + 4) < (2 : Rat) ^ (g - 3) * (2 : Rat) ^ ((p : Int) + 4) := Std.lt_of_le_of_lt h.b hlt
  have b1 : t - val z e < (2 : Rat) ^ (g - 3) := Rat.lt_of_mul_lt_mul_right a1 (by grind)
  have b2 : val z e - t < (2 : Rat) ^ (g - 3) := Rat.lt_of_mul_lt_mul_right a2 (by grind)
  rw [e2] at ap
  generalize (2 : Rat) ^ (g - 3) = G at *
  constructor
  · intro hlt2
    constructor <;> grind
  · intro hlt2
    constructor <;> grind
theorem end_floor {p : Nat} {v t a : Rat} (n : Nb p v t) (r : IsR p false t a) : a ≤ v := by
  obtain ⟨f, r⟩ := r
  have h := (n a f).2
  have h1 : a ≤ t := r.1
  by_cases hc : a ≤ v
  · exact hc
  · have := h (Rat.not_le.mp hc); grind
theorem end_ceil {p : Nat} {v t b : Rat} (n : Nb p v t) (r : IsR p true t b) : v ≤ b := by
  obtain ⟨f, r⟩ := r
  have h := (n b f).1
  have h1 : t ≤ b := r.1
  by_cases hc : v ≤ b
  · exact hc
  · have := h (Rat.not_le.mp hc); grind
/-- the numbers of p bits beside -/
theorem beside {p : Nat} {z e : Int} (hp : 1 ≤ p) (hz : z ≠ 0) (hb : intBits z ≤ p) : ∃ c d, Fl p c ∧ Fl p d ∧ c < val z e ∧ val z e < d ∧ val z e - c ≤ val z.natAbs (e + 1 - p) ∧ d - val z e ≤ val z.natAbs (e + 1 - p) := by
  have hbz := bl_pos hz
  have h1 := bl_lt z
  have h2 := bl_ge hz
  generalize hk : p - intBits z = k
  have hm : val z e = val (z * 2 ^ k) (e - k) := by rw [val_shift]; congr 1; omega
  have hmb : (z * 2 ^ k).natAbs < 2 ^ p := by
    rw [Int.natAbs_mul, Int.natAbs_pow]
    have := Nat.mul_lt_mul_of_pos_right h1 (Nat.two_pow_pos k)
    rw [← Nat.pow_add, show intBits z + k = p by omega] at this
    exact this
  have hstep : val 1 (e - k) ≤ val z.natAbs (e + 1 - p) := by
    rw [val_one]
    have h3 : (((2 ^ (intBits z - 1) : Nat) : Int)) ≤ (z.natAbs : Int) := by exact_mod_cast h2
    have h4 : val ((2 ^ (intBits z - 1) : Nat) : Int) (e + 1 - p) ≤ val z.natAbs (e + 1 - p) := val_le.mpr h3
    refine Rat.le_trans ?_ h4
    rw [show (((2 ^ (intBits z - 1) : Nat) : Int)) = 1 * 2 ^ (intBits z - 1) by push_cast; omega, val_shift, val_one]
    exact p2_le (by omega)
  have s1 : val (z * 2 ^ k) (e - k) - val (z * 2 ^ k - 1) (e - k) = val 1 (e - k) := by
    have := val_add (z * 2 ^ k - 1) 1 (e - k)
    rw [show z * 2 ^ k - 1 + 1 = z * 2 ^ k by omega] at this
    rw [← this]; grind
  have s2 : val (z * 2 ^ k + 1) (e - k) - val (z * 2 ^ k) (e - k) = val 1 (e - k) := by
    have := val_add (z * 2 ^ k) 1 (e - k)
    rw [← this]; grind
  rw [hm]
  refine ⟨val (z * 2 ^ k - 1) (e - k), val (z * 2 ^ k + 1) (e - k), ⟨_, _, by omega, rfl⟩, ⟨_, _, by omega, rfl⟩, val_lt.mpr (by omega), val_lt.mpr (by omega), ?_, ?_⟩
  · rw [s1]; exact hstep
  · rw [s2]; exact hstep
theorem gap_floor {p : Nat} {z e : Int} {t a : Rat} (hp : 1 ≤ p) (hz : z ≠ 0) (hb : intBits z ≤ p) (n : Nb p (val z e) t) (r : IsR p false t a) : val z e - a ≤ val z.natAbs (e + 1 - p) := by
  obtain ⟨c, d, hc, hd, c1, d1, c2, d2⟩ := beside (e := e) hp hz hb
  obtain ⟨f, r⟩ := r
  have := ((n c hc).1 c1).2
  have : c ≤ t := by grind
  have := r.2 c hc this
  grind
theorem gap_ceil {p : Nat} {z e : Int} {t a : Rat} (hp : 1 ≤ p) (hz : z ≠ 0) (hb : intBits z ≤ p) (n : Nb p (val z e) t) (r : IsR p true t a) : a - val z e ≤ val z.natAbs (e + 1 - p) := by
  obtain ⟨c, d, hc, hd, c1, d1, c2, d2⟩ := beside (e := e) hp hz hb
  obtain ⟨f, r⟩ := r
  have := ((n d hd).2 d1).1
  have : t ≤ d := by grind
  have := r.2 d hd this
  grind
theorem nb_lt {p : Nat} {v1 t1 v2 t2 : Rat} (f1 : Fl p v1) (f2 : Fl p v2) (n1 : Nb p v1 t1) (n2 : Nb p v2 t2) (h : v1 < v2) : t1 < t2 := by
  have a := ((n1 v2 f2).2 h).1
  have b := ((n2 v1 f1).1 h).2
  grind
theorem fl_mono' {p q : Nat} {c : Bool} {t a b : Rat} (h : p ≤ q) (r : IsR p c t a) (r2 : IsR q c t b) : if c then b ≤ a else a ≤ b := by
  obtain ⟨f, r⟩ := r
  obtain ⟨f2, r2⟩ := r2
  cases c with
  | false => exact r2.2 a (f.mono h) r.1
  | true => exact r2.2 a (f.mono h) r.1

def zT : NumT := ⟨false, [48], some [48], none⟩
theorem zT_text : zT.text = [48, 46, 48] := rfl
theorem zT_val : zT.val = 0 := by decide +kernel
theorem zT_ok : zT.Ok := by
  refine ⟨by intro c hc; simp [zT] at hc; omega, by simp [zT], ?_, ?_, by rw [zT_text]; decide, ?_⟩
  · intro b hb; cases hb; exact ⟨by intro c hc; simp at hc; omega, by simp⟩
  · intro e v h; cases h
  · intro e v h; cases h

/-- one end: its text, and what is read back -/
structure End (w : World) (p : Nat) (z e : Int) (t : NumT) : Prop where
  ok : t.Ok
  F : FnSpec w 4 "to_str" [pvM z e, .int (Dp p)] (.str (tx t.text))
  nb : Nb p (val z e) t.val
  zero : z = 0 → t.val = 0
theorem end_ex {w : World} {p : Nat} {z e : Int} (h1 : 1 ≤ p) (h2 : p ≤ 60) (hc : Can z e) (hb : intBits z ≤ p) (hlo : z ≠ 0 → -12 ≤ (intBits z : Int) + e - 1) (hhi : z ≠ 0 → (intBits z : Int) + e ≤ 40) : ∃ t, End w p z e t := by
  by_cases hz : z = 0
  · have he := can_exp hc hz
    subst hz; subst he
    refine ⟨zT, zT_ok, ?_, ?_, fun _ => zT_val⟩
    · rw [zT_text]; exact sp_str0 (by have := (pf h1 h2).d6; omega)
    · rw [zT_val, val_zero]; exact nb_self _ _
  · obtain ⟨t, a, b, c⟩ := str_near (w := w) h1 h2 hc hz hb (hlo hz) (hhi hz)
    exact ⟨t, a, b, near_nb h1 hz hb c, fun h => absurd h hz⟩
theorem ends_ex {w : World} {p : Nat} {z1 e1 z2 e2 : Int} (h1 : 1 ≤ p) (h2 : p ≤ 60) (hc1 : Can z1 e1) (hb1 : intBits z1 ≤ p) (hlo1 : z1 ≠ 0 → -12 ≤ (intBits z1 : Int) + e1 - 1) (hhi1 : z1 ≠ 0 → (intBits z1 : Int) + e1 ≤ 40)
    (hc2 : Can z2 e2) (hb2 : intBits z2 ≤ p) (hlo2 : z2 ≠ 0 → -12 ≤ (intBits z2 : Int) + e2 - 1) (hhi2 : z2 ≠ 0 → (intBits z2 : Int) + e2 ≤ 40) (hle : val z1 e1 ≤ val z2 e2) :
    ∃ t1 t2, End w p z1 e1 t1 ∧ End w p z2 e2 t2 ∧ t1.val ≤ t2.val := by
  obtain ⟨t1, E1⟩ := end_ex (w := w) h1 h2 hc1 hb1 hlo1 hhi1
  by_cases heq : val z1 e1 = val z2 e2
  · obtain ⟨rfl, rfl⟩ := can_inj hc1 hc2 heq
    exact ⟨t1, t1, E1, E1, Rat.le_refl⟩
  · obtain ⟨t2, E2⟩ := end_ex (w := w) h1 h2 hc2 hb2 hlo2 hhi2
    have f1 : Fl p (val z1 e1) := ⟨z1, e1, Nat.le_of_lt (bl_le.mp hb1), rfl⟩
    have f2 : Fl p (val z2 e2) := ⟨z2, e2, Nat.le_of_lt (bl_le.mp hb2), rfl⟩
    have := nb_lt f1 f2 E1.nb E2.nb (by grind)
    exact ⟨t1, t2, E1, E2, by grind⟩
end Mine
end

-- WdA
section
namespace Mine
open PySem.Builtin (bitAnd bitXor)
open PySem.Builtin.Int (intBits)
local macro_rules | `(tactic| walk_at "mem") => `(tactic| with_reducible (first | exact List.mem_cons_self | (refine List.mem_cons_of_mem _ ?_; walk_at "mem")))
local macro_rules | `(tactic| walk_at "upd") => `(tactic| with_reducible (first | exact Upd.head | (apply Upd.tail; walk_at "upd")))
local macro_rules | `(tactic| walk_at "upds") => `(tactic| first | exact Upds.nil | exact Upds.cons (by walk_at "upd") (by walk_at "upds"))
local macro_rules | `(tactic| walk_at "names") => `(tactic| first | exact Names.nil | exact Names.cons (by walk_at "names"))
local macro_rules | `(tactic| walk_at "side") => `(tactic| first | assumption | decide | omega)
local macro_rules | `(tactic| walk_at "B") => `(tactic| with_reducible first
  | exact B_add | exact B_sub | (show BinV .Mult _ _ _; exact B_mul (by walk_at "side")) | (show BinV .FloorDiv _ _ _; exact B_fdiv (by walk_at "side") (by walk_at "side")) | (show BinV .Mod _ _ _; exact B_mod (by walk_at "side"))
  | (show BinV .LShift _ _ _; exact B_shl (by walk_at "side") (by walk_at "side")) | (show BinV .RShift _ _ _; exact B_shr (by walk_at "side")) | (show BinV .Pow _ _ _; exact B_pow (by walk_at "side") (by walk_at "side"))
  | exact B_and | exact B_xor | (show BinV .Add (.str _) _ _; exact B_adds (by walk_at "side")))
local macro_rules | `(tactic| walk_at "I") => `(tactic| with_reducible first
  | exact I_add | exact I_sub | (show IBinV .LShift _ _ _; exact I_shl (by walk_at "side") (by walk_at "side")) | (show IBinV .RShift _ _ _; exact I_shr (by walk_at "side")) | exact I_xor | (show IBinV .Add (.str _) _ _; exact I_adds (by walk_at "side")))
local macro_rules | `(tactic| walk_at "C") => `(tactic| with_reducible first
  | exact C_eq | exact C_ne | exact C_lt | exact C_le | exact C_gt | exact C_ge | exact C_eqs | exact C_nes
  | (show CmpV .Eq (.tuple _) (.tuple _) _; exact C_eqd (by with_unfolding_all rfl) (by with_unfolding_all rfl) (by with_unfolding_all exact Nat.le_of_ble_eq_true rfl))
  | (show CmpV .NotEq (.tuple _) (.tuple _) _; exact C_ned (by with_unfolding_all rfl) (by with_unfolding_all rfl) (by with_unfolding_all exact Nat.le_of_ble_eq_true rfl)))
local macro_rules | `(tactic| walk_at "U") => `(tactic| with_reducible first | exact U_neg | (show UnV .Not _ _; exact U_not (by walk_at "R")))
local macro_rules | `(tactic| walk_at "R") => `(tactic| with_reducible first | exact R_int | exact R_bool | (show TruV (.str _) _; exact R_str (by walk_at "side")))
local macro_rules | `(tactic| walk_at "G") => `(tactic| with_reducible first
  | exact gl_fzero | exact gl_zero | exact gl_one | exact gl_near | exact gl_floor | exact gl_ceil | exact gl_up | exact gl_down | exact gl_fnan | exact gl_finf | exact gl_fninf | exact gl_blog | exact gl_digits)
local macro_rules | `(tactic| walk_at "L") => `(tactic| with_reducible first | exact L_nil | (show EvL _ _ _ _ (_ :: _) _ _; exact L_cons (by walk_at "E") (by walk_at "L")))
local macro_rules | `(tactic| walk_at "M0") => `(tactic| with_reducible first | exact M_bitlen | (show Meth0 _ (.str _) _; first | exact M_strip (by walk_at "side") | exact M_lower (by walk_at "side")))
local macro_rules | `(tactic| walk_at "K") => `(tactic| with_reducible first | assumption | exact K_int | exact K_abs | exact K_max | exact K_min | (show CallV (.builtin "len") _ _; exact K_len (by walk_at "side")) | (show CallV (.builtin "divmod") _ _; exact K_divmod (by walk_at "side") (by walk_at "side")))
local macro_rules | `(tactic| walk_at "Ebi") => `(tactic| with_reducible first
  | (show EvE _ _ _ _ (.Call (.Name (Str.ofString "int") _) _ _ _) _ _; exact E_bi bi_int (by walk_at "mem") rfl (by walk_at "L") (by walk_at "K"))
  | (show EvE _ _ _ _ (.Call (.Name (Str.ofString "len") _) _ _ _) _ _; exact E_bi bi_len (by walk_at "mem") rfl (by walk_at "L") (by walk_at "K"))
  | (show EvE _ _ _ _ (.Call (.Name (Str.ofString "abs") _) _ _ _) _ _; exact E_bi bi_abs (by walk_at "mem") rfl (by walk_at "L") (by walk_at "K"))
  | (show EvE _ _ _ _ (.Call (.Name (Str.ofString "max") _) _ _ _) _ _; exact E_bi bi_max (by walk_at "mem") rfl (by walk_at "L") (by walk_at "K"))
  | (show EvE _ _ _ _ (.Call (.Name (Str.ofString "min") _) _ _ _) _ _; exact E_bi bi_min (by walk_at "mem") rfl (by walk_at "L") (by walk_at "K"))
  | (show EvE _ _ _ _ (.Call (.Name (Str.ofString "divmod") _) _ _ _) _ _; exact E_bi bi_divmod (by walk_at "mem") rfl (by walk_at "L") (by walk_at "K"))
  | (show EvE _ _ _ _ (.Call (.Name (Str.ofString "str") _) _ _ _) _ _; exact E_bi bi_str (by walk_at "mem") rfl (by walk_at "L") (by walk_at "K"))
  | (show EvE _ _ _ _ (.Call (.Name (Str.ofString "pow") _) _ _ _) _ _; exact E_bi bi_pow (by walk_at "mem") rfl (by walk_at "L") (by walk_at "K"))
  | (show EvE _ _ _ _ (.Call (.Name (Str.ofString "isinstance") _) _ _ _) _ _; exact E_isint (by walk_at "mem") (by walk_at "mem") (by walk_at "E")))
local macro_rules | `(tactic| walk_at "E") => `(tactic| with_reducible first
  | assumption
  | (show EvE _ _ _ _ (.Name _ _) _ _; first | exact E_name (by walk_at "mem") | exact E_gl (by walk_at "mem") (by walk_at "G"))
  | exact E_int
  | (show EvE _ _ _ _ (.BinOp _ _ _ _) _ _; exact E_bin (by walk_at "E") (by walk_at "E") (by walk_at "B"))
  | exact E_str | exact E_bool | exact E_none
  | (show EvE _ _ _ _ (.UnaryOp _ _ _) _ _; exact E_un (by walk_at "E") (by walk_at "U"))
  | (show EvE _ _ _ _ (.Tuple _ _ _) _ _; exact E_tup (by walk_at "L"))
  | (show EvE _ _ _ _ (.Call (.Name _ _) _ _ _) _ _; first | walk_at "Ebi" | exact E_call (by walk_at "mem") (by walk_at "L") (by assumption))
  | (show EvE _ _ _ _ (.BoolOp .Or [_, _] _) _ _; exact E_orp (by walk_at "E") (by walk_at "side"))
  | (show EvE _ _ _ _ (.Call (.Attribute _ _ _) [] [] _) _ _; exact E_meth0 (by walk_at "E") (by walk_at "M0"))
  | (show EvE _ _ _ _ (.Compare _ [_] [_] _) _ _; exact E_cmp (by walk_at "E") (by walk_at "E") (by walk_at "C")))
local macro_rules | `(tactic| walk_at "T") => `(tactic| with_reducible first
  | assumption
  | (show EvT _ _ _ _ (.UnaryOp .Not _ _) _ _; exact T_not (by walk_at "T")) | (show EvT _ _ _ _ (.Compare _ [_] [_] _) _ _; exact T_cmp (by walk_at "E") (by walk_at "E") (by walk_at "C"))
  | (show EvT _ _ _ _ (.Compare _ [_, _] [_, _] _) _ _; exact T_chain (by walk_at "E") (by walk_at "E") (by walk_at "C") (fun _ => by walk_at "E") (fun _ => by walk_at "C"))
  | (show EvT _ _ _ _ (.BoolOp _ _ _) _ _; exact T_bool (by walk_at "A")) | exact T_val (by walk_at "E") (by walk_at "R"))
local macro_rules | `(tactic| walk_at "A") => `(tactic| with_reducible first
  | exact A_and0 | exact A_or0 | (show EvA _ _ _ _ .And _ _ _; exact A_and (by walk_at "T") (fun _ => by walk_at "A")) | exact A_or (by walk_at "T") (fun _ => by walk_at "A"))
local macro_rules | `(tactic| walk_at "S1") => `(tactic| with_reducible first
  | refine S_pop ?_
  | (show Exs _ _ _ _ ((.Assign [.Name _ _] _ _ :: _) :: _) _; refine S_assign (by walk_at "E") (by walk_at "upd") ?_)
  | (show Exs _ _ _ _ ((.AugAssign _ _ _ _ :: _) :: _) _; refine S_aug (by walk_at "mem") (by walk_at "E") (by walk_at "I") (by walk_at "upd") ?_)
  | (show Exs _ _ _ _ ((.Assign [.Tuple _ _ _] _ _ :: _) :: _) _; refine S_unpack (by walk_at "E") (by walk_at "names") (by walk_at "upds") ?_))
local macro_rules | `(tactic| walk_at "S") => `(tactic| repeat walk_at "S1")
local macro_rules | `(tactic| walk_at "ret") => `(tactic| (with_reducible show Exs _ _ _ _ ((.Return _ _ :: _) :: _) _; with_reducible apply S_ret'; walk_at "E"))
local macro_rules | `(tactic| walk_at "weak") => `(tactic| with_reducible first | exact Weak.nil | (apply Weak.skip; walk_at "weak") | (apply Weak.same; walk_at "weak") | (apply Weak.keep; rotate_left; walk_at "weak"))
local macro_rules | `(tactic| walk_at "end") => `(tactic| ((repeat (with_reducible refine S_pop ?_)); with_reducible apply S_end'; walk_at "weak"))
local macro_rules | `(tactic| walk_at "weak") => `(tactic| with_reducible first | exact Weak.nil | (apply Weak.skip; walk_at "weak") | (apply Weak.same; walk_at "weak") | (apply Weak.keep; rotate_left; walk_at "weak"))
local macro_rules | `(tactic| walk_at "end") => `(tactic| ((repeat (with_reducible refine S_pop ?_)); with_reducible apply S_end'; walk_at "weak"))
local macro_rules | `(tactic| walk_at "M1") => `(tactic| with_reducible first | assumption)
local macro_rules | `(tactic| walk_at "M0") => `(tactic| with_reducible first | assumption)
local macro_rules | `(tactic| walk_at "C") => `(tactic| with_reducible first | assumption)
local macro_rules | `(tactic| walk_at "E") => `(tactic| with_reducible first
  | (show EvE _ _ _ _ (.Call (.Attribute _ _ _) [.Constant _ _ _, .Constant _ _ _] [] _) _ _; exact E_replace' (by walk_at "E") (by assumption) (by decide +kernel) (by walk_at "side"))
  | (show EvE _ _ _ _ (.Call (.Attribute _ _ _) [_] [] _) _ _; exact E_meth1 (by walk_at "E") (by walk_at "E") (by walk_at "M1"))
  | (show EvE _ _ _ _ (.NamedExpr (.Name _ _) _ _) _ _; exact E_named (by walk_at "E") (by walk_at "upd"))
  | (show EvE _ _ _ _ (.Subscript _ (.Constant (.int _) _ _) _) _ _; exact E_listitem (by walk_at "E") (by walk_at "E") (by decide) (by decide) (by with_unfolding_all exact rfl)))
local macro_rules | `(tactic| walk_at "S1") => `(tactic| with_reducible first
  | (show Exs _ _ _ _ ((.Assign [.Tuple [.Name _ _, .Name _ _] _ _] (.Tuple [_, _] _ _) _ :: _) :: _) _; refine S_swap2 (by walk_at "L") (by walk_at "upd") (by walk_at "upd") ?_)
  | (show Exs _ _ _ _ ((.Assign [.Tuple [.Name _ _, .Name _ _, .Name _ _] _ _] (.Tuple [_, _, _] _ _) _ :: _) :: _) _; refine S_swap3 (by walk_at "L") (by walk_at "upd") (by walk_at "upd") (by walk_at "upd") ?_)
  | (show Exs _ _ _ _ ((.Assign [.Tuple _ _ _] _ _ :: _) :: _) _; refine S_unpackL (by walk_at "E") (by walk_at "names") (by walk_at "upds") ?_))
local macro_rules | `(tactic| walk_at "B") => `(tactic| with_reducible first | assumption)
local macro_rules | `(tactic| walk_at "E") => `(tactic| with_reducible (show EvE _ _ _ _ (.Subscript (.Name _ _) (.Constant (.int 0) _ _) _) _ _; refine E_tupitem (j := 0) (by walk_at "E") (by walk_at "E") (by decide) (by decide) (by with_unfolding_all rfl) (by with_unfolding_all rfl)))
local macro_rules | `(tactic| walk_at "E") => `(tactic| with_reducible (show EvE _ _ _ _ (.Subscript (.Name _ _) (.Constant (.int 1) _ _) _) _ _; refine E_tupitem (j := 1) (by walk_at "E") (by walk_at "E") (by decide) (by decide) (by with_unfolding_all rfl) (by with_unfolding_all rfl)))
local macro_rules | `(tactic| walk_at "E") => `(tactic| with_reducible (show EvE _ _ _ _ (.Subscript (.Name _ _) (.Constant (.int 2) _ _) _) _ _; refine E_tupitem (j := 2) (by walk_at "E") (by walk_at "E") (by decide) (by decide) (by with_unfolding_all rfl) (by with_unfolding_all rfl)))
abbrev pv2 (z e : Int) : PV := .tuple [.int z, .int e]
theorem sp_val {w : World} {z e : Int} : FnSpec w 1 "_law_value" [pvM z e] (pv2 z e) := by
  have h1 : sg z = 1 → -(z.natAbs : Int) = z := by unfold sg; split <;> omega
  have h2 : sg z ≠ 1 → (z.natAbs : Int) = z := by unfold sg; split <;> omega
  refine fn_intro (Γ := []) 342 (by kernel_rfl) (by rfl) (by kernel_rfl) ["s"] [] [pvM z e] (by decide +kernel) rfl ?_ ?_
  · intro s vs ks H ra rk
    refine bindN ra rk fun vs hv => ?_
    match vs, hv with
    | [a], _ => exact BindsTo.of_eq (by rfl)
  intro ρ hρ; simp only [envZip_cons, envZip_nil, envZip_nil'] at hρ; subst hρ
  refine S_ret' (E_tup (L_cons (E_ife (d := .int z) (by walk_at "T") (fun h => E_eq (by walk_at "E") (congrArg PyData.int (h1 (of_decide_eq_true h)))) (fun h => E_eq (by walk_at "E") (congrArg PyData.int (h2 (of_decide_eq_false h))))) (L_cons (by walk_at "E") L_nil))) rfl
theorem bits2 : (intBits 2 : Int) = 2 := by decide
theorem B_pow2 {k : Int} (h : 0 ≤ k) (h2 : k ≤ 1000000) : BinV .Pow (.int 2) (.int k) (.int (2 ^ k.toNat)) := B_pow h (by rw [bits2]; omega)
theorem bits_pow2 (k : Nat) : intBits ((2 : Int) ^ k) = k + 1 := bl_of (by rw [Int.natAbs_pow]; exact Nat.le_refl _) (by rw [Int.natAbs_pow]; exact Nat.pow_lt_pow_right (by decide) (by omega))
theorem minif (a b : Int) : (if b < a then b else a) = min a b := by split <;> omega
theorem sp_sum {w : World} {z1 e1 z2 e2 : Int} (h1 : intBits z1 ≤ 100000) (h2 : intBits z2 ≤ 100000) (x1 : -100000 ≤ e1 ∧ e1 ≤ 100000) (x2 : -100000 ≤ e2 ∧ e2 ≤ 100000) :
    ∃ z e, FnSpec w 1 "_law_sum" [pv2 z1 e1, pv2 z2 e2] (pv2 z e) ∧ val z e = val z1 e1 + val z2 e2 ∧ e = min e1 e2 ∧ z = z1 * 2 ^ (e1 - min e1 e2).toNat + z2 * 2 ^ (e2 - min e1 e2).toNat := by
  refine ⟨z1 * 2 ^ (e1 - min e1 e2).toNat + z2 * 2 ^ (e2 - min e1 e2).toNat, min e1 e2, ?_, ?_, rfl, rfl⟩
  · have p1 := B_pow2 (k := e1 - min e1 e2) (by omega) (by omega)
    have p2 := B_pow2 (k := e2 - min e1 e2) (by omega) (by omega)
    have m1 : BinV .Mult (.int z1) (.int (2 ^ (e1 - min e1 e2).toNat)) (.int (z1 * 2 ^ (e1 - min e1 e2).toNat)) := B_mul (.of_bits (by omega) (by rw [bits_pow2]; omega))
    have m2 : BinV .Mult (.int z2) (.int (2 ^ (e2 - min e1 e2).toNat)) (.int (z2 * 2 ^ (e2 - min e1 e2).toNat)) := B_mul (.of_bits (by omega) (by rw [bits_pow2]; omega))
    refine fn_intro (Γ := ["min"]) 349 (by kernel_rfl) (by rfl) (by kernel_rfl) ["x", "y"] ["low"] [pv2 z1 e1, pv2 z2 e2] (by decide +kernel) rfl ?_ ?_
    · intro s vs ks H ra rk
      refine bindN ra rk fun vs hv => ?_
      match vs, hv with
      | [a, b], _ => exact BindsTo.of_eq (by rfl)
    intro ρ hρ; simp only [envZip_cons, envZip_nil, envZip_nil'] at hρ; subst hρ
    refine S_assign (E_eq (b := .int (min e1 e2)) (by walk_at "E") (congrArg PyData.int (minif _ _))) (by walk_at "upd") ?_
    exact S_ret' (E_tup (L_cons (E_bin (E_bin (by walk_at "E") (E_bin (by walk_at "E") (E_bin (by walk_at "E") (by walk_at "E") B_sub) p1) m1) (E_bin (by walk_at "E") (E_bin (by walk_at "E") (E_bin (by walk_at "E") (by walk_at "E") B_sub) p2) m2) B_add) (L_cons (by walk_at "E") L_nil))) rfl
  · rw [← val_add, ← val_at z1 e1 (by omega), ← val_at z2 e2 (by omega)]
theorem sp_less {w : World} {z1 e1 z2 e2 : Int} (h1 : intBits z1 ≤ 100000) (h2 : intBits z2 ≤ 100000) (x1 : -100000 ≤ e1 ∧ e1 ≤ 100000) (x2 : -100000 ≤ e2 ∧ e2 ≤ 100000) :
    FnSpec w 1 "_law_less" [pv2 z1 e1, pv2 z2 e2] (.bool (decide (val z1 e1 < val z2 e2))) := by
  have p1 := B_pow2 (k := e1 - min e1 e2) (by omega) (by omega)
  have p2 := B_pow2 (k := e2 - min e1 e2) (by omega) (by omega)
  have m1 : BinV .Mult (.int z1) (.int (2 ^ (e1 - min e1 e2).toNat)) (.int (z1 * 2 ^ (e1 - min e1 e2).toNat)) := B_mul (.of_bits (by omega) (by rw [bits_pow2]; omega))
  have m2 : BinV .Mult (.int z2) (.int (2 ^ (e2 - min e1 e2).toNat)) (.int (z2 * 2 ^ (e2 - min e1 e2).toNat)) := B_mul (.of_bits (by omega) (by rw [bits_pow2]; omega))
  refine fn_intro (Γ := ["min"]) 356 (by kernel_rfl) (by rfl) (by kernel_rfl) ["x", "y"] ["low"] [pv2 z1 e1, pv2 z2 e2] (by decide +kernel) rfl ?_ ?_
  · intro s vs ks H ra rk
    refine bindN ra rk fun vs hv => ?_
    match vs, hv with
    | [a, b], _ => exact BindsTo.of_eq (by rfl)
  intro ρ hρ; simp only [envZip_cons, envZip_nil, envZip_nil'] at hρ; subst hρ
  refine S_assign (E_eq (b := .int (min e1 e2)) (by walk_at "E") (congrArg PyData.int (minif _ _))) (by walk_at "upd") ?_
  refine S_ret' (E_cmp (E_bin (by walk_at "E") (E_bin (by walk_at "E") (E_bin (by walk_at "E") (by walk_at "E") B_sub) p1) m1) (E_bin (by walk_at "E") (E_bin (by walk_at "E") (E_bin (by walk_at "E") (by walk_at "E") B_sub) p2) m2) C_lt) ?_
  congr 1
  rw [decide_eq_decide, val_at z1 e1 (show min e1 e2 ≤ e1 by omega), val_at z2 e2 (show min e1 e2 ≤ e2 by omega), val_lt]
end Mine
end

-- PyT
section
namespace Mine
section
variable {w : World} {n : Nat} {Γ : List Str} {ρ ρ₁ : PEnv} {e : Expr}
theorem I_tup {ds : List PV} (h1 : EvE w n Γ ρ e (.tuple ds) ρ₁) : EvI w n Γ ρ e ds ρ₁ := by
  constructor; intro nm scope L ad cd A h₀ s Q E I R hp h
  refine h1.run nm scope L ad cd A h₀ s _ E I R hp fun v h' tk hp' I' g r => ?_
  obtain ⟨l, vs, rfl, il, rv⟩ := r.tup
  refine withToks hp' (iter_tuple il fun hp3 => ?_)
  have hlt : l < h'.objs.size := il.lt
  have hgr := Grow.push h' { cls := .type "tuple_iterator", data := .fields #[.ref l, .int 0 0] }
  have hW := Walks.tuple (prog := pg) (w := w) R.hd h'.objs.size l (Nat.ne_of_lt hlt) vs.toArray
  have hsz : vs.toArray.size = ds.length := by rw [← rv.length, List.size_toArray]
  rw [hsz] at hW
  obtain ⟨m, F, _⟩ := I'.fr
  refine h h'.objs.size [h'.objs.size, l] [h'.objs.size] _ _ _ tk hp3 (I'.grow hgr) (g.trans (hgr.but L)) hW ⟨⟨_, Heap.get?_push_size _ rfl, rfl, rfl⟩, il.push _⟩ ?_ ?_ ?_ ?_ ?_ ?_
  · intro hm
    rcases List.mem_cons.mp hm with q | q
    · exact absurd F.ns.lt (by rw [q]; exact Nat.lt_irrefl _)
    · rw [List.mem_singleton] at q
      subst q
      obtain ⟨o, es, ep, e1, e2, _⟩ := F.ns
      obtain ⟨o', e1', _, k, e2'⟩ := il
      rw [e1] at e1'; cases e1'
      rw [e2] at e2'; cases e2'
  · intro b hb
    rw [List.mem_singleton.mp hb]
    exact next_is_new F
  · intro b hb
    rw [List.mem_singleton.mp hb]
    cases hq : s.heap.get? h'.objs.size with
    | none => rfl
    | some o =>
      by_cases hbL : h'.objs.size = L
      · exact absurd F.ns.lt (by rw [← hbL]; exact Nat.lt_irrefl _)
      · exact absurd (Heap.lt_size (g _ o hbL hq)) (Nat.lt_irrefl _)
  · rintro i h3 ⟨⟨o, ho, hc, hd⟩, _⟩ b hb o' ho' xs k e
    rw [List.mem_singleton.mp hb, ho] at ho'
    cases ho'
    rw [hd] at e; cases e
  · intro i v hv
    have hv' : vs[i]? = some v := by simpa using hv
    have hlt : i < ds.length := by rw [← rv.length]; exact (List.getElem?_eq_some_iff.mp hv').1
    obtain ⟨u, hu, ru⟩ := repAll_get rv (List.getElem?_eq_getElem hlt)
    rw [hv'] at hu; cases hu
    exact ⟨_, List.getElem?_eq_getElem hlt, ru.grow hgr⟩
  · intro b hb
    rcases List.mem_cons.mp hb with q | q
    · rw [q]; exact ⟨_, Heap.get?_push_size _ rfl⟩
    · rw [List.mem_singleton.mp q]; obtain ⟨o, ho, _⟩ := il; exact ⟨o, Heap.get?_push_of_some _ ho⟩
theorem S_unpackC {ρ₂ : PEnv} {es : List Expr} {xs : List Str} {ds : List PV} {k : Nat} {tp p : Pos} {rest : List Stmt} {bs : List (List Stmt)} {o : Out} (h1 : EvE w n Γ ρ e (.list ds) ρ₁) (hn : Names es xs) (u : Upds xs ds ρ₁ ρ₂) (h2 : Exs w n Γ ρ₂ (rest :: bs) o)
    (hs : ∀ l env, swapsWith e (some (.Tuple es k tp)) l env = pure false := by intros; with_unfolding_all rfl) (hw : ∀ env, swappedStores [.Tuple es k tp] e env = pure none := by intros; with_unfolding_all rfl) :
    Exs w n Γ ρ ((.Assign [.Tuple es k tp] e p :: rest) :: bs) o := by
  refine S_one ?_ h2
  constructor; intro nm scope L ad cd A h₀ s Q E I R hp h
  refine wpAny_execs_cons (Assign_Tuple (h1.run nm scope L ad cd A h₀ s _ E I R hp fun v h' tk hp' I' g r => ?_) (show swapsWith e (some (.Tuple es k tp)) p.line (envOf nm scope L ad cd) = pure false from hs _ _) (hw _))
  obtain ⟨t, vs, rfl, ht, rv⟩ := r.list
  refine assign_Tuple_list R.hd ht ?_ (hn.star _) fun h3 g3 => ?_
  · rw [hn.length, u.length, List.size_toArray, rv.length]
  have g3' : Grow h' h3 := fun b o e => g3 b o (Nat.ne_of_lt (Heap.lt_size e)) e
  refine withToks hp' (assignAll_run hn u (I'.grow g3') (rv.grow g3') fun h4 tk4 I4 g4 => ?_)
  exact fun hp4 => wpAny_execs_nil (h _ h4 tk4 hp4 ⟨rfl, I4⟩ ((g.trans (g3'.but L)).trans g4))
end
end Mine
end

-- WdB
section
namespace Mine
open PySem.Builtin (bitAnd bitXor)
open PySem.Builtin.Int (intBits)
local macro_rules | `(tactic| walk_at "mem") => `(tactic| with_reducible (first | exact List.mem_cons_self | (refine List.mem_cons_of_mem _ ?_; walk_at "mem")))
local macro_rules | `(tactic| walk_at "upd") => `(tactic| with_reducible (first | exact Upd.head | (apply Upd.tail; walk_at "upd")))
local macro_rules | `(tactic| walk_at "upds") => `(tactic| first | exact Upds.nil | exact Upds.cons (by walk_at "upd") (by walk_at "upds"))
local macro_rules | `(tactic| walk_at "names") => `(tactic| first | exact Names.nil | exact Names.cons (by walk_at "names"))
local macro_rules | `(tactic| walk_at "side") => `(tactic| first | assumption | decide | omega)
local macro_rules | `(tactic| walk_at "B") => `(tactic| with_reducible first
  | exact B_add | exact B_sub | (show BinV .Mult _ _ _; exact B_mul (by walk_at "side")) | (show BinV .FloorDiv _ _ _; exact B_fdiv (by walk_at "side") (by walk_at "side")) | (show BinV .Mod _ _ _; exact B_mod (by walk_at "side"))
  | (show BinV .LShift _ _ _; exact B_shl (by walk_at "side") (by walk_at "side")) | (show BinV .RShift _ _ _; exact B_shr (by walk_at "side")) | (show BinV .Pow _ _ _; exact B_pow (by walk_at "side") (by walk_at "side"))
  | exact B_and | exact B_xor | (show BinV .Add (.str _) _ _; exact B_adds (by walk_at "side")))
local macro_rules | `(tactic| walk_at "I") => `(tactic| with_reducible first
  | exact I_add | exact I_sub | (show IBinV .LShift _ _ _; exact I_shl (by walk_at "side") (by walk_at "side")) | (show IBinV .RShift _ _ _; exact I_shr (by walk_at "side")) | exact I_xor | (show IBinV .Add (.str _) _ _; exact I_adds (by walk_at "side")))
local macro_rules | `(tactic| walk_at "C") => `(tactic| with_reducible first
  | exact C_eq | exact C_ne | exact C_lt | exact C_le | exact C_gt | exact C_ge | exact C_eqs | exact C_nes
  | (show CmpV .Eq (.tuple _) (.tuple _) _; exact C_eqd (by with_unfolding_all rfl) (by with_unfolding_all rfl) (by with_unfolding_all exact Nat.le_of_ble_eq_true rfl))
  | (show CmpV .NotEq (.tuple _) (.tuple _) _; exact C_ned (by with_unfolding_all rfl) (by with_unfolding_all rfl) (by with_unfolding_all exact Nat.le_of_ble_eq_true rfl)))
local macro_rules | `(tactic| walk_at "U") => `(tactic| with_reducible first | exact U_neg | (show UnV .Not _ _; exact U_not (by walk_at "R")))
local macro_rules | `(tactic| walk_at "R") => `(tactic| with_reducible first | exact R_int | exact R_bool | (show TruV (.str _) _; exact R_str (by walk_at "side")))
local macro_rules | `(tactic| walk_at "G") => `(tactic| with_reducible first
  | exact gl_fzero | exact gl_zero | exact gl_one | exact gl_near | exact gl_floor | exact gl_ceil | exact gl_up | exact gl_down | exact gl_fnan | exact gl_finf | exact gl_fninf | exact gl_blog | exact gl_digits)
local macro_rules | `(tactic| walk_at "L") => `(tactic| with_reducible first | exact L_nil | (show EvL _ _ _ _ (_ :: _) _ _; exact L_cons (by walk_at "E") (by walk_at "L")))
local macro_rules | `(tactic| walk_at "M0") => `(tactic| with_reducible first | exact M_bitlen | (show Meth0 _ (.str _) _; first | exact M_strip (by walk_at "side") | exact M_lower (by walk_at "side")))
local macro_rules | `(tactic| walk_at "K") => `(tactic| with_reducible first | assumption | exact K_int | exact K_abs | exact K_max | exact K_min | (show CallV (.builtin "len") _ _; exact K_len (by walk_at "side")) | (show CallV (.builtin "divmod") _ _; exact K_divmod (by walk_at "side") (by walk_at "side")))
local macro_rules | `(tactic| walk_at "Ebi") => `(tactic| with_reducible first
  | (show EvE _ _ _ _ (.Call (.Name (Str.ofString "int") _) _ _ _) _ _; exact E_bi bi_int (by walk_at "mem") rfl (by walk_at "L") (by walk_at "K"))
  | (show EvE _ _ _ _ (.Call (.Name (Str.ofString "len") _) _ _ _) _ _; exact E_bi bi_len (by walk_at "mem") rfl (by walk_at "L") (by walk_at "K"))
  | (show EvE _ _ _ _ (.Call (.Name (Str.ofString "abs") _) _ _ _) _ _; exact E_bi bi_abs (by walk_at "mem") rfl (by walk_at "L") (by walk_at "K"))
  | (show EvE _ _ _ _ (.Call (.Name (Str.ofString "max") _) _ _ _) _ _; exact E_bi bi_max (by walk_at "mem") rfl (by walk_at "L") (by walk_at "K"))
  | (show EvE _ _ _ _ (.Call (.Name (Str.ofString "min") _) _ _ _) _ _; exact E_bi bi_min (by walk_at "mem") rfl (by walk_at "L") (by walk_at "K"))
  | (show EvE _ _ _ _ (.Call (.Name (Str.ofString "divmod") _) _ _ _) _ _; exact E_bi bi_divmod (by walk_at "mem") rfl (by walk_at "L") (by walk_at "K"))
  | (show EvE _ _ _ _ (.Call (.Name (Str.ofString "str") _) _ _ _) _ _; exact E_bi bi_str (by walk_at "mem") rfl (by walk_at "L") (by walk_at "K"))
  | (show EvE _ _ _ _ (.Call (.Name (Str.ofString "pow") _) _ _ _) _ _; exact E_bi bi_pow (by walk_at "mem") rfl (by walk_at "L") (by walk_at "K"))
  | (show EvE _ _ _ _ (.Call (.Name (Str.ofString "isinstance") _) _ _ _) _ _; exact E_isint (by walk_at "mem") (by walk_at "mem") (by walk_at "E")))
local macro_rules | `(tactic| walk_at "E") => `(tactic| with_reducible first
  | assumption
  | (show EvE _ _ _ _ (.Name _ _) _ _; first | exact E_name (by walk_at "mem") | exact E_gl (by walk_at "mem") (by walk_at "G"))
  | exact E_int
  | (show EvE _ _ _ _ (.BinOp _ _ _ _) _ _; exact E_bin (by walk_at "E") (by walk_at "E") (by walk_at "B"))
  | exact E_str | exact E_bool | exact E_none
  | (show EvE _ _ _ _ (.UnaryOp _ _ _) _ _; exact E_un (by walk_at "E") (by walk_at "U"))
  | (show EvE _ _ _ _ (.Tuple _ _ _) _ _; exact E_tup (by walk_at "L"))
  | (show EvE _ _ _ _ (.Call (.Name _ _) _ _ _) _ _; first | walk_at "Ebi" | exact E_call (by walk_at "mem") (by walk_at "L") (by assumption))
  | (show EvE _ _ _ _ (.BoolOp .Or [_, _] _) _ _; exact E_orp (by walk_at "E") (by walk_at "side"))
  | (show EvE _ _ _ _ (.Call (.Attribute _ _ _) [] [] _) _ _; exact E_meth0 (by walk_at "E") (by walk_at "M0"))
  | (show EvE _ _ _ _ (.Compare _ [_] [_] _) _ _; exact E_cmp (by walk_at "E") (by walk_at "E") (by walk_at "C")))
local macro_rules | `(tactic| walk_at "T") => `(tactic| with_reducible first
  | assumption
  | (show EvT _ _ _ _ (.UnaryOp .Not _ _) _ _; exact T_not (by walk_at "T")) | (show EvT _ _ _ _ (.Compare _ [_] [_] _) _ _; exact T_cmp (by walk_at "E") (by walk_at "E") (by walk_at "C"))
  | (show EvT _ _ _ _ (.Compare _ [_, _] [_, _] _) _ _; exact T_chain (by walk_at "E") (by walk_at "E") (by walk_at "C") (fun _ => by walk_at "E") (fun _ => by walk_at "C"))
  | (show EvT _ _ _ _ (.BoolOp _ _ _) _ _; exact T_bool (by walk_at "A")) | exact T_val (by walk_at "E") (by walk_at "R"))
local macro_rules | `(tactic| walk_at "A") => `(tactic| with_reducible first
  | exact A_and0 | exact A_or0 | (show EvA _ _ _ _ .And _ _ _; exact A_and (by walk_at "T") (fun _ => by walk_at "A")) | exact A_or (by walk_at "T") (fun _ => by walk_at "A"))
local macro_rules | `(tactic| walk_at "S1") => `(tactic| with_reducible first
  | refine S_pop ?_
  | (show Exs _ _ _ _ ((.Assign [.Name _ _] _ _ :: _) :: _) _; refine S_assign (by walk_at "E") (by walk_at "upd") ?_)
  | (show Exs _ _ _ _ ((.AugAssign _ _ _ _ :: _) :: _) _; refine S_aug (by walk_at "mem") (by walk_at "E") (by walk_at "I") (by walk_at "upd") ?_)
  | (show Exs _ _ _ _ ((.Assign [.Tuple _ _ _] _ _ :: _) :: _) _; refine S_unpack (by walk_at "E") (by walk_at "names") (by walk_at "upds") ?_))
local macro_rules | `(tactic| walk_at "S") => `(tactic| repeat walk_at "S1")
local macro_rules | `(tactic| walk_at "ret") => `(tactic| (with_reducible show Exs _ _ _ _ ((.Return _ _ :: _) :: _) _; with_reducible apply S_ret'; walk_at "E"))
local macro_rules | `(tactic| walk_at "weak") => `(tactic| with_reducible first | exact Weak.nil | (apply Weak.skip; walk_at "weak") | (apply Weak.same; walk_at "weak") | (apply Weak.keep; rotate_left; walk_at "weak"))
local macro_rules | `(tactic| walk_at "end") => `(tactic| ((repeat (with_reducible refine S_pop ?_)); with_reducible apply S_end'; walk_at "weak"))
local macro_rules | `(tactic| walk_at "weak") => `(tactic| with_reducible first | exact Weak.nil | (apply Weak.skip; walk_at "weak") | (apply Weak.same; walk_at "weak") | (apply Weak.keep; rotate_left; walk_at "weak"))
local macro_rules | `(tactic| walk_at "end") => `(tactic| ((repeat (with_reducible refine S_pop ?_)); with_reducible apply S_end'; walk_at "weak"))
local macro_rules | `(tactic| walk_at "M1") => `(tactic| with_reducible first | assumption)
local macro_rules | `(tactic| walk_at "M0") => `(tactic| with_reducible first | assumption)
local macro_rules | `(tactic| walk_at "C") => `(tactic| with_reducible first | assumption)
local macro_rules | `(tactic| walk_at "E") => `(tactic| with_reducible first
  | (show EvE _ _ _ _ (.Call (.Attribute _ _ _) [.Constant _ _ _, .Constant _ _ _] [] _) _ _; exact E_replace' (by walk_at "E") (by assumption) (by decide +kernel) (by walk_at "side"))
  | (show EvE _ _ _ _ (.Call (.Attribute _ _ _) [_] [] _) _ _; exact E_meth1 (by walk_at "E") (by walk_at "E") (by walk_at "M1"))
  | (show EvE _ _ _ _ (.NamedExpr (.Name _ _) _ _) _ _; exact E_named (by walk_at "E") (by walk_at "upd"))
  | (show EvE _ _ _ _ (.Subscript _ (.Constant (.int _) _ _) _) _ _; exact E_listitem (by walk_at "E") (by walk_at "E") (by decide) (by decide) (by with_unfolding_all exact rfl)))
local macro_rules | `(tactic| walk_at "S1") => `(tactic| with_reducible first
  | (show Exs _ _ _ _ ((.Assign [.Tuple [.Name _ _, .Name _ _] _ _] (.Tuple [_, _] _ _) _ :: _) :: _) _; refine S_swap2 (by walk_at "L") (by walk_at "upd") (by walk_at "upd") ?_)
  | (show Exs _ _ _ _ ((.Assign [.Tuple [.Name _ _, .Name _ _, .Name _ _] _ _] (.Tuple [_, _, _] _ _) _ :: _) :: _) _; refine S_swap3 (by walk_at "L") (by walk_at "upd") (by walk_at "upd") (by walk_at "upd") ?_)
  | (show Exs _ _ _ _ ((.Assign [.Tuple _ _ _] _ _ :: _) :: _) _; refine S_unpackL (by walk_at "E") (by walk_at "names") (by walk_at "upds") ?_))
local macro_rules | `(tactic| walk_at "B") => `(tactic| with_reducible first | assumption)
structure Sm (z e : Int) : Prop where
  b : intBits z ≤ 100000
  x : -100000 ≤ e ∧ e ≤ 100000
theorem less_no {w : World} {z1 e1 z2 e2 : Int} (h1 : Sm z1 e1) (h2 : Sm z2 e2) (h : val z2 e2 ≤ val z1 e1) : FnSpec w 1 "_law_less" [pv2 z1 e1, pv2 z2 e2] (.bool false) := by
  have := sp_less (w := w) h1.b h2.b h1.x h2.x
  rwa [decide_eq_false (Rat.not_lt.mpr h)] at this
theorem sp_within {w : World} {z1 e1 z2 e2 z3 e3 z4 e4 : Int} (h1 : Sm z1 e1) (h2 : Sm z2 e2) (h3 : Sm z3 e3) (h4 : Sm z4 e4) (k1 : val z3 e3 ≤ val z1 e1) (k2 : val z2 e2 ≤ val z4 e4) (k3 : val z1 e1 ≤ val z2 e2) :
    FnSpec w 2 "_law_within" [pvI (pvM z1 e1) (pvM z2 e2), pvI (pvM z3 e3) (pvM z4 e4)] (.bool true) := by
  have F1 := less_no (w := w) h1 h3 k1
  have F2 := less_no (w := w) h4 h2 k2
  have F3 := less_no (w := w) h2 h1 k3
  have FV : ∀ (i : Nat) (d r : PV), ([pvM z1 e1, pvM z2 e2, pvM z3 e3, pvM z4 e4] : List PV)[i]? = some d → ([pv2 z1 e1, pv2 z2 e2, pv2 z3 e3, pv2 z4 e4] : List PV)[i]? = some r → FnSpec w 1 "_law_value" [d] r := by
    intro i d r hd hr
    match i with
    | 0 => cases hd; cases hr; exact sp_val
    | 1 => cases hd; cases hr; exact sp_val
    | 2 => cases hd; cases hr; exact sp_val
    | 3 => cases hd; cases hr; exact sp_val
    | _ + 4 => cases hd
  refine fn_intro (Γ := ["_law_less"]) 375 (by kernel_rfl) (by rfl) (by kernel_rfl) ["part", "whole"] ["a", "b", "c", "d"] [pvI (pvM z1 e1) (pvM z2 e2), pvI (pvM z3 e3) (pvM z4 e4)] (by decide +kernel) rfl ?_ ?_
  · intro s vs ks H ra rk
    refine bindN ra rk fun vs hv => ?_
    match vs, hv with
    | [a, b], _ => exact BindsTo.of_eq (by rfl)
  intro ρ hρ; simp only [envZip_cons, envZip_nil, envZip_nil'] at hρ; subst hρ
  refine S_unpackC (E_listcall (k := 1) (rs := [pv2 z1 e1, pv2 z2 e2, pv2 z3 e3, pv2 z4 e4]) (I_tup (E_bin (by walk_at "E") (by walk_at "E") (B_addt (by simp) (by simp) (by simp)))) rfl rfl (by simp) FV (by decide) (by decide +kernel) (by decide +kernel) rfl (by decide +kernel) (by decide +kernel) (by decide +kernel) (by decide +kernel) (by decide +kernel)) (by walk_at "names") (by walk_at "upds") ?_
  refine S_ret' (E_boolop (V_andb (E_un (by walk_at "E") (U_not R_bool)) (fun _ => V_andb (E_un (by walk_at "E") (U_not R_bool)) (fun _ => V_one (E_un (by walk_at "E") (U_not R_bool)))))) rfl
end Mine
end

-- WdC
section
namespace Mine
open PySem.Builtin (bitAnd bitXor)
open PySem.Builtin.Int (intBits)
local macro_rules | `(tactic| walk_at "mem") => `(tactic| with_reducible (first | exact List.mem_cons_self | (refine List.mem_cons_of_mem _ ?_; walk_at "mem")))
local macro_rules | `(tactic| walk_at "upd") => `(tactic| with_reducible (first | exact Upd.head | (apply Upd.tail; walk_at "upd")))
local macro_rules | `(tactic| walk_at "upds") => `(tactic| first | exact Upds.nil | exact Upds.cons (by walk_at "upd") (by walk_at "upds"))
local macro_rules | `(tactic| walk_at "names") => `(tactic| first | exact Names.nil | exact Names.cons (by walk_at "names"))
local macro_rules | `(tactic| walk_at "side") => `(tactic| first | assumption | decide | omega)
local macro_rules | `(tactic| walk_at "B") => `(tactic| with_reducible first
  | exact B_add | exact B_sub | (show BinV .Mult _ _ _; exact B_mul (by walk_at "side")) | (show BinV .FloorDiv _ _ _; exact B_fdiv (by walk_at "side") (by walk_at "side")) | (show BinV .Mod _ _ _; exact B_mod (by walk_at "side"))
  | (show BinV .LShift _ _ _; exact B_shl (by walk_at "side") (by walk_at "side")) | (show BinV .RShift _ _ _; exact B_shr (by walk_at "side")) | (show BinV .Pow _ _ _; exact B_pow (by walk_at "side") (by walk_at "side"))
  | exact B_and | exact B_xor | (show BinV .Add (.str _) _ _; exact B_adds (by walk_at "side")))
local macro_rules | `(tactic| walk_at "I") => `(tactic| with_reducible first
  | exact I_add | exact I_sub | (show IBinV .LShift _ _ _; exact I_shl (by walk_at "side") (by walk_at "side")) | (show IBinV .RShift _ _ _; exact I_shr (by walk_at "side")) | exact I_xor | (show IBinV .Add (.str _) _ _; exact I_adds (by walk_at "side")))
local macro_rules | `(tactic| walk_at "C") => `(tactic| with_reducible first
  | exact C_eq | exact C_ne | exact C_lt | exact C_le | exact C_gt | exact C_ge | exact C_eqs | exact C_nes
  | (show CmpV .Eq (.tuple _) (.tuple _) _; exact C_eqd (by with_unfolding_all rfl) (by with_unfolding_all rfl) (by with_unfolding_all exact Nat.le_of_ble_eq_true rfl))
  | (show CmpV .NotEq (.tuple _) (.tuple _) _; exact C_ned (by with_unfolding_all rfl) (by with_unfolding_all rfl) (by with_unfolding_all exact Nat.le_of_ble_eq_true rfl)))
local macro_rules | `(tactic| walk_at "U") => `(tactic| with_reducible first | exact U_neg | (show UnV .Not _ _; exact U_not (by walk_at "R")))
local macro_rules | `(tactic| walk_at "R") => `(tactic| with_reducible first | exact R_int | exact R_bool | (show TruV (.str _) _; exact R_str (by walk_at "side")))
local macro_rules | `(tactic| walk_at "G") => `(tactic| with_reducible first
  | exact gl_fzero | exact gl_zero | exact gl_one | exact gl_near | exact gl_floor | exact gl_ceil | exact gl_up | exact gl_down | exact gl_fnan | exact gl_finf | exact gl_fninf | exact gl_blog | exact gl_digits)
local macro_rules | `(tactic| walk_at "L") => `(tactic| with_reducible first | exact L_nil | (show EvL _ _ _ _ (_ :: _) _ _; exact L_cons (by walk_at "E") (by walk_at "L")))
local macro_rules | `(tactic| walk_at "M0") => `(tactic| with_reducible first | exact M_bitlen | (show Meth0 _ (.str _) _; first | exact M_strip (by walk_at "side") | exact M_lower (by walk_at "side")))
local macro_rules | `(tactic| walk_at "K") => `(tactic| with_reducible first | assumption | exact K_int | exact K_abs | exact K_max | exact K_min | (show CallV (.builtin "len") _ _; exact K_len (by walk_at "side")) | (show CallV (.builtin "divmod") _ _; exact K_divmod (by walk_at "side") (by walk_at "side")))
local macro_rules | `(tactic| walk_at "Ebi") => `(tactic| with_reducible first
  | (show EvE _ _ _ _ (.Call (.Name (Str.ofString "int") _) _ _ _) _ _; exact E_bi bi_int (by walk_at "mem") rfl (by walk_at "L") (by walk_at "K"))
  | (show EvE _ _ _ _ (.Call (.Name (Str.ofString "len") _) _ _ _) _ _; exact E_bi bi_len (by walk_at "mem") rfl (by walk_at "L") (by walk_at "K"))
  | (show EvE _ _ _ _ (.Call (.Name (Str.ofString "abs") _) _ _ _) _ _; exact E_bi bi_abs (by walk_at "mem") rfl (by walk_at "L") (by walk_at "K"))
  | (show EvE _ _ _ _ (.Call (.Name (Str.ofString "max") _) _ _ _) _ _; exact E_bi bi_max (by walk_at "mem") rfl (by walk_at "L") (by walk_at "K"))
  | (show EvE _ _ _ _ (.Call (.Name (Str.ofString "min") _) _ _ _) _ _; exact E_bi bi_min (by walk_at "mem") rfl (by walk_at "L") (by walk_at "K"))
  | (show EvE _ _ _ _ (.Call (.Name (Str.ofString "divmod") _) _ _ _) _ _; exact E_bi bi_divmod (by walk_at "mem") rfl (by walk_at "L") (by walk_at "K"))
  | (show EvE _ _ _ _ (.Call (.Name (Str.ofString "str") _) _ _ _) _ _; exact E_bi bi_str (by walk_at "mem") rfl (by walk_at "L") (by walk_at "K"))
  | (show EvE _ _ _ _ (.Call (.Name (Str.ofString "pow") _) _ _ _) _ _; exact E_bi bi_pow (by walk_at "mem") rfl (by walk_at "L") (by walk_at "K"))
  | (show EvE _ _ _ _ (.Call (.Name (Str.ofString "isinstance") _) _ _ _) _ _; exact E_isint (by walk_at "mem") (by walk_at "mem") (by walk_at "E")))
local macro_rules | `(tactic| walk_at "E") => `(tactic| with_reducible first
  | assumption
  | (show EvE _ _ _ _ (.Name _ _) _ _; first | exact E_name (by walk_at "mem") | exact E_gl (by walk_at "mem") (by walk_at "G"))
  | exact E_int
  | (show EvE _ _ _ _ (.BinOp _ _ _ _) _ _; exact E_bin (by walk_at "E") (by walk_at "E") (by walk_at "B"))
  | exact E_str | exact E_bool | exact E_none
  | (show EvE _ _ _ _ (.UnaryOp _ _ _) _ _; exact E_un (by walk_at "E") (by walk_at "U"))
  | (show EvE _ _ _ _ (.Tuple _ _ _) _ _; exact E_tup (by walk_at "L"))
  | (show EvE _ _ _ _ (.Call (.Name _ _) _ _ _) _ _; first | walk_at "Ebi" | exact E_call (by walk_at "mem") (by walk_at "L") (by assumption))
  | (show EvE _ _ _ _ (.BoolOp .Or [_, _] _) _ _; exact E_orp (by walk_at "E") (by walk_at "side"))
  | (show EvE _ _ _ _ (.Call (.Attribute _ _ _) [] [] _) _ _; exact E_meth0 (by walk_at "E") (by walk_at "M0"))
  | (show EvE _ _ _ _ (.Compare _ [_] [_] _) _ _; exact E_cmp (by walk_at "E") (by walk_at "E") (by walk_at "C")))
local macro_rules | `(tactic| walk_at "T") => `(tactic| with_reducible first
  | assumption
  | (show EvT _ _ _ _ (.UnaryOp .Not _ _) _ _; exact T_not (by walk_at "T")) | (show EvT _ _ _ _ (.Compare _ [_] [_] _) _ _; exact T_cmp (by walk_at "E") (by walk_at "E") (by walk_at "C"))
  | (show EvT _ _ _ _ (.Compare _ [_, _] [_, _] _) _ _; exact T_chain (by walk_at "E") (by walk_at "E") (by walk_at "C") (fun _ => by walk_at "E") (fun _ => by walk_at "C"))
  | (show EvT _ _ _ _ (.BoolOp _ _ _) _ _; exact T_bool (by walk_at "A")) | exact T_val (by walk_at "E") (by walk_at "R"))
local macro_rules | `(tactic| walk_at "A") => `(tactic| with_reducible first
  | exact A_and0 | exact A_or0 | (show EvA _ _ _ _ .And _ _ _; exact A_and (by walk_at "T") (fun _ => by walk_at "A")) | exact A_or (by walk_at "T") (fun _ => by walk_at "A"))
local macro_rules | `(tactic| walk_at "S1") => `(tactic| with_reducible first
  | refine S_pop ?_
  | (show Exs _ _ _ _ ((.Assign [.Name _ _] _ _ :: _) :: _) _; refine S_assign (by walk_at "E") (by walk_at "upd") ?_)
  | (show Exs _ _ _ _ ((.AugAssign _ _ _ _ :: _) :: _) _; refine S_aug (by walk_at "mem") (by walk_at "E") (by walk_at "I") (by walk_at "upd") ?_)
  | (show Exs _ _ _ _ ((.Assign [.Tuple _ _ _] _ _ :: _) :: _) _; refine S_unpack (by walk_at "E") (by walk_at "names") (by walk_at "upds") ?_))
local macro_rules | `(tactic| walk_at "S") => `(tactic| repeat walk_at "S1")
local macro_rules | `(tactic| walk_at "ret") => `(tactic| (with_reducible show Exs _ _ _ _ ((.Return _ _ :: _) :: _) _; with_reducible apply S_ret'; walk_at "E"))
local macro_rules | `(tactic| walk_at "weak") => `(tactic| with_reducible first | exact Weak.nil | (apply Weak.skip; walk_at "weak") | (apply Weak.same; walk_at "weak") | (apply Weak.keep; rotate_left; walk_at "weak"))
local macro_rules | `(tactic| walk_at "end") => `(tactic| ((repeat (with_reducible refine S_pop ?_)); with_reducible apply S_end'; walk_at "weak"))
local macro_rules | `(tactic| walk_at "weak") => `(tactic| with_reducible first | exact Weak.nil | (apply Weak.skip; walk_at "weak") | (apply Weak.same; walk_at "weak") | (apply Weak.keep; rotate_left; walk_at "weak"))
local macro_rules | `(tactic| walk_at "end") => `(tactic| ((repeat (with_reducible refine S_pop ?_)); with_reducible apply S_end'; walk_at "weak"))
local macro_rules | `(tactic| walk_at "M1") => `(tactic| with_reducible first | assumption)
local macro_rules | `(tactic| walk_at "M0") => `(tactic| with_reducible first | assumption)
local macro_rules | `(tactic| walk_at "C") => `(tactic| with_reducible first | assumption)
local macro_rules | `(tactic| walk_at "E") => `(tactic| with_reducible first
  | (show EvE _ _ _ _ (.Call (.Attribute _ _ _) [.Constant _ _ _, .Constant _ _ _] [] _) _ _; exact E_replace' (by walk_at "E") (by assumption) (by decide +kernel) (by walk_at "side"))
  | (show EvE _ _ _ _ (.Call (.Attribute _ _ _) [_] [] _) _ _; exact E_meth1 (by walk_at "E") (by walk_at "E") (by walk_at "M1"))
  | (show EvE _ _ _ _ (.NamedExpr (.Name _ _) _ _) _ _; exact E_named (by walk_at "E") (by walk_at "upd"))
  | (show EvE _ _ _ _ (.Subscript _ (.Constant (.int _) _ _) _) _ _; exact E_listitem (by walk_at "E") (by walk_at "E") (by decide) (by decide) (by with_unfolding_all exact rfl)))
local macro_rules | `(tactic| walk_at "S1") => `(tactic| with_reducible first
  | (show Exs _ _ _ _ ((.Assign [.Tuple [.Name _ _, .Name _ _] _ _] (.Tuple [_, _] _ _) _ :: _) :: _) _; refine S_swap2 (by walk_at "L") (by walk_at "upd") (by walk_at "upd") ?_)
  | (show Exs _ _ _ _ ((.Assign [.Tuple [.Name _ _, .Name _ _, .Name _ _] _ _] (.Tuple [_, _, _] _ _) _ :: _) :: _) _; refine S_swap3 (by walk_at "L") (by walk_at "upd") (by walk_at "upd") (by walk_at "upd") ?_)
  | (show Exs _ _ _ _ ((.Assign [.Tuple _ _ _] _ _ :: _) :: _) _; refine S_unpackL (by walk_at "E") (by walk_at "names") (by walk_at "upds") ?_))
local macro_rules | `(tactic| walk_at "B") => `(tactic| with_reducible first | assumption)
theorem sp_made {w : World} {n e : Int} (hb : intBits n ≤ 1000) : FnSpec w 1 "_law_made" [.int n, .int e] (pvN n e) := by
  refine fn_intro (Γ := []) 335 (by kernel_rfl) (by rfl) (by kernel_rfl) ["n", "e"] ["sign", "size", "low"] [.int n, .int e] (by decide +kernel) rfl ?_ ?_
  · intro s vs ks H ra rk
    refine bindN ra rk fun vs hv => ?_
    match vs, hv with
    | [a, b], _ => exact BindsTo.of_eq (by rfl)
  intro ρ hρ; simp only [envZip_cons, envZip_nil, envZip_nil'] at hρ; subst hρ
  refine S_unpack (E_ife (d := .tuple [.int (sg n), .int n.natAbs]) (by walk_at "T") (fun h => ?_) (fun h => ?_)) (by walk_at "names") (by walk_at "upds") ?_
  · have h := of_decide_eq_true h
    refine E_eq (E_tup (by walk_at "L")) ?_
    rw [show sg n = 1 from if_pos h, show (n.natAbs : Int) = -n by omega]
  · have h := of_decide_eq_false h
    refine E_eq (E_tup (by walk_at "L")) ?_
    rw [show sg n = 0 from if_neg h, show (n.natAbs : Int) = n by omega]
  by_cases h0 : n = 0
  · subst h0
    refine S_if (by walk_at "T") (fun _ => ?_) (fun h => absurd h (by decide))
    walk_at "ret"
    rw [show (pvN 0 e : PV) = pvM 0 0 by show pvM (nrmZ 0) (nrmE 0 e) = _; rw [nrmZ_zero]; rfl]
    rfl
  · refine S_if (T_eq (b₂ := false) (by walk_at "T") (decide_eq_false (by omega))) (fun h => by cases h) (fun _ => ?_)
    have hz : n.natAbs ≠ 0 := by omega
    refine S_assign (E_eq (b := .int (tz n.natAbs)) (by walk_at "E") (congrArg PyData.int (lowbit hz))) (by walk_at "upd") ?_
    have htz := nrm_bl h0
    have p1 := B_pow2 (k := (tz n.natAbs : Nat)) (by omega) (by omega)
    rw [show ((tz n.natAbs : Nat) : Int).toNat = tz n.natAbs from rfl] at p1
    have hnn : ((n.natAbs : Int)).fdiv (2 ^ tz n.natAbs) = ((nrmZ n).natAbs : Int) := by
      rw [fdiv_eq]
      have h3 : (n.natAbs : Int) = ((nrmZ n).natAbs : Int) * 2 ^ tz n.natAbs := by
        have := congrArg (Nat.cast (R := Int)) (nrm_abs h0)
        push_cast at this
        omega
      generalize tz n.natAbs = t at h3
      rw [h3]
      exact Int.mul_ediv_cancel _ (Int.ne_of_gt (pow2_pos _))
    have p2 : BinV .FloorDiv (.int n.natAbs) (.int (2 ^ tz n.natAbs)) (.int (nrmZ n).natAbs) := hnn ▸ B_fdiv (Int.ne_of_gt (pow2_pos _)) (log2_lt (k := tz n.natAbs + 1) (by rw [bits_pow2]; omega) (by omega))
    refine S_assign (E_bin (by walk_at "E") (E_bin (by walk_at "E") (by walk_at "E") p1) p2) (by walk_at "upd") ?_
    walk_at "ret"
    show _ = pvM (nrmZ n) (nrmE n e)
    rw [← nrm_sg n, show nrmE n e = e + tz n.natAbs from if_neg h0]
    try rw [bl_abs]
theorem fmod_b {a b : Int} (h : 0 < b) : 0 ≤ a.fmod b ∧ a.fmod b < b := by
  rw [Int.fmod_eq_emod_of_nonneg _ (by omega)]
  exact ⟨Int.emod_nonneg _ (by omega), Int.emod_lt_of_pos _ h⟩
theorem D_small {a b : Int} (h0 : 0 < b) (h : b.natAbs < 2 ^ 8000) : BinV .FloorDiv (.int a) (.int b) (.int (a.fdiv b)) := B_fdiv (by omega) (log2_lt (k := 8000) (bits_of h) (by decide))
theorem sp_signed {w : World} {rich : Int} : ∃ n : Int, n.natAbs < 10 ^ 12 ∧ FnSpec w 1 "_law_signed" [.int rich] (.int n) := by
  generalize hj : (rich.fdiv 16).fmod 13 = j
  have hj2 := fmod_b (a := rich.fdiv 16) (b := 13) (by decide)
  rw [hj] at hj2
  have hpos : (0 : Int) < 10 ^ j.toNat := Int.pow_pos (by decide)
  generalize hm : (rich.fdiv (2 ^ 10)).fmod (10 ^ j.toNat) = m
  have hm2 := fmod_b (a := rich.fdiv (2 ^ 10)) hpos
  rw [hm] at hm2
  have hle : (10 : Int) ^ j.toNat ≤ 10 ^ 12 := by
    have := Nat.pow_le_pow_right (n := 10) (by decide) (show j.toNat ≤ 12 by omega)
    exact_mod_cast this
  refine ⟨if rich.fmod 2 = 1 then -m else m, by split <;> omega, ?_⟩
  have p1 := B_pow2 (k := 10) (by decide) (by decide)
  have p2 : BinV .FloorDiv (.int rich) (.int (2 ^ Int.toNat 10)) (.int (rich.fdiv (2 ^ 10))) := D_small (by decide) (by decide +kernel)
  have p3 : BinV .FloorDiv (.int rich) (.int 16) (.int (rich.fdiv 16)) := D_small (by decide) (by decide +kernel)
  have p4 : BinV .Mod (.int (rich.fdiv 16)) (.int 13) (.int j) := hj ▸ B_mod (by decide)
  have p5 : BinV .Pow (.int 10) (.int j) (.int (10 ^ j.toNat)) := B_pow hj2.1 (by rw [bits10]; omega)
  have p6 : BinV .Mod (.int (rich.fdiv (2 ^ 10))) (.int (10 ^ j.toNat)) (.int m) := hm ▸ B_mod (by omega)
  have p7 : BinV .Mod (.int rich) (.int 2) (.int (rich.fmod 2)) := B_mod (by decide)
  refine fn_intro (Γ := []) 389 (by kernel_rfl) (by rfl) (by kernel_rfl) ["rich"] ["n"] [.int rich] (by decide +kernel) rfl ?_ ?_
  · intro s vs ks H ra rk
    refine bindN ra rk fun vs hv => ?_
    match vs, hv with
    | [a], _ => exact BindsTo.of_eq (by rfl)
  intro ρ hρ; simp only [envZip_cons, envZip_nil, envZip_nil'] at hρ; subst hρ
  refine S_assign (E_bin (E_bin (by walk_at "E") (E_bin (by walk_at "E") (by walk_at "E") p1) p2) (E_bin (by walk_at "E") (E_bin (E_bin (by walk_at "E") (by walk_at "E") p3) (by walk_at "E") p4) p5) p6) (by walk_at "upd") ?_
  refine S_ret (E_ife (T_cmp (E_bin (by walk_at "E") (by walk_at "E") p7) (by walk_at "E") C_eq) (fun h => ?_) (fun h => ?_))
  · rw [if_pos (of_decide_eq_true h)]; walk_at "E"
  · rw [if_neg (of_decide_eq_false h)]; walk_at "E"
theorem sp_mixed {w : World} {ns : List Int} {k : Nat} (hb : ∀ n ∈ ns, intBits n ≤ 2 ^ 20) (hl : ns.length ≤ 100) (hk : k ≤ 100) : ∃ r : Int, 0 ≤ r ∧ FnSpec w 1 "_law_mixed" [.list (ns.map .int), .int k] (.int r) := by
  generalize hn : ns.getD k 0 = n
  have hnb : intBits n ≤ 2 ^ 20 := by
    rw [← hn, List.getD_eq_getElem?_getD]
    cases h : ns[k]? with
    | none => decide
    | some y => exact hb y (List.mem_of_getElem? h)
  generalize ha : n * 6364136223846793005 + ((k : Int) + 1) * 1442695040888963407 = a
  have hab : intBits a ≤ 2 ^ 20 + 100 := by
    have h1 := bl_lt n
    have h2 : n.natAbs < 2 ^ (2 ^ 20) := Nat.lt_of_lt_of_le h1 (Nat.pow_le_pow_right (by decide) hnb)
    refine bl_le.mpr ?_
    rw [Nat.pow_add]
    generalize 2 ^ 2 ^ 20 = T at h2
    have : a.natAbs ≤ T * 6364136223846793005 + 101 * 1442695040888963407 := by omega
    omega
  have q1 : BinV .Mult (.int n) (.int 6364136223846793005) (.int (n * 6364136223846793005)) := B_mul (.of_right (by decide +kernel))
  have q2 : BinV .Mult (.int ((k : Int) + 1)) (.int 1442695040888963407) (.int (((k : Int) + 1) * 1442695040888963407)) := B_mul (.of_right (by decide +kernel))
  have q3 : BinV .Add (.int (n * 6364136223846793005)) (.int (((k : Int) + 1) * 1442695040888963407)) (.int a) := ha ▸ B_add
  have q4 : BinV .Pow (.int a) (.int 3) (.int (a ^ Int.toNat 3)) := B_pow (by decide) (by omega)
  have q5 := B_pow2 (k := 40) (by decide) (by decide)
  have q6 : BinV .FloorDiv (.int (a ^ Int.toNat 3)) (.int (2 ^ Int.toNat 40)) (.int ((a ^ Int.toNat 3).fdiv (2 ^ Int.toNat 40))) := D_small (by decide) (by decide +kernel)
  have q7 := B_pow2 (k := 190) (by decide) (by decide)
  have q8 : BinV .Mod (.int ((a ^ Int.toNat 3).fdiv (2 ^ Int.toNat 40))) (.int (2 ^ Int.toNat 190)) (.int (((a ^ Int.toNat 3).fdiv (2 ^ Int.toNat 40)).fmod (2 ^ Int.toNat 190))) := B_mod (by decide)
  have q9 := B_pow2 (k := 64) (by decide) (by decide)
  have hnn := fmod_b (a := (a ^ Int.toNat 3).fdiv (2 ^ Int.toNat 40)) (b := 2 ^ Int.toNat 190) (by decide)
  have kl := K_lenl (ds := ns.map PyData.int) (by simp; omega)
  refine ⟨if 2 ^ Int.toNat 64 ≤ n then n else ((a ^ Int.toNat 3).fdiv (2 ^ Int.toNat 40)).fmod (2 ^ Int.toNat 190), ?_, ?_⟩
  · split
    · rename_i h; exact Int.le_trans (by decide) h
    · exact hnn.1
  refine fn_intro (Γ := ["len"]) 328 (by kernel_rfl) (by rfl) (by kernel_rfl) ["script", "k"] ["n"] [.list (ns.map .int), .int k] (by decide +kernel) rfl ?_ ?_
  · intro s vs ks H ra rk
    refine bindN ra rk fun vs hv => ?_
    match vs, hv with
    | [a, b], _ => exact BindsTo.of_eq (by rfl)
  intro ρ hρ; simp only [envZip_cons, envZip_nil, envZip_nil'] at hρ; subst hρ
  refine S_assign (E_ife (d := .int n) (by walk_at "T") (fun h => ?_) (fun h => ?_)) (by walk_at "upd") ?_
  · have h := of_decide_eq_true h
    rw [List.length_map] at h
    have hlt : k < ns.length := by omega
    refine E_listitem (by walk_at "E") (by walk_at "E") (by omega) (by omega) ?_
    rw [show ((k : Int)).toNat = k from rfl, List.getElem?_map, List.getElem?_eq_getElem hlt]
    rw [← hn, List.getD_eq_getElem?_getD, List.getElem?_eq_getElem hlt]; rfl
  · have h := of_decide_eq_false h
    rw [List.length_map] at h
    have hlt : ns.length ≤ k := by omega
    refine E_eq (by walk_at "E") ?_
    rw [← hn, List.getD_eq_getElem?_getD, List.getElem?_eq_none hlt]; rfl
  by_cases hc : 2 ^ Int.toNat 64 ≤ n
  · rw [if_pos hc]
    refine S_if (T_eq (b₂ := true) (T_cmp (by walk_at "E") (E_bin (by walk_at "E") (by walk_at "E") q9) C_ge) (decide_eq_true hc)) (fun _ => ?_) (fun h => by cases h)
    walk_at "ret"
    rfl
  · rw [if_neg hc]
    refine S_if (T_eq (b₂ := false) (T_cmp (by walk_at "E") (E_bin (by walk_at "E") (by walk_at "E") q9) C_ge) (decide_eq_false hc)) (fun h => by cases h) (fun _ => ?_)
    exact S_ret (E_bin (E_bin (E_bin (E_bin (E_bin (by walk_at "E") (by walk_at "E") q1) (E_bin (by walk_at "E") (by walk_at "E") q2) q3) (by walk_at "E") q4) (E_bin (by walk_at "E") (by walk_at "E") q5) q6) (E_bin (by walk_at "E") (by walk_at "E") q7) q8)
end Mine
end

-- WdD
section
namespace Mine
open PySem.Builtin (bitAnd bitXor)
open PySem.Builtin.Int (intBits)
local macro_rules | `(tactic| walk_at "mem") => `(tactic| with_reducible (first | exact List.mem_cons_self | (refine List.mem_cons_of_mem _ ?_; walk_at "mem")))
local macro_rules | `(tactic| walk_at "upd") => `(tactic| with_reducible (first | exact Upd.head | (apply Upd.tail; walk_at "upd")))
local macro_rules | `(tactic| walk_at "upds") => `(tactic| first | exact Upds.nil | exact Upds.cons (by walk_at "upd") (by walk_at "upds"))
local macro_rules | `(tactic| walk_at "names") => `(tactic| first | exact Names.nil | exact Names.cons (by walk_at "names"))
local macro_rules | `(tactic| walk_at "side") => `(tactic| first | assumption | decide | omega)
local macro_rules | `(tactic| walk_at "B") => `(tactic| with_reducible first
  | exact B_add | exact B_sub | (show BinV .Mult _ _ _; exact B_mul (by walk_at "side")) | (show BinV .FloorDiv _ _ _; exact B_fdiv (by walk_at "side") (by walk_at "side")) | (show BinV .Mod _ _ _; exact B_mod (by walk_at "side"))
  | (show BinV .LShift _ _ _; exact B_shl (by walk_at "side") (by walk_at "side")) | (show BinV .RShift _ _ _; exact B_shr (by walk_at "side")) | (show BinV .Pow _ _ _; exact B_pow (by walk_at "side") (by walk_at "side"))
  | exact B_and | exact B_xor | (show BinV .Add (.str _) _ _; exact B_adds (by walk_at "side")))
local macro_rules | `(tactic| walk_at "I") => `(tactic| with_reducible first
  | exact I_add | exact I_sub | (show IBinV .LShift _ _ _; exact I_shl (by walk_at "side") (by walk_at "side")) | (show IBinV .RShift _ _ _; exact I_shr (by walk_at "side")) | exact I_xor | (show IBinV .Add (.str _) _ _; exact I_adds (by walk_at "side")))
local macro_rules | `(tactic| walk_at "C") => `(tactic| with_reducible first
  | exact C_eq | exact C_ne | exact C_lt | exact C_le | exact C_gt | exact C_ge | exact C_eqs | exact C_nes
  | (show CmpV .Eq (.tuple _) (.tuple _) _; exact C_eqd (by with_unfolding_all rfl) (by with_unfolding_all rfl) (by with_unfolding_all exact Nat.le_of_ble_eq_true rfl))
  | (show CmpV .NotEq (.tuple _) (.tuple _) _; exact C_ned (by with_unfolding_all rfl) (by with_unfolding_all rfl) (by with_unfolding_all exact Nat.le_of_ble_eq_true rfl)))
local macro_rules | `(tactic| walk_at "U") => `(tactic| with_reducible first | exact U_neg | (show UnV .Not _ _; exact U_not (by walk_at "R")))
local macro_rules | `(tactic| walk_at "R") => `(tactic| with_reducible first | exact R_int | exact R_bool | (show TruV (.str _) _; exact R_str (by walk_at "side")))
local macro_rules | `(tactic| walk_at "G") => `(tactic| with_reducible first
  | exact gl_fzero | exact gl_zero | exact gl_one | exact gl_near | exact gl_floor | exact gl_ceil | exact gl_up | exact gl_down | exact gl_fnan | exact gl_finf | exact gl_fninf | exact gl_blog | exact gl_digits)
local macro_rules | `(tactic| walk_at "L") => `(tactic| with_reducible first | exact L_nil | (show EvL _ _ _ _ (_ :: _) _ _; exact L_cons (by walk_at "E") (by walk_at "L")))
local macro_rules | `(tactic| walk_at "M0") => `(tactic| with_reducible first | exact M_bitlen | (show Meth0 _ (.str _) _; first | exact M_strip (by walk_at "side") | exact M_lower (by walk_at "side")))
local macro_rules | `(tactic| walk_at "K") => `(tactic| with_reducible first | assumption | exact K_int | exact K_abs | exact K_max | exact K_min | (show CallV (.builtin "len") _ _; exact K_len (by walk_at "side")) | (show CallV (.builtin "divmod") _ _; exact K_divmod (by walk_at "side") (by walk_at "side")))
local macro_rules | `(tactic| walk_at "Ebi") => `(tactic| with_reducible first
  | (show EvE _ _ _ _ (.Call (.Name (Str.ofString "int") _) _ _ _) _ _; exact E_bi bi_int (by walk_at "mem") rfl (by walk_at "L") (by walk_at "K"))
  | (show EvE _ _ _ _ (.Call (.Name (Str.ofString "len") _) _ _ _) _ _; exact E_bi bi_len (by walk_at "mem") rfl (by walk_at "L") (by walk_at "K"))
  | (show EvE _ _ _ _ (.Call (.Name (Str.ofString "abs") _) _ _ _) _ _; exact E_bi bi_abs (by walk_at "mem") rfl (by walk_at "L") (by walk_at "K"))
  | (show EvE _ _ _ _ (.Call (.Name (Str.ofString "max") _) _ _ _) _ _; exact E_bi bi_max (by walk_at "mem") rfl (by walk_at "L") (by walk_at "K"))
  | (show EvE _ _ _ _ (.Call (.Name (Str.ofString "min") _) _ _ _) _ _; exact E_bi bi_min (by walk_at "mem") rfl (by walk_at "L") (by walk_at "K"))
  | (show EvE _ _ _ _ (.Call (.Name (Str.ofString "divmod") _) _ _ _) _ _; exact E_bi bi_divmod (by walk_at "mem") rfl (by walk_at "L") (by walk_at "K"))
  | (show EvE _ _ _ _ (.Call (.Name (Str.ofString "str") _) _ _ _) _ _; exact E_bi bi_str (by walk_at "mem") rfl (by walk_at "L") (by walk_at "K"))
  | (show EvE _ _ _ _ (.Call (.Name (Str.ofString "pow") _) _ _ _) _ _; exact E_bi bi_pow (by walk_at "mem") rfl (by walk_at "L") (by walk_at "K"))
  | (show EvE _ _ _ _ (.Call (.Name (Str.ofString "isinstance") _) _ _ _) _ _; exact E_isint (by walk_at "mem") (by walk_at "mem") (by walk_at "E")))
local macro_rules | `(tactic| walk_at "E") => `(tactic| with_reducible first
  | assumption
  | (show EvE _ _ _ _ (.Name _ _) _ _; first | exact E_name (by walk_at "mem") | exact E_gl (by walk_at "mem") (by walk_at "G"))
  | exact E_int
  | (show EvE _ _ _ _ (.BinOp _ _ _ _) _ _; exact E_bin (by walk_at "E") (by walk_at "E") (by walk_at "B"))
  | exact E_str | exact E_bool | exact E_none
  | (show EvE _ _ _ _ (.UnaryOp _ _ _) _ _; exact E_un (by walk_at "E") (by walk_at "U"))
  | (show EvE _ _ _ _ (.Tuple _ _ _) _ _; exact E_tup (by walk_at "L"))
  | (show EvE _ _ _ _ (.Call (.Name _ _) _ _ _) _ _; first | walk_at "Ebi" | exact E_call (by walk_at "mem") (by walk_at "L") (by assumption))
  | (show EvE _ _ _ _ (.BoolOp .Or [_, _] _) _ _; exact E_orp (by walk_at "E") (by walk_at "side"))
  | (show EvE _ _ _ _ (.Call (.Attribute _ _ _) [] [] _) _ _; exact E_meth0 (by walk_at "E") (by walk_at "M0"))
  | (show EvE _ _ _ _ (.Compare _ [_] [_] _) _ _; exact E_cmp (by walk_at "E") (by walk_at "E") (by walk_at "C")))
local macro_rules | `(tactic| walk_at "T") => `(tactic| with_reducible first
  | assumption
  | (show EvT _ _ _ _ (.UnaryOp .Not _ _) _ _; exact T_not (by walk_at "T")) | (show EvT _ _ _ _ (.Compare _ [_] [_] _) _ _; exact T_cmp (by walk_at "E") (by walk_at "E") (by walk_at "C"))
  | (show EvT _ _ _ _ (.Compare _ [_, _] [_, _] _) _ _; exact T_chain (by walk_at "E") (by walk_at "E") (by walk_at "C") (fun _ => by walk_at "E") (fun _ => by walk_at "C"))
  | (show EvT _ _ _ _ (.BoolOp _ _ _) _ _; exact T_bool (by walk_at "A")) | exact T_val (by walk_at "E") (by walk_at "R"))
local macro_rules | `(tactic| walk_at "A") => `(tactic| with_reducible first
  | exact A_and0 | exact A_or0 | (show EvA _ _ _ _ .And _ _ _; exact A_and (by walk_at "T") (fun _ => by walk_at "A")) | exact A_or (by walk_at "T") (fun _ => by walk_at "A"))
local macro_rules | `(tactic| walk_at "S1") => `(tactic| with_reducible first
  | refine S_pop ?_
  | (show Exs _ _ _ _ ((.Assign [.Name _ _] _ _ :: _) :: _) _; refine S_assign (by walk_at "E") (by walk_at "upd") ?_)
  | (show Exs _ _ _ _ ((.AugAssign _ _ _ _ :: _) :: _) _; refine S_aug (by walk_at "mem") (by walk_at "E") (by walk_at "I") (by walk_at "upd") ?_)
  | (show Exs _ _ _ _ ((.Assign [.Tuple _ _ _] _ _ :: _) :: _) _; refine S_unpack (by walk_at "E") (by walk_at "names") (by walk_at "upds") ?_))
local macro_rules | `(tactic| walk_at "S") => `(tactic| repeat walk_at "S1")
local macro_rules | `(tactic| walk_at "ret") => `(tactic| (with_reducible show Exs _ _ _ _ ((.Return _ _ :: _) :: _) _; with_reducible apply S_ret'; walk_at "E"))
local macro_rules | `(tactic| walk_at "weak") => `(tactic| with_reducible first | exact Weak.nil | (apply Weak.skip; walk_at "weak") | (apply Weak.same; walk_at "weak") | (apply Weak.keep; rotate_left; walk_at "weak"))
local macro_rules | `(tactic| walk_at "end") => `(tactic| ((repeat (with_reducible refine S_pop ?_)); with_reducible apply S_end'; walk_at "weak"))
local macro_rules | `(tactic| walk_at "weak") => `(tactic| with_reducible first | exact Weak.nil | (apply Weak.skip; walk_at "weak") | (apply Weak.same; walk_at "weak") | (apply Weak.keep; rotate_left; walk_at "weak"))
local macro_rules | `(tactic| walk_at "end") => `(tactic| ((repeat (with_reducible refine S_pop ?_)); with_reducible apply S_end'; walk_at "weak"))
local macro_rules | `(tactic| walk_at "M1") => `(tactic| with_reducible first | assumption)
local macro_rules | `(tactic| walk_at "M0") => `(tactic| with_reducible first | assumption)
local macro_rules | `(tactic| walk_at "C") => `(tactic| with_reducible first | assumption)
local macro_rules | `(tactic| walk_at "E") => `(tactic| with_reducible first
  | (show EvE _ _ _ _ (.Call (.Attribute _ _ _) [.Constant _ _ _, .Constant _ _ _] [] _) _ _; exact E_replace' (by walk_at "E") (by assumption) (by decide +kernel) (by walk_at "side"))
  | (show EvE _ _ _ _ (.Call (.Attribute _ _ _) [_] [] _) _ _; exact E_meth1 (by walk_at "E") (by walk_at "E") (by walk_at "M1"))
  | (show EvE _ _ _ _ (.NamedExpr (.Name _ _) _ _) _ _; exact E_named (by walk_at "E") (by walk_at "upd"))
  | (show EvE _ _ _ _ (.Subscript _ (.Constant (.int _) _ _) _) _ _; exact E_listitem (by walk_at "E") (by walk_at "E") (by decide) (by decide) (by with_unfolding_all exact rfl)))
local macro_rules | `(tactic| walk_at "S1") => `(tactic| with_reducible first
  | (show Exs _ _ _ _ ((.Assign [.Tuple [.Name _ _, .Name _ _] _ _] (.Tuple [_, _] _ _) _ :: _) :: _) _; refine S_swap2 (by walk_at "L") (by walk_at "upd") (by walk_at "upd") ?_)
  | (show Exs _ _ _ _ ((.Assign [.Tuple [.Name _ _, .Name _ _, .Name _ _] _ _] (.Tuple [_, _, _] _ _) _ :: _) :: _) _; refine S_swap3 (by walk_at "L") (by walk_at "upd") (by walk_at "upd") (by walk_at "upd") ?_)
  | (show Exs _ _ _ _ ((.Assign [.Tuple _ _ _] _ _ :: _) :: _) _; refine S_unpackL (by walk_at "E") (by walk_at "names") (by walk_at "upds") ?_))
local macro_rules | `(tactic| walk_at "B") => `(tactic| with_reducible first | assumption)
local macro_rules | `(tactic| walk_at "E") => `(tactic| with_reducible (show EvE _ _ _ _ (.Subscript (.Name _ _) (.Constant (.int 0) _ _) _) _ _; refine E_tupitem (j := 0) (by walk_at "E") (by walk_at "E") (by decide) (by decide) (by with_unfolding_all rfl) (by with_unfolding_all rfl)))
local macro_rules | `(tactic| walk_at "E") => `(tactic| with_reducible (show EvE _ _ _ _ (.Subscript (.Name _ _) (.Constant (.int 1) _ _) _) _ _; refine E_tupitem (j := 1) (by walk_at "E") (by walk_at "E") (by decide) (by decide) (by with_unfolding_all rfl) (by with_unfolding_all rfl)))
local macro_rules | `(tactic| walk_at "E") => `(tactic| with_reducible (show EvE _ _ _ _ (.Subscript (.Name _ _) (.Constant (.int 2) _ _) _) _ _; refine E_tupitem (j := 2) (by walk_at "E") (by walk_at "E") (by decide) (by decide) (by with_unfolding_all rfl) (by with_unfolding_all rfl)))
theorem pow_le2 {a : Int} {n : Nat} (h0 : 0 ≤ a) (h : a ≤ n) : (1 : Int) ≤ 2 ^ a.toNat ∧ (2 : Int) ^ a.toNat ≤ 2 ^ n := by
  have h1 := pow2_pos a.toNat
  have := Nat.pow_le_pow_right (n := 2) (by decide) (show a.toNat ≤ n by omega)
  exact ⟨by omega, by exact_mod_cast this⟩
theorem sp_grid {w : World} {rich : Int} : ∃ lo hi e : Int, lo ≤ hi ∧ lo.natAbs ≤ 2 ^ 25 ∧ hi.natAbs ≤ 2 ^ 25 ∧ -12 ≤ e ∧ e ≤ 12 ∧ FnSpec w 1 "_law_grid" [.int rich] (.tuple [.int lo, .int hi, .int e]) := by
  generalize hk : rich.fmod 6 = kind
  generalize he : (rich.fdiv 6).fmod 25 - 12 = e
  have he2 := fmod_b (a := rich.fdiv 6) (b := 25) (by decide)
  generalize hbt : 1 + (rich.fdiv 150).fmod 24 = bits
  have hb2 := fmod_b (a := rich.fdiv 150) (b := 24) (by decide)
  generalize hw : 1 + (rich.fdiv (2 ^ 66)).fmod 24 = wb
  have hw2 := fmod_b (a := rich.fdiv (2 ^ 66)) (b := 24) (by decide)
  obtain ⟨b1, b2⟩ := pow_le2 (a := bits) (n := 24) (by omega) (by omega)
  obtain ⟨b3, b4⟩ := pow_le2 (a := bits - 1) (n := 23) (by omega) (by omega)
  obtain ⟨w1, w2⟩ := pow_le2 (a := wb) (n := 24) (by omega) (by omega)
  have hlo2 := fmod_b (a := rich.fdiv (2 ^ 13)) (b := 2 ^ bits.toNat) (by omega)
  have hwd2 := fmod_b (a := rich.fdiv (2 ^ 40)) (b := 2 ^ wb.toNat) (by omega)
  generalize hlo : (rich.fdiv (2 ^ 13)).fmod (2 ^ bits.toNat) = lo at hlo2
  generalize hwd : (rich.fdiv (2 ^ 40)).fmod (2 ^ wb.toNat) = wd at hwd2
  obtain ⟨LO, WD, hL⟩ : ∃ LO WD : Int, (kind = 0 ∧ WD = 0 ∧ LO = lo - 2 ^ (bits - 1).toNat) ∨ (kind = 1 ∧ LO = 0 ∧ WD = wd) ∨ (kind = 2 ∧ LO = -wd ∧ WD = wd) ∨ (kind ≠ 0 ∧ kind ≠ 1 ∧ kind ≠ 2 ∧ LO = lo - 2 ^ (bits - 1).toNat ∧ WD = wd) := by
    by_cases c0 : kind = 0
    · exact ⟨_, _, .inl ⟨c0, rfl, rfl⟩⟩
    by_cases c1 : kind = 1
    · exact ⟨_, _, .inr (.inl ⟨c1, rfl, rfl⟩)⟩
    by_cases c2 : kind = 2
    · exact ⟨_, _, .inr (.inr (.inl ⟨c2, rfl, rfl⟩))⟩
    exact ⟨_, _, .inr (.inr (.inr ⟨c0, c1, c2, rfl, rfl⟩))⟩
  have p13 := B_pow2 (k := 13) (by decide) (by decide)
  have p40 := B_pow2 (k := 40) (by decide) (by decide)
  have p66 := B_pow2 (k := 66) (by decide) (by decide)
  have pb := B_pow2 (k := bits) (by omega) (by omega)
  have pb1 := B_pow2 (k := bits - 1) (by omega) (by omega)
  have pw := B_pow2 (k := wb) (by omega) (by omega)
  have d6 : BinV .FloorDiv (.int rich) (.int 6) (.int (rich.fdiv 6)) := D_small (by decide) (by decide +kernel)
  have d150 : BinV .FloorDiv (.int rich) (.int 150) (.int (rich.fdiv 150)) := D_small (by decide) (by decide +kernel)
  have d13 : BinV .FloorDiv (.int rich) (.int (2 ^ Int.toNat 13)) (.int (rich.fdiv (2 ^ 13))) := D_small (by decide) (by decide +kernel)
  have d40 : BinV .FloorDiv (.int rich) (.int (2 ^ Int.toNat 40)) (.int (rich.fdiv (2 ^ 40))) := D_small (by decide) (by decide +kernel)
  have d66 : BinV .FloorDiv (.int rich) (.int (2 ^ Int.toNat 66)) (.int (rich.fdiv (2 ^ 66))) := D_small (by decide) (by decide +kernel)
  have m6 : BinV .Mod (.int rich) (.int 6) (.int kind) := hk ▸ B_mod (by decide)
  have m25 : BinV .Mod (.int (rich.fdiv 6)) (.int 25) (.int ((rich.fdiv 6).fmod 25)) := B_mod (by decide)
  have s25 : BinV .Sub (.int ((rich.fdiv 6).fmod 25)) (.int 12) (.int e) := he ▸ B_sub
  have m24 : BinV .Mod (.int (rich.fdiv 150)) (.int 24) (.int ((rich.fdiv 150).fmod 24)) := B_mod (by decide)
  have a24 : BinV .Add (.int 1) (.int ((rich.fdiv 150).fmod 24)) (.int bits) := hbt ▸ B_add
  have m24' : BinV .Mod (.int (rich.fdiv (2 ^ 66))) (.int 24) (.int ((rich.fdiv (2 ^ 66)).fmod 24)) := B_mod (by decide)
  have a24' : BinV .Add (.int 1) (.int ((rich.fdiv (2 ^ 66)).fmod 24)) (.int wb) := hw ▸ B_add
  have mb : BinV .Mod (.int (rich.fdiv (2 ^ 13))) (.int (2 ^ bits.toNat)) (.int lo) := hlo ▸ B_mod (by omega)
  have mw : BinV .Mod (.int (rich.fdiv (2 ^ 40))) (.int (2 ^ wb.toNat)) (.int wd) := hwd ▸ B_mod (by omega)
  refine ⟨LO, LO + WD, e, by omega, by omega, by omega, by omega, by omega, ?_⟩
  refine fn_intro (Γ := []) 363 (by kernel_rfl) (by rfl) (by kernel_rfl) ["rich"] ["kind", "e", "bits", "low", "wide"] [.int rich] (by decide +kernel) rfl ?_ ?_
  · intro s vs ks H ra rk
    refine bindN ra rk fun vs hv => ?_
    match vs, hv with
    | [a], _ => exact BindsTo.of_eq (by rfl)
  intro ρ hρ; simp only [envZip_cons, envZip_nil, envZip_nil'] at hρ; subst hρ
  refine S_swap3 (L_cons (E_bin (by walk_at "E") (by walk_at "E") m6) (L_cons (E_bin (E_bin (E_bin (by walk_at "E") (by walk_at "E") d6) (by walk_at "E") m25) (by walk_at "E") s25) (L_cons (E_bin (by walk_at "E") (E_bin (E_bin (by walk_at "E") (by walk_at "E") d150) (by walk_at "E") m24) a24) L_nil))) (by walk_at "upd") (by walk_at "upd") (by walk_at "upd") ?_
  refine S_swap2 (L_cons (E_bin (E_bin (E_bin (by walk_at "E") (E_bin (by walk_at "E") (by walk_at "E") p13) d13) (E_bin (by walk_at "E") (by walk_at "E") pb) mb) (E_bin (by walk_at "E") (E_bin (by walk_at "E") (by walk_at "E") B_sub) pb1) B_sub) (L_cons (E_bin (E_bin (by walk_at "E") (E_bin (by walk_at "E") (by walk_at "E") p40) d40) (E_bin (by walk_at "E") (E_bin (by walk_at "E") (E_bin (E_bin (by walk_at "E") (E_bin (by walk_at "E") (by walk_at "E") p66) d66) (by walk_at "E") m24') a24') pw) mw) L_nil)) (by walk_at "upd") (by walk_at "upd") ?_
  refine S_join (ρ₁ := [("rich", none), ("kind", none), ("e", some (.int e)), ("bits", none), ("low", some (.int LO)), ("wide", some (.int WD))]) ?_ ?_
  · rcases hL with ⟨c, h1, h2⟩ | ⟨c, h1, h2⟩ | ⟨c, h1, h2⟩ | ⟨c1, c2, c3, h1, h2⟩
    · refine S_if (T_eq (b₂ := true) (by walk_at "T") (decide_eq_true c)) (fun _ => ?_) (fun h => by cases h)
      walk_at "S"
      walk_at "end"
      · rw [h2]
      · rw [h1]
    · refine S_if (T_eq (b₂ := false) (by walk_at "T") (decide_eq_false (by omega))) (fun h => by cases h) (fun _ => ?_)
      refine S_if (T_eq (b₂ := true) (by walk_at "T") (decide_eq_true c)) (fun _ => ?_) (fun h => by cases h)
      walk_at "S"
      walk_at "end"
      · rw [h1]
      · rw [h2]
    · refine S_if (T_eq (b₂ := false) (by walk_at "T") (decide_eq_false (by omega))) (fun h => by cases h) (fun _ => ?_)
      refine S_if (T_eq (b₂ := false) (by walk_at "T") (decide_eq_false (by omega))) (fun h => by cases h) (fun _ => ?_)
      refine S_if (T_eq (b₂ := true) (by walk_at "T") (decide_eq_true c)) (fun _ => ?_) (fun h => by cases h)
      walk_at "S"
      walk_at "end"
      · rw [h1]
      · rw [h2]
    · refine S_if (T_eq (b₂ := false) (by walk_at "T") (decide_eq_false c1)) (fun h => by cases h) (fun _ => ?_)
      refine S_if (T_eq (b₂ := false) (by walk_at "T") (decide_eq_false c2)) (fun h => by cases h) (fun _ => ?_)
      refine S_if (T_eq (b₂ := false) (by walk_at "T") (decide_eq_false c3)) (fun h => by cases h) (fun _ => ?_)
      walk_at "end"
      · rw [h1]
      · rw [h2]
  walk_at "ret"
  rfl
theorem sp_span {w : World} {lo hi e : Int} (h1 : lo.natAbs ≤ 2 ^ 25) (h2 : hi.natAbs ≤ 2 ^ 25) : FnSpec w 2 "_law_span" [.tuple [.int lo, .int hi, .int e]] (pvI (pvN lo e) (pvN hi e)) := by
  have F1 := sp_made (w := w) (n := lo) (e := e) (Nat.le_trans (bits_of (k := 26) (by omega)) (by decide))
  have F2 := sp_made (w := w) (n := hi) (e := e) (Nat.le_trans (bits_of (k := 26) (by omega)) (by decide))
  refine fn_intro (Γ := ["_law_made"]) 370 (by kernel_rfl) (by rfl) (by kernel_rfl) ["grid"] [] [.tuple [.int lo, .int hi, .int e]] (by decide +kernel) rfl ?_ ?_
  · intro s vs ks H ra rk
    refine bindN ra rk fun vs hv => ?_
    match vs, hv with
    | [a], _ => exact BindsTo.of_eq (by rfl)
  intro ρ hρ; simp only [envZip_cons, envZip_nil, envZip_nil'] at hρ; subst hρ
  walk_at "ret"
  rfl
end Mine
end

-- WdE
section
namespace Mine
open PySem.Builtin (bitAnd bitXor)
open PySem.Builtin.Int (intBits)
local macro_rules | `(tactic| walk_at "mem") => `(tactic| with_reducible (first | exact List.mem_cons_self | (refine List.mem_cons_of_mem _ ?_; walk_at "mem")))
local macro_rules | `(tactic| walk_at "upd") => `(tactic| with_reducible (first | exact Upd.head | (apply Upd.tail; walk_at "upd")))
local macro_rules | `(tactic| walk_at "upds") => `(tactic| first | exact Upds.nil | exact Upds.cons (by walk_at "upd") (by walk_at "upds"))
local macro_rules | `(tactic| walk_at "names") => `(tactic| first | exact Names.nil | exact Names.cons (by walk_at "names"))
local macro_rules | `(tactic| walk_at "side") => `(tactic| first | assumption | decide | omega)
local macro_rules | `(tactic| walk_at "B") => `(tactic| with_reducible first
  | exact B_add | exact B_sub | (show BinV .Mult _ _ _; exact B_mul (by walk_at "side")) | (show BinV .FloorDiv _ _ _; exact B_fdiv (by walk_at "side") (by walk_at "side")) | (show BinV .Mod _ _ _; exact B_mod (by walk_at "side"))
  | (show BinV .LShift _ _ _; exact B_shl (by walk_at "side") (by walk_at "side")) | (show BinV .RShift _ _ _; exact B_shr (by walk_at "side")) | (show BinV .Pow _ _ _; exact B_pow (by walk_at "side") (by walk_at "side"))
  | exact B_and | exact B_xor | (show BinV .Add (.str _) _ _; exact B_adds (by walk_at "side")))
local macro_rules | `(tactic| walk_at "I") => `(tactic| with_reducible first
  | exact I_add | exact I_sub | (show IBinV .LShift _ _ _; exact I_shl (by walk_at "side") (by walk_at "side")) | (show IBinV .RShift _ _ _; exact I_shr (by walk_at "side")) | exact I_xor | (show IBinV .Add (.str _) _ _; exact I_adds (by walk_at "side")))
local macro_rules | `(tactic| walk_at "C") => `(tactic| with_reducible first
  | exact C_eq | exact C_ne | exact C_lt | exact C_le | exact C_gt | exact C_ge | exact C_eqs | exact C_nes
  | (show CmpV .Eq (.tuple _) (.tuple _) _; exact C_eqd (by with_unfolding_all rfl) (by with_unfolding_all rfl) (by with_unfolding_all exact Nat.le_of_ble_eq_true rfl))
  | (show CmpV .NotEq (.tuple _) (.tuple _) _; exact C_ned (by with_unfolding_all rfl) (by with_unfolding_all rfl) (by with_unfolding_all exact Nat.le_of_ble_eq_true rfl)))
local macro_rules | `(tactic| walk_at "U") => `(tactic| with_reducible first | exact U_neg | (show UnV .Not _ _; exact U_not (by walk_at "R")))
local macro_rules | `(tactic| walk_at "R") => `(tactic| with_reducible first | exact R_int | exact R_bool | (show TruV (.str _) _; exact R_str (by walk_at "side")))
local macro_rules | `(tactic| walk_at "G") => `(tactic| with_reducible first
  | exact gl_fzero | exact gl_zero | exact gl_one | exact gl_near | exact gl_floor | exact gl_ceil | exact gl_up | exact gl_down | exact gl_fnan | exact gl_finf | exact gl_fninf | exact gl_blog | exact gl_digits)
local macro_rules | `(tactic| walk_at "L") => `(tactic| with_reducible first | exact L_nil | (show EvL _ _ _ _ (_ :: _) _ _; exact L_cons (by walk_at "E") (by walk_at "L")))
local macro_rules | `(tactic| walk_at "M0") => `(tactic| with_reducible first | exact M_bitlen | (show Meth0 _ (.str _) _; first | exact M_strip (by walk_at "side") | exact M_lower (by walk_at "side")))
local macro_rules | `(tactic| walk_at "K") => `(tactic| with_reducible first | assumption | exact K_int | exact K_abs | exact K_max | exact K_min | (show CallV (.builtin "len") _ _; exact K_len (by walk_at "side")) | (show CallV (.builtin "divmod") _ _; exact K_divmod (by walk_at "side") (by walk_at "side")))
local macro_rules | `(tactic| walk_at "Ebi") => `(tactic| with_reducible first
  | (show EvE _ _ _ _ (.Call (.Name (Str.ofString "int") _) _ _ _) _ _; exact E_bi bi_int (by walk_at "mem") rfl (by walk_at "L") (by walk_at "K"))
  | (show EvE _ _ _ _ (.Call (.Name (Str.ofString "len") _) _ _ _) _ _; exact E_bi bi_len (by walk_at "mem") rfl (by walk_at "L") (by walk_at "K"))
  | (show EvE _ _ _ _ (.Call (.Name (Str.ofString "abs") _) _ _ _) _ _; exact E_bi bi_abs (by walk_at "mem") rfl (by walk_at "L") (by walk_at "K"))
  | (show EvE _ _ _ _ (.Call (.Name (Str.ofString "max") _) _ _ _) _ _; exact E_bi bi_max (by walk_at "mem") rfl (by walk_at "L") (by walk_at "K"))
  | (show EvE _ _ _ _ (.Call (.Name (Str.ofString "min") _) _ _ _) _ _; exact E_bi bi_min (by walk_at "mem") rfl (by walk_at "L") (by walk_at "K"))
  | (show EvE _ _ _ _ (.Call (.Name (Str.ofString "divmod") _) _ _ _) _ _; exact E_bi bi_divmod (by walk_at "mem") rfl (by walk_at "L") (by walk_at "K"))
  | (show EvE _ _ _ _ (.Call (.Name (Str.ofString "str") _) _ _ _) _ _; exact E_bi bi_str (by walk_at "mem") rfl (by walk_at "L") (by walk_at "K"))
  | (show EvE _ _ _ _ (.Call (.Name (Str.ofString "pow") _) _ _ _) _ _; exact E_bi bi_pow (by walk_at "mem") rfl (by walk_at "L") (by walk_at "K"))
  | (show EvE _ _ _ _ (.Call (.Name (Str.ofString "isinstance") _) _ _ _) _ _; exact E_isint (by walk_at "mem") (by walk_at "mem") (by walk_at "E")))
local macro_rules | `(tactic| walk_at "E") => `(tactic| with_reducible first
  | assumption
  | (show EvE _ _ _ _ (.Name _ _) _ _; first | exact E_name (by walk_at "mem") | exact E_gl (by walk_at "mem") (by walk_at "G"))
  | exact E_int
  | (show EvE _ _ _ _ (.BinOp _ _ _ _) _ _; exact E_bin (by walk_at "E") (by walk_at "E") (by walk_at "B"))
  | exact E_str | exact E_bool | exact E_none
  | (show EvE _ _ _ _ (.UnaryOp _ _ _) _ _; exact E_un (by walk_at "E") (by walk_at "U"))
  | (show EvE _ _ _ _ (.Tuple _ _ _) _ _; exact E_tup (by walk_at "L"))
  | (show EvE _ _ _ _ (.Call (.Name _ _) _ _ _) _ _; first | walk_at "Ebi" | exact E_call (by walk_at "mem") (by walk_at "L") (by assumption))
  | (show EvE _ _ _ _ (.BoolOp .Or [_, _] _) _ _; exact E_orp (by walk_at "E") (by walk_at "side"))
  | (show EvE _ _ _ _ (.Call (.Attribute _ _ _) [] [] _) _ _; exact E_meth0 (by walk_at "E") (by walk_at "M0"))
  | (show EvE _ _ _ _ (.Compare _ [_] [_] _) _ _; exact E_cmp (by walk_at "E") (by walk_at "E") (by walk_at "C")))
local macro_rules | `(tactic| walk_at "T") => `(tactic| with_reducible first
  | assumption
  | (show EvT _ _ _ _ (.UnaryOp .Not _ _) _ _; exact T_not (by walk_at "T")) | (show EvT _ _ _ _ (.Compare _ [_] [_] _) _ _; exact T_cmp (by walk_at "E") (by walk_at "E") (by walk_at "C"))
  | (show EvT _ _ _ _ (.Compare _ [_, _] [_, _] _) _ _; exact T_chain (by walk_at "E") (by walk_at "E") (by walk_at "C") (fun _ => by walk_at "E") (fun _ => by walk_at "C"))
  | (show EvT _ _ _ _ (.BoolOp _ _ _) _ _; exact T_bool (by walk_at "A")) | exact T_val (by walk_at "E") (by walk_at "R"))
local macro_rules | `(tactic| walk_at "A") => `(tactic| with_reducible first
  | exact A_and0 | exact A_or0 | (show EvA _ _ _ _ .And _ _ _; exact A_and (by walk_at "T") (fun _ => by walk_at "A")) | exact A_or (by walk_at "T") (fun _ => by walk_at "A"))
local macro_rules | `(tactic| walk_at "S1") => `(tactic| with_reducible first
  | refine S_pop ?_
  | (show Exs _ _ _ _ ((.Assign [.Name _ _] _ _ :: _) :: _) _; refine S_assign (by walk_at "E") (by walk_at "upd") ?_)
  | (show Exs _ _ _ _ ((.AugAssign _ _ _ _ :: _) :: _) _; refine S_aug (by walk_at "mem") (by walk_at "E") (by walk_at "I") (by walk_at "upd") ?_)
  | (show Exs _ _ _ _ ((.Assign [.Tuple _ _ _] _ _ :: _) :: _) _; refine S_unpack (by walk_at "E") (by walk_at "names") (by walk_at "upds") ?_))
local macro_rules | `(tactic| walk_at "S") => `(tactic| repeat walk_at "S1")
local macro_rules | `(tactic| walk_at "ret") => `(tactic| (with_reducible show Exs _ _ _ _ ((.Return _ _ :: _) :: _) _; with_reducible apply S_ret'; walk_at "E"))
local macro_rules | `(tactic| walk_at "weak") => `(tactic| with_reducible first | exact Weak.nil | (apply Weak.skip; walk_at "weak") | (apply Weak.same; walk_at "weak") | (apply Weak.keep; rotate_left; walk_at "weak"))
local macro_rules | `(tactic| walk_at "end") => `(tactic| ((repeat (with_reducible refine S_pop ?_)); with_reducible apply S_end'; walk_at "weak"))
local macro_rules | `(tactic| walk_at "weak") => `(tactic| with_reducible first | exact Weak.nil | (apply Weak.skip; walk_at "weak") | (apply Weak.same; walk_at "weak") | (apply Weak.keep; rotate_left; walk_at "weak"))
local macro_rules | `(tactic| walk_at "end") => `(tactic| ((repeat (with_reducible refine S_pop ?_)); with_reducible apply S_end'; walk_at "weak"))
local macro_rules | `(tactic| walk_at "M1") => `(tactic| with_reducible first | assumption)
local macro_rules | `(tactic| walk_at "M0") => `(tactic| with_reducible first | assumption)
local macro_rules | `(tactic| walk_at "C") => `(tactic| with_reducible first | assumption)
local macro_rules | `(tactic| walk_at "E") => `(tactic| with_reducible first
  | (show EvE _ _ _ _ (.Call (.Attribute _ _ _) [.Constant _ _ _, .Constant _ _ _] [] _) _ _; exact E_replace' (by walk_at "E") (by assumption) (by decide +kernel) (by walk_at "side"))
  | (show EvE _ _ _ _ (.Call (.Attribute _ _ _) [_] [] _) _ _; exact E_meth1 (by walk_at "E") (by walk_at "E") (by walk_at "M1"))
  | (show EvE _ _ _ _ (.NamedExpr (.Name _ _) _ _) _ _; exact E_named (by walk_at "E") (by walk_at "upd"))
  | (show EvE _ _ _ _ (.Subscript _ (.Constant (.int _) _ _) _) _ _; exact E_listitem (by walk_at "E") (by walk_at "E") (by decide) (by decide) (by with_unfolding_all exact rfl)))
local macro_rules | `(tactic| walk_at "S1") => `(tactic| with_reducible first
  | (show Exs _ _ _ _ ((.Assign [.Tuple [.Name _ _, .Name _ _] _ _] (.Tuple [_, _] _ _) _ :: _) :: _) _; refine S_swap2 (by walk_at "L") (by walk_at "upd") (by walk_at "upd") ?_)
  | (show Exs _ _ _ _ ((.Assign [.Tuple [.Name _ _, .Name _ _, .Name _ _] _ _] (.Tuple [_, _, _] _ _) _ :: _) :: _) _; refine S_swap3 (by walk_at "L") (by walk_at "upd") (by walk_at "upd") (by walk_at "upd") ?_)
  | (show Exs _ _ _ _ ((.Assign [.Tuple _ _ _] _ _ :: _) :: _) _; refine S_unpackL (by walk_at "E") (by walk_at "names") (by walk_at "upds") ?_))
local macro_rules | `(tactic| walk_at "B") => `(tactic| with_reducible first | assumption)
def ltF (n : Int) (s : Nat) : List Nat := List.replicate (s + 1 - (ntx n.natAbs).length) 48 ++ ntx n.natAbs
def ltT (n : Int) (s : Nat) : NumT := ⟨decide (n < 0), (ltF n s).take ((ltF n s).length - s), if 0 < s then some ((ltF n s).drop ((ltF n s).length - s)) else none, none⟩
theorem ltF_dg (n : Int) (s : Nat) : Dg (ltF n s) := by
  intro c hc
  rcases List.mem_append.mp hc with hc | hc
  · have := (List.mem_replicate.mp hc).2; omega
  · exact ntx_dg _ c hc
theorem ltF_len {n : Int} {s : Nat} (hn : n.natAbs < 10 ^ 30) (hs : s ≤ 20) : s + 1 ≤ (ltF n s).length ∧ (ltF n s).length ≤ 60 := by
  have h1 := ntx_len (k := 30) (by decide) hn
  unfold ltF
  rw [List.length_append, List.length_replicate]
  omega
theorem ltF_dv (n : Int) (s : Nat) : dv (ltF n s) = n.natAbs := by
  unfold ltF
  rw [dv_app, dv_zeros, ntx_val]; simp
theorem ltT_ok {n : Int} {s : Nat} (hn : n.natAbs < 10 ^ 30) (hs : s ≤ 20) : (ltT n s).Ok := by
  obtain ⟨l1, l2⟩ := ltF_len hn hs
  have hd := ltF_dg n s
  generalize hF : ltF n s = F at *
  have hT : ltT n s = ⟨decide (n < 0), F.take (F.length - s), if 0 < s then some (F.drop (F.length - s)) else none, none⟩ := by unfold ltT; rw [hF]
  rw [hT]
  refine ⟨fun c hc => hd c (List.mem_of_mem_take hc), ?_, ?_, ?_, ?_, ?_⟩
  · intro h
    have : (F.take (F.length - s)).length = 0 := by rw [show F.take (F.length - s) = [] from h]; rfl
    rw [List.length_take] at this; omega
  · intro b hb
    dsimp only at hb
    split at hb
    · cases hb
      refine ⟨fun c hc => hd c (List.mem_of_mem_drop hc), fun h => ?_⟩
      have : (F.drop (F.length - s)).length = 0 := by rw [h]; rfl
      rw [List.length_drop] at this; omega
    · cases hb
  · intro e v h; cases h
  · unfold NumT.text NumT.mant
    have hsg : (sgt (decide (n < 0))).length ≤ 1 := by cases decide (n < 0) <;> simp [sgt]
    dsimp only
    split <;> simp [pT, eT] <;> omega
  · intro e v h; cases h
theorem ltT_val {n : Int} {s : Nat} (hn : n.natAbs < 10 ^ 30) (hs : s ≤ 20) : (ltT n s).val = (n : Rat) * (10 : Rat) ^ (-(s : Int)) := by
  obtain ⟨l1, l2⟩ := ltF_len hn hs
  have hv := ltF_dv n s
  generalize hF : ltF n s = F at *
  have hT : ltT n s = ⟨decide (n < 0), F.take (F.length - s), if 0 < s then some (F.drop (F.length - s)) else none, none⟩ := by unfold ltT; rw [hF]
  have e1 : (ltT n s).frac = rs 48 (F.drop (F.length - s)) := by
    unfold NumT.frac
    rw [hT]
    by_cases h0 : 0 < s
    · simp [h0]
    · have : s = 0 := by omega
      subst this
      simp
  have e2 : (ltT n s).exp = -((rs 48 (F.drop (F.length - s))).length : Int) := by
    unfold NumT.exp
    rw [e1, hT]; simp
  unfold NumT.val NumT.man
  rw [e1, e2]
  have hd := dv_rs (F.take (F.length - s)) (F.drop (F.length - s))
  rw [List.take_append_drop] at hd
  obtain ⟨j, ej, _⟩ := rs_split 48 (F.drop (F.length - s))
  have hlen : (F.drop (F.length - s)).length = (rs 48 (F.drop (F.length - s))).length + j := by
    have := congrArg List.length ej
    simpa using this
  rw [show (F.drop (F.length - s)).length - (rs 48 (F.drop (F.length - s))).length = j by omega] at hd
  rw [List.length_drop, show F.length - (F.length - s) = s by omega] at hlen
  have eA : (ltT n s).A = F.take (F.length - s) := by rw [hT]
  have eN : (ltT n s).neg = decide (n < 0) := by rw [hT]
  rw [eA, eN]
  generalize dv (F.take (F.length - s) ++ rs 48 (F.drop (F.length - s))) = m at hd
  rw [hv] at hd
  have e3 : n = sgi (decide (n < 0)) m * 10 ^ j := by
    have := sgi_self n
    rw [hd] at this
    refine this.symm.trans ?_
    unfold sgi
    split <;> push_cast <;> grind
  have e4 : (n : Rat) = ((sgi (decide (n < 0)) m : Int) : Rat) * (10 : Rat) ^ (j : Int) := by
    have := congrArg (Int.cast (R := Rat)) e3
    rw [Rat.intCast_mul, ten_nat] at this
    exact this
  rw [e4, Rat.mul_assoc, ← Rat.zpow_add (by decide)]
  congr 2
  omega
set_option maxHeartbeats 2000000 in
theorem sp_text {w : World} {n : Int} {s : Nat} (hn : n.natAbs < 10 ^ 30) (hs : s ≤ 20) : FnSpec w 1 "_law_text" [.int n, .int s] (.str (tx (ltT n s).text)) := by
  obtain ⟨l1, l2⟩ := ltF_len hn hs
  have hnl := ntx_len (k := 30) (by decide) hn
  have kabs : (if n < 0 then -n else n) = ((n.natAbs : Nat) : Int) := by split <;> omega
  have ks : CallV (.type "str") [.int (n.natAbs : Int)] (.str (tx (ntx n.natAbs))) := by
    have hlg : ((n.natAbs : Nat) : Int).natAbs.log2 < 1920 := by
      by_cases h0 : ((n.natAbs : Nat) : Int).natAbs = 0
      · rw [h0]; decide
      · have := (Nat.log2_lt (k := 100) h0).mpr (Nat.lt_of_lt_of_le hn (by decide)); omega
    have := K_str (i := (n.natAbs : Int)) hlg
    rwa [str_nat] at this
  refine fn_intro (Γ := ["str", "abs", "max", "len"]) 382 (by kernel_rfl) (by rfl) (by kernel_rfl) ["n", "scale"] ["figures", "point"] [.int n, .int s] (by decide +kernel) rfl ?_ ?_
  · intro s vs ks H ra rk
    refine bindN ra rk fun vs hv => ?_
    match vs, hv with
    | [a, b], _ => exact BindsTo.of_eq (by rfl)
  intro ρ hρ; simp only [envZip_cons, envZip_nil, envZip_nil'] at hρ; subst hρ
  have kz : (tx (ntx n.natAbs)).length ≤ sizeLine := by rw [tx_len]; unfold sizeLine; omega
  have kz2 : (tx (ltF n s)).length ≤ sizeLine := by rw [tx_len]; unfold sizeLine; omega
  refine S_assign (E_bi bi_str (by walk_at "mem") rfl (L_cons (E_eq (b := .int (n.natAbs : Int)) (by walk_at "E") (congrArg PyData.int kabs)) L_nil) ks) (by walk_at "upd") ?_
  have kmx : (if (0 : Int) < (s : Int) + 1 - ((tx (ntx n.natAbs)).length : Nat) then (s : Int) + 1 - ((tx (ntx n.natAbs)).length : Nat) else 0).toNat = s + 1 - (ntx n.natAbs).length := by rw [tx_len]; split <;> omega
  refine S_assign (E_eq (b := .str (tx (ltF n s))) (E_bin (E_bin (by walk_at "E") (by walk_at "E") (B_strmul (by rw [ofs_0, tx_len]; exact mulok (by split <;> omega) (by split <;> omega)))) (by walk_at "E") (B_adds (by rw [ofs_0, tx_mul, kmx, tx_len, tx_len]; unfold sizeLine; simp; omega))) (by rw [ofs_0, tx_mul, kmx, tx_add]; rfl)) (by walk_at "upd") ?_
  refine S_assign (E_eq (b := .int (((ltF n s).length - s : Nat) : Int)) (by walk_at "E") (congrArg PyData.int (by rw [tx_len]; omega))) (by walk_at "upd") ?_
  have g1 : (tx (sgt (decide (n < 0)))).length + (tx ((ltF n s).take ((ltF n s).length - s))).length ≤ sizeLine := by
    have hsg : (sgt (decide (n < 0))).length ≤ 1 := by cases decide (n < 0) <;> simp [sgt]
    rw [tx_len, tx_len]; unfold sizeLine; simp; omega
  refine S_ret' (E_bin (E_bin (E_ife (d := .str (tx (sgt (decide (n < 0))))) (by walk_at "T") (fun h => ?_) (fun h => ?_)) (E_pre (k := (ltF n s).length - s) (by walk_at "E") (by walk_at "E") (by omega) (by omega)) (B_adds g1))
    (E_ife (d := .str (tx (pT (ltT n s).B))) (by walk_at "T") (fun h => ?_) (fun h => ?_)) (B_adds ?_)) ?_
  · rw [h]; exact E_eq (by walk_at "E") (congrArg PyData.str ofs_mi)
  · rw [h]; exact E_eq (by walk_at "E") (congrArg PyData.str ofs_nil)
  · have h := of_decide_eq_true h
    refine E_eq (E_bin (by walk_at "E") (E_to (k := (ltF n s).length - s) (by walk_at "E") (by walk_at "E") (by omega) (by omega)) (B_adds (by rw [ofs_pt, tx_len, tx_len]; unfold sizeLine; simp; omega))) ?_
    rw [ofs_pt, tx_add]
    have : (ltT n s).B = some ((ltF n s).drop ((ltF n s).length - s)) := if_pos (by omega)
    rw [this]; rfl
  · have h := of_decide_eq_false h
    refine E_eq (by walk_at "E") ?_
    have : (ltT n s).B = none := if_neg (by omega)
    rw [this, ofs_nil]; rfl
  · have hok := (ltT_ok hn hs).len
    unfold NumT.text NumT.mant at hok
    simp only [List.length_append] at hok
    rw [tx_add, tx_len, tx_len]
    unfold sizeLine
    rw [List.length_append]
    have e1 : (ltT n s).neg = decide (n < 0) := rfl
    have e2 : (ltT n s).A = (ltF n s).take ((ltF n s).length - s) := rfl
    rw [e1, e2] at hok
    omega
  · rw [tx_add, tx_add]
    unfold NumT.text NumT.mant
    have e3 : eT (ltT n s).E = [] := rfl
    rw [e3, List.append_nil]
    rfl
end Mine
end

-- WdF
section
namespace Mine
open PySem.Builtin (bitAnd bitXor)
open PySem.Builtin.Int (intBits)
local macro_rules | `(tactic| walk_at "mem") => `(tactic| with_reducible (first | exact List.mem_cons_self | (refine List.mem_cons_of_mem _ ?_; walk_at "mem")))
local macro_rules | `(tactic| walk_at "upd") => `(tactic| with_reducible (first | exact Upd.head | (apply Upd.tail; walk_at "upd")))
local macro_rules | `(tactic| walk_at "upds") => `(tactic| first | exact Upds.nil | exact Upds.cons (by walk_at "upd") (by walk_at "upds"))
local macro_rules | `(tactic| walk_at "names") => `(tactic| first | exact Names.nil | exact Names.cons (by walk_at "names"))
local macro_rules | `(tactic| walk_at "side") => `(tactic| first | assumption | decide | omega)
local macro_rules | `(tactic| walk_at "B") => `(tactic| with_reducible first
  | exact B_add | exact B_sub | (show BinV .Mult _ _ _; exact B_mul (by walk_at "side")) | (show BinV .FloorDiv _ _ _; exact B_fdiv (by walk_at "side") (by walk_at "side")) | (show BinV .Mod _ _ _; exact B_mod (by walk_at "side"))
  | (show BinV .LShift _ _ _; exact B_shl (by walk_at "side") (by walk_at "side")) | (show BinV .RShift _ _ _; exact B_shr (by walk_at "side")) | (show BinV .Pow _ _ _; exact B_pow (by walk_at "side") (by walk_at "side"))
  | exact B_and | exact B_xor | (show BinV .Add (.str _) _ _; exact B_adds (by walk_at "side")))
local macro_rules | `(tactic| walk_at "I") => `(tactic| with_reducible first
  | exact I_add | exact I_sub | (show IBinV .LShift _ _ _; exact I_shl (by walk_at "side") (by walk_at "side")) | (show IBinV .RShift _ _ _; exact I_shr (by walk_at "side")) | exact I_xor | (show IBinV .Add (.str _) _ _; exact I_adds (by walk_at "side")))
local macro_rules | `(tactic| walk_at "C") => `(tactic| with_reducible first
  | exact C_eq | exact C_ne | exact C_lt | exact C_le | exact C_gt | exact C_ge | exact C_eqs | exact C_nes
  | (show CmpV .Eq (.tuple _) (.tuple _) _; exact C_eqd (by with_unfolding_all rfl) (by with_unfolding_all rfl) (by with_unfolding_all exact Nat.le_of_ble_eq_true rfl))
  | (show CmpV .NotEq (.tuple _) (.tuple _) _; exact C_ned (by with_unfolding_all rfl) (by with_unfolding_all rfl) (by with_unfolding_all exact Nat.le_of_ble_eq_true rfl)))
local macro_rules | `(tactic| walk_at "U") => `(tactic| with_reducible first | exact U_neg | (show UnV .Not _ _; exact U_not (by walk_at "R")))
local macro_rules | `(tactic| walk_at "R") => `(tactic| with_reducible first | exact R_int | exact R_bool | (show TruV (.str _) _; exact R_str (by walk_at "side")))
local macro_rules | `(tactic| walk_at "G") => `(tactic| with_reducible first
  | exact gl_fzero | exact gl_zero | exact gl_one | exact gl_near | exact gl_floor | exact gl_ceil | exact gl_up | exact gl_down | exact gl_fnan | exact gl_finf | exact gl_fninf | exact gl_blog | exact gl_digits)
local macro_rules | `(tactic| walk_at "L") => `(tactic| with_reducible first | exact L_nil | (show EvL _ _ _ _ (_ :: _) _ _; exact L_cons (by walk_at "E") (by walk_at "L")))
local macro_rules | `(tactic| walk_at "M0") => `(tactic| with_reducible first | exact M_bitlen | (show Meth0 _ (.str _) _; first | exact M_strip (by walk_at "side") | exact M_lower (by walk_at "side")))
local macro_rules | `(tactic| walk_at "K") => `(tactic| with_reducible first | assumption | exact K_int | exact K_abs | exact K_max | exact K_min | (show CallV (.builtin "len") _ _; exact K_len (by walk_at "side")) | (show CallV (.builtin "divmod") _ _; exact K_divmod (by walk_at "side") (by walk_at "side")))
local macro_rules | `(tactic| walk_at "Ebi") => `(tactic| with_reducible first
  | (show EvE _ _ _ _ (.Call (.Name (Str.ofString "int") _) _ _ _) _ _; exact E_bi bi_int (by walk_at "mem") rfl (by walk_at "L") (by walk_at "K"))
  | (show EvE _ _ _ _ (.Call (.Name (Str.ofString "len") _) _ _ _) _ _; exact E_bi bi_len (by walk_at "mem") rfl (by walk_at "L") (by walk_at "K"))
  | (show EvE _ _ _ _ (.Call (.Name (Str.ofString "abs") _) _ _ _) _ _; exact E_bi bi_abs (by walk_at "mem") rfl (by walk_at "L") (by walk_at "K"))
  | (show EvE _ _ _ _ (.Call (.Name (Str.ofString "max") _) _ _ _) _ _; exact E_bi bi_max (by walk_at "mem") rfl (by walk_at "L") (by walk_at "K"))
  | (show EvE _ _ _ _ (.Call (.Name (Str.ofString "min") _) _ _ _) _ _; exact E_bi bi_min (by walk_at "mem") rfl (by walk_at "L") (by walk_at "K"))
  | (show EvE _ _ _ _ (.Call (.Name (Str.ofString "divmod") _) _ _ _) _ _; exact E_bi bi_divmod (by walk_at "mem") rfl (by walk_at "L") (by walk_at "K"))
  | (show EvE _ _ _ _ (.Call (.Name (Str.ofString "str") _) _ _ _) _ _; exact E_bi bi_str (by walk_at "mem") rfl (by walk_at "L") (by walk_at "K"))
  | (show EvE _ _ _ _ (.Call (.Name (Str.ofString "pow") _) _ _ _) _ _; exact E_bi bi_pow (by walk_at "mem") rfl (by walk_at "L") (by walk_at "K"))
  | (show EvE _ _ _ _ (.Call (.Name (Str.ofString "isinstance") _) _ _ _) _ _; exact E_isint (by walk_at "mem") (by walk_at "mem") (by walk_at "E")))
local macro_rules | `(tactic| walk_at "E") => `(tactic| with_reducible first
  | assumption
  | (show EvE _ _ _ _ (.Name _ _) _ _; first | exact E_name (by walk_at "mem") | exact E_gl (by walk_at "mem") (by walk_at "G"))
  | exact E_int
  | (show EvE _ _ _ _ (.BinOp _ _ _ _) _ _; exact E_bin (by walk_at "E") (by walk_at "E") (by walk_at "B"))
  | exact E_str | exact E_bool | exact E_none
  | (show EvE _ _ _ _ (.UnaryOp _ _ _) _ _; exact E_un (by walk_at "E") (by walk_at "U"))
  | (show EvE _ _ _ _ (.Tuple _ _ _) _ _; exact E_tup (by walk_at "L"))
  | (show EvE _ _ _ _ (.Call (.Name _ _) _ _ _) _ _; first | walk_at "Ebi" | exact E_call (by walk_at "mem") (by walk_at "L") (by assumption))
  | (show EvE _ _ _ _ (.BoolOp .Or [_, _] _) _ _; exact E_orp (by walk_at "E") (by walk_at "side"))
  | (show EvE _ _ _ _ (.Call (.Attribute _ _ _) [] [] _) _ _; exact E_meth0 (by walk_at "E") (by walk_at "M0"))
  | (show EvE _ _ _ _ (.Compare _ [_] [_] _) _ _; exact E_cmp (by walk_at "E") (by walk_at "E") (by walk_at "C")))
local macro_rules | `(tactic| walk_at "T") => `(tactic| with_reducible first
  | assumption
  | (show EvT _ _ _ _ (.UnaryOp .Not _ _) _ _; exact T_not (by walk_at "T")) | (show EvT _ _ _ _ (.Compare _ [_] [_] _) _ _; exact T_cmp (by walk_at "E") (by walk_at "E") (by walk_at "C"))
  | (show EvT _ _ _ _ (.Compare _ [_, _] [_, _] _) _ _; exact T_chain (by walk_at "E") (by walk_at "E") (by walk_at "C") (fun _ => by walk_at "E") (fun _ => by walk_at "C"))
  | (show EvT _ _ _ _ (.BoolOp _ _ _) _ _; exact T_bool (by walk_at "A")) | exact T_val (by walk_at "E") (by walk_at "R"))
local macro_rules | `(tactic| walk_at "A") => `(tactic| with_reducible first
  | exact A_and0 | exact A_or0 | (show EvA _ _ _ _ .And _ _ _; exact A_and (by walk_at "T") (fun _ => by walk_at "A")) | exact A_or (by walk_at "T") (fun _ => by walk_at "A"))
local macro_rules | `(tactic| walk_at "S1") => `(tactic| with_reducible first
  | refine S_pop ?_
  | (show Exs _ _ _ _ ((.Assign [.Name _ _] _ _ :: _) :: _) _; refine S_assign (by walk_at "E") (by walk_at "upd") ?_)
  | (show Exs _ _ _ _ ((.AugAssign _ _ _ _ :: _) :: _) _; refine S_aug (by walk_at "mem") (by walk_at "E") (by walk_at "I") (by walk_at "upd") ?_)
  | (show Exs _ _ _ _ ((.Assign [.Tuple _ _ _] _ _ :: _) :: _) _; refine S_unpack (by walk_at "E") (by walk_at "names") (by walk_at "upds") ?_))
local macro_rules | `(tactic| walk_at "S") => `(tactic| repeat walk_at "S1")
local macro_rules | `(tactic| walk_at "ret") => `(tactic| (with_reducible show Exs _ _ _ _ ((.Return _ _ :: _) :: _) _; with_reducible apply S_ret'; walk_at "E"))
local macro_rules | `(tactic| walk_at "weak") => `(tactic| with_reducible first | exact Weak.nil | (apply Weak.skip; walk_at "weak") | (apply Weak.same; walk_at "weak") | (apply Weak.keep; rotate_left; walk_at "weak"))
local macro_rules | `(tactic| walk_at "end") => `(tactic| ((repeat (with_reducible refine S_pop ?_)); with_reducible apply S_end'; walk_at "weak"))
local macro_rules | `(tactic| walk_at "weak") => `(tactic| with_reducible first | exact Weak.nil | (apply Weak.skip; walk_at "weak") | (apply Weak.same; walk_at "weak") | (apply Weak.keep; rotate_left; walk_at "weak"))
local macro_rules | `(tactic| walk_at "end") => `(tactic| ((repeat (with_reducible refine S_pop ?_)); with_reducible apply S_end'; walk_at "weak"))
local macro_rules | `(tactic| walk_at "M1") => `(tactic| with_reducible first | assumption)
local macro_rules | `(tactic| walk_at "M0") => `(tactic| with_reducible first | assumption)
local macro_rules | `(tactic| walk_at "C") => `(tactic| with_reducible first | assumption)
local macro_rules | `(tactic| walk_at "E") => `(tactic| with_reducible first
  | (show EvE _ _ _ _ (.Call (.Attribute _ _ _) [.Constant _ _ _, .Constant _ _ _] [] _) _ _; exact E_replace' (by walk_at "E") (by assumption) (by decide +kernel) (by walk_at "side"))
  | (show EvE _ _ _ _ (.Call (.Attribute _ _ _) [_] [] _) _ _; exact E_meth1 (by walk_at "E") (by walk_at "E") (by walk_at "M1"))
  | (show EvE _ _ _ _ (.NamedExpr (.Name _ _) _ _) _ _; exact E_named (by walk_at "E") (by walk_at "upd"))
  | (show EvE _ _ _ _ (.Subscript _ (.Constant (.int _) _ _) _) _ _; exact E_listitem (by walk_at "E") (by walk_at "E") (by decide) (by decide) (by with_unfolding_all exact rfl)))
local macro_rules | `(tactic| walk_at "S1") => `(tactic| with_reducible first
  | (show Exs _ _ _ _ ((.Assign [.Tuple [.Name _ _, .Name _ _] _ _] (.Tuple [_, _] _ _) _ :: _) :: _) _; refine S_swap2 (by walk_at "L") (by walk_at "upd") (by walk_at "upd") ?_)
  | (show Exs _ _ _ _ ((.Assign [.Tuple [.Name _ _, .Name _ _, .Name _ _] _ _] (.Tuple [_, _, _] _ _) _ :: _) :: _) _; refine S_swap3 (by walk_at "L") (by walk_at "upd") (by walk_at "upd") (by walk_at "upd") ?_)
  | (show Exs _ _ _ _ ((.Assign [.Tuple _ _ _] _ _ :: _) :: _) _; refine S_unpackL (by walk_at "E") (by walk_at "names") (by walk_at "upds") ?_))
local macro_rules | `(tactic| walk_at "B") => `(tactic| with_reducible first | assumption)
theorem ok_no43 {t : NumT} (h : t.Ok) : t.text.getLast? ≠ some 43 := by
  obtain ⟨c, h1, h2⟩ := h.last
  rw [h1]; intro h; cases h; omega
def brI (X Y : List Nat) : List Nat := 91 :: (X ++ 44 :: 32 :: (Y ++ [93]))
theorem brI_del {X Y : List Nat} (hX : okt X) (hY : okt Y) : del 32 (brI X Y) = 91 :: (X ++ 44 :: (Y ++ [93])) := by
  unfold brI
  rw [show (91 :: (X ++ 44 :: 32 :: (Y ++ [93]))) = [91] ++ (X ++ ([44, 32] ++ (Y ++ [93]))) by simp]
  rw [del_app, del_app, del_app, del_app, del_none (hX.free (by decide)), del_none (hY.free (by decide))]
  rfl
theorem sp_mstr {w : World} {z1 e1 z2 e2 : Int} {p : Nat} {t1 t2 : NumT} (h1 : 1 ≤ p) (h2 : p ≤ 60) (ok1 : t1.Ok) (ok2 : t2.Ok) (F1 : FnSpec w 4 "to_str" [pvM z1 e1, .int (Dp p)] (.str (tx t1.text))) (F2 : FnSpec w 4 "to_str" [pvM z2 e2, .int (Dp p)] (.str (tx t2.text))) :
    FnSpec w 5 "mpi_str" [pvI (pvM z1 e1) (pvM z2 e2), .int p] (.str (tx (brI t1.text t2.text))) := by
  obtain ⟨d, hd, F3⟩ := sp_dps (w := w) (n := (p : Int)) (by omega) (by omega)
  have hdd : d + 5 = (Dp p : Int) := by
    have := (pf h1 h2).d
    unfold dpsZ at this
    rw [← hd] at this; exact this
  have l1 := ok1.len
  have l2 := ok2.len
  refine fn_intro (Γ := ["prec_to_dps", "to_str"]) 262 (by kernel_rfl) (by rfl) (by kernel_rfl) ["s", "prec"] ["sa", "sb", "dps"] [pvI (pvM z1 e1) (pvM z2 e2), .int p] (by decide +kernel) rfl ?_ ?_
  · intro s vs ks H ra rk
    refine bindN ra rk fun vs hv => ?_
    match vs, hv with
    | [a, b], _ => exact BindsTo.of_eq (by rfl)
  intro ρ hρ; simp only [envZip_cons, envZip_nil, envZip_nil'] at hρ; subst hρ
  walk_at "S"
  refine S_weak (ρ' := [("s", none), ("prec", none), ("sa", some (pvM z1 e1)), ("sb", some (pvM z2 e2)), ("dps", some (.int (Dp p)))]) (by walk_at "weak"; rw [hdd]) ?_
  refine S_ret' (E_two (by walk_at "E") (by walk_at "E") (by rw [tx_len]; omega) (by rw [tx_len]; omega)) ?_
  rw [show Str.ofString "[" = tx [91] by decide +kernel, show Str.ofString ", " = tx [44, 32] by decide +kernel, show Str.ofString "]" = tx [93] by decide +kernel, tx_add, tx_add, tx_add, tx_add]
  unfold brI
  simp
theorem sp_back {w : World} {t1 t2 : NumT} {q : Nat} (hq : 1 ≤ q) (hq2 : q ≤ 8000) (ok1 : t1.Ok) (ok2 : t2.Ok) :
    FnSpec w 11 "mpi_from_str" [.str (tx (brI t1.text t2.text)), .int q] (pvI (pvX q false t1.val) (pvX q true t2.val)) := by
  have l1 := ok1.len
  have l2 := ok2.len
  refine sp_mfs_br (brI_del ok1.okt ok2.okt) (by unfold brI; simp; omega) ok1.okt ok2.okt ok1.pmf ok2.pmf (ok_no43 ok1) (ok_no43 ok2) (by simp; omega) (sp_fromstr ok1 hq hq2 false) (sp_fromstr ok2 hq hq2 true)

/-! ends -/
structure Sml (z e : Int) : Prop where
  b : intBits z ≤ 1000
  x : -1000 ≤ e ∧ e ≤ 1000
theorem Sml.sm {z e : Int} (h : Sml z e) : Sm z e := ⟨by have := h.b; omega, by have := h.x; omega⟩
theorem Sz.sml {q : Nat} {a b z e : Int} (h : Sz q a b z e) (hq : q ≤ 200) (ha : -500 ≤ a) (hb : b ≤ 500) : Sml z e := by
  refine ⟨by have := h.bits; omega, ?_⟩
  by_cases hz : z = 0
  · have := can_exp h.can hz; omega
  · have := h.lo hz; have := h.hi hz; omega
theorem val_abs' (z e : Int) : val z.natAbs e = if 0 ≤ val z e then val z e else -val z e := by
  by_cases h : 0 ≤ z
  · rw [if_pos (val_nonneg.mpr h)]; congr 1; omega
  · rw [if_neg (by rw [val_nonneg]; exact h), ← val_neg]; congr 1; omega
theorem end_mag {w : World} {p : Nat} {z e : Int} {t : NumT} (E : End w p z e t) (hlo : z ≠ 0 → -12 ≤ (intBits z : Int) + e - 1) (hhi : z ≠ 0 → (intBits z : Int) + e ≤ 40) : Mag (-13) 41 t.val := by
  by_cases hz : z = 0
  · exact .zero (E.zero hz)
  have h1 := val_abs_ge (e := e) hz
  have h2 := val_abs_lt (z := z) (e := e) (Nat.le_refl _)
  have h3 : (2 : Rat) ^ (-12 : Int) ≤ val z.natAbs e := Rat.le_trans (p2_le (by have := hlo hz; omega)) h1
  have h4 : val z.natAbs e ≤ (2 : Rat) ^ (40 : Int) := Rat.le_trans (Rat.le_of_lt h2) (p2_le (by have := hhi hz; omega))
  have e1 : (2 : Rat) ^ (-12 : Int) = 2 * (2 : Rat) ^ (-13 : Int) := by decide +kernel
  have e2 : (2 : Rat) ^ (41 : Int) = 2 * (2 : Rat) ^ (40 : Int) := by decide +kernel
  have n := E.nb 0 ⟨0, 0, by simp, (val_zero 0).symm⟩
  have e0 := p2_pos (-13)
  rw [e1] at h3
  rw [val_abs'] at h3 h4
  by_cases hp : 0 ≤ val z e
  · rw [if_pos hp] at h3 h4
    have hv : 0 < val z e := by grind
    have := n.1 hv
    refine .pos (by grind) (by rw [e2]; grind)
  · rw [if_neg hp] at h3 h4
    have hv : val z e < 0 := Rat.not_le.mp hp
    have := n.2 hv
    refine .neg (by grind) (by rw [e2]; grind)
structure Bk (p : Nat) (z e y f : Int) : Prop where
  s1 : Sml z e
  s2 : Sml y f
  g1 : val z e - val y f ≤ val z.natAbs (e + 1 - p)
  g2 : val y f - val z e ≤ val z.natAbs (e + 1 - p)
theorem abs_nonneg' (z e : Int) : 0 ≤ val z.natAbs e := val_nonneg.mpr (by omega)
theorem bk_of {w : World} {p : Nat} {z e y f : Int} {t : NumT} {c : Bool} (h1 : 1 ≤ p) (h2 : p ≤ 60) (hc : Can z e) (hb : intBits z ≤ p) (E : End w p z e t) (hlo : z ≠ 0 → -12 ≤ (intBits z : Int) + e - 1) (hhi : z ≠ 0 → (intBits z : Int) + e ≤ 40) (R : Rd p c t.val y f) : Bk p z e y f := by
  have sy := (R.sz h1 (end_mag E hlo hhi)).sml (by omega) (by omega) (by omega)
  by_cases hz : z = 0
  · have he := can_exp hc hz
    subst hz; subst he
    have hr := R.r
    rw [E.zero rfl] at hr
    obtain ⟨rfl, rfl⟩ := can_zero R.can (isR_zero hr)
    refine ⟨⟨by decide, by omega⟩, ⟨by decide, by omega⟩, ?_, ?_⟩
    · rw [val_zero]; show (0 : Rat) - 0 ≤ val 0 _; rw [val_zero]; decide +kernel
    · rw [val_zero]; show (0 : Rat) - 0 ≤ val 0 _; rw [val_zero]; decide +kernel
  · have sz : Sml z e := ⟨by omega, by have := hlo hz; have := hhi hz; have := bl_pos hz; omega⟩
    have h0 := abs_nonneg' z (e + 1 - p)
    cases c with
    | false =>
      have a := end_floor E.nb R.r
      have b := gap_floor h1 hz hb E.nb R.r
      exact ⟨sz, sy, b, by grind⟩
    | true =>
      have a := end_ceil E.nb R.r
      have b := gap_ceil h1 hz hb E.nb R.r
      exact ⟨sz, sy, by grind, b⟩
end Mine
end

-- WdG
section
namespace Mine
open PySem.Builtin (bitAnd bitXor)
open PySem.Builtin.Int (intBits)
local macro_rules | `(tactic| walk_at "mem") => `(tactic| with_reducible (first | exact List.mem_cons_self | (refine List.mem_cons_of_mem _ ?_; walk_at "mem")))
local macro_rules | `(tactic| walk_at "upd") => `(tactic| with_reducible (first | exact Upd.head | (apply Upd.tail; walk_at "upd")))
local macro_rules | `(tactic| walk_at "upds") => `(tactic| first | exact Upds.nil | exact Upds.cons (by walk_at "upd") (by walk_at "upds"))
local macro_rules | `(tactic| walk_at "names") => `(tactic| first | exact Names.nil | exact Names.cons (by walk_at "names"))
local macro_rules | `(tactic| walk_at "side") => `(tactic| first | assumption | decide | omega)
local macro_rules | `(tactic| walk_at "B") => `(tactic| with_reducible first
  | exact B_add | exact B_sub | (show BinV .Mult _ _ _; exact B_mul (by walk_at "side")) | (show BinV .FloorDiv _ _ _; exact B_fdiv (by walk_at "side") (by walk_at "side")) | (show BinV .Mod _ _ _; exact B_mod (by walk_at "side"))
  | (show BinV .LShift _ _ _; exact B_shl (by walk_at "side") (by walk_at "side")) | (show BinV .RShift _ _ _; exact B_shr (by walk_at "side")) | (show BinV .Pow _ _ _; exact B_pow (by walk_at "side") (by walk_at "side"))
  | exact B_and | exact B_xor | (show BinV .Add (.str _) _ _; exact B_adds (by walk_at "side")))
local macro_rules | `(tactic| walk_at "I") => `(tactic| with_reducible first
  | exact I_add | exact I_sub | (show IBinV .LShift _ _ _; exact I_shl (by walk_at "side") (by walk_at "side")) | (show IBinV .RShift _ _ _; exact I_shr (by walk_at "side")) | exact I_xor | (show IBinV .Add (.str _) _ _; exact I_adds (by walk_at "side")))
local macro_rules | `(tactic| walk_at "C") => `(tactic| with_reducible first
  | exact C_eq | exact C_ne | exact C_lt | exact C_le | exact C_gt | exact C_ge | exact C_eqs | exact C_nes
  | (show CmpV .Eq (.tuple _) (.tuple _) _; exact C_eqd (by with_unfolding_all rfl) (by with_unfolding_all rfl) (by with_unfolding_all exact Nat.le_of_ble_eq_true rfl))
  | (show CmpV .NotEq (.tuple _) (.tuple _) _; exact C_ned (by with_unfolding_all rfl) (by with_unfolding_all rfl) (by with_unfolding_all exact Nat.le_of_ble_eq_true rfl)))
local macro_rules | `(tactic| walk_at "U") => `(tactic| with_reducible first | exact U_neg | (show UnV .Not _ _; exact U_not (by walk_at "R")))
local macro_rules | `(tactic| walk_at "R") => `(tactic| with_reducible first | exact R_int | exact R_bool | (show TruV (.str _) _; exact R_str (by walk_at "side")))
local macro_rules | `(tactic| walk_at "G") => `(tactic| with_reducible first
  | exact gl_fzero | exact gl_zero | exact gl_one | exact gl_near | exact gl_floor | exact gl_ceil | exact gl_up | exact gl_down | exact gl_fnan | exact gl_finf | exact gl_fninf | exact gl_blog | exact gl_digits)
local macro_rules | `(tactic| walk_at "L") => `(tactic| with_reducible first | exact L_nil | (show EvL _ _ _ _ (_ :: _) _ _; exact L_cons (by walk_at "E") (by walk_at "L")))
local macro_rules | `(tactic| walk_at "M0") => `(tactic| with_reducible first | exact M_bitlen | (show Meth0 _ (.str _) _; first | exact M_strip (by walk_at "side") | exact M_lower (by walk_at "side")))
local macro_rules | `(tactic| walk_at "K") => `(tactic| with_reducible first | assumption | exact K_int | exact K_abs | exact K_max | exact K_min | (show CallV (.builtin "len") _ _; exact K_len (by walk_at "side")) | (show CallV (.builtin "divmod") _ _; exact K_divmod (by walk_at "side") (by walk_at "side")))
local macro_rules | `(tactic| walk_at "Ebi") => `(tactic| with_reducible first
  | (show EvE _ _ _ _ (.Call (.Name (Str.ofString "int") _) _ _ _) _ _; exact E_bi bi_int (by walk_at "mem") rfl (by walk_at "L") (by walk_at "K"))
  | (show EvE _ _ _ _ (.Call (.Name (Str.ofString "len") _) _ _ _) _ _; exact E_bi bi_len (by walk_at "mem") rfl (by walk_at "L") (by walk_at "K"))
  | (show EvE _ _ _ _ (.Call (.Name (Str.ofString "abs") _) _ _ _) _ _; exact E_bi bi_abs (by walk_at "mem") rfl (by walk_at "L") (by walk_at "K"))
  | (show EvE _ _ _ _ (.Call (.Name (Str.ofString "max") _) _ _ _) _ _; exact E_bi bi_max (by walk_at "mem") rfl (by walk_at "L") (by walk_at "K"))
  | (show EvE _ _ _ _ (.Call (.Name (Str.ofString "min") _) _ _ _) _ _; exact E_bi bi_min (by walk_at "mem") rfl (by walk_at "L") (by walk_at "K"))
  | (show EvE _ _ _ _ (.Call (.Name (Str.ofString "divmod") _) _ _ _) _ _; exact E_bi bi_divmod (by walk_at "mem") rfl (by walk_at "L") (by walk_at "K"))
  | (show EvE _ _ _ _ (.Call (.Name (Str.ofString "str") _) _ _ _) _ _; exact E_bi bi_str (by walk_at "mem") rfl (by walk_at "L") (by walk_at "K"))
  | (show EvE _ _ _ _ (.Call (.Name (Str.ofString "pow") _) _ _ _) _ _; exact E_bi bi_pow (by walk_at "mem") rfl (by walk_at "L") (by walk_at "K"))
  | (show EvE _ _ _ _ (.Call (.Name (Str.ofString "isinstance") _) _ _ _) _ _; exact E_isint (by walk_at "mem") (by walk_at "mem") (by walk_at "E")))
local macro_rules | `(tactic| walk_at "E") => `(tactic| with_reducible first
  | assumption
  | (show EvE _ _ _ _ (.Name _ _) _ _; first | exact E_name (by walk_at "mem") | exact E_gl (by walk_at "mem") (by walk_at "G"))
  | exact E_int
  | (show EvE _ _ _ _ (.BinOp _ _ _ _) _ _; exact E_bin (by walk_at "E") (by walk_at "E") (by walk_at "B"))
  | exact E_str | exact E_bool | exact E_none
  | (show EvE _ _ _ _ (.UnaryOp _ _ _) _ _; exact E_un (by walk_at "E") (by walk_at "U"))
  | (show EvE _ _ _ _ (.Tuple _ _ _) _ _; exact E_tup (by walk_at "L"))
  | (show EvE _ _ _ _ (.Call (.Name _ _) _ _ _) _ _; first | walk_at "Ebi" | exact E_call (by walk_at "mem") (by walk_at "L") (by assumption))
  | (show EvE _ _ _ _ (.BoolOp .Or [_, _] _) _ _; exact E_orp (by walk_at "E") (by walk_at "side"))
  | (show EvE _ _ _ _ (.Call (.Attribute _ _ _) [] [] _) _ _; exact E_meth0 (by walk_at "E") (by walk_at "M0"))
  | (show EvE _ _ _ _ (.Compare _ [_] [_] _) _ _; exact E_cmp (by walk_at "E") (by walk_at "E") (by walk_at "C")))
local macro_rules | `(tactic| walk_at "T") => `(tactic| with_reducible first
  | assumption
  | (show EvT _ _ _ _ (.UnaryOp .Not _ _) _ _; exact T_not (by walk_at "T")) | (show EvT _ _ _ _ (.Compare _ [_] [_] _) _ _; exact T_cmp (by walk_at "E") (by walk_at "E") (by walk_at "C"))
  | (show EvT _ _ _ _ (.Compare _ [_, _] [_, _] _) _ _; exact T_chain (by walk_at "E") (by walk_at "E") (by walk_at "C") (fun _ => by walk_at "E") (fun _ => by walk_at "C"))
  | (show EvT _ _ _ _ (.BoolOp _ _ _) _ _; exact T_bool (by walk_at "A")) | exact T_val (by walk_at "E") (by walk_at "R"))
local macro_rules | `(tactic| walk_at "A") => `(tactic| with_reducible first
  | exact A_and0 | exact A_or0 | (show EvA _ _ _ _ .And _ _ _; exact A_and (by walk_at "T") (fun _ => by walk_at "A")) | exact A_or (by walk_at "T") (fun _ => by walk_at "A"))
local macro_rules | `(tactic| walk_at "S1") => `(tactic| with_reducible first
  | refine S_pop ?_
  | (show Exs _ _ _ _ ((.Assign [.Name _ _] _ _ :: _) :: _) _; refine S_assign (by walk_at "E") (by walk_at "upd") ?_)
  | (show Exs _ _ _ _ ((.AugAssign _ _ _ _ :: _) :: _) _; refine S_aug (by walk_at "mem") (by walk_at "E") (by walk_at "I") (by walk_at "upd") ?_)
  | (show Exs _ _ _ _ ((.Assign [.Tuple _ _ _] _ _ :: _) :: _) _; refine S_unpack (by walk_at "E") (by walk_at "names") (by walk_at "upds") ?_))
local macro_rules | `(tactic| walk_at "S") => `(tactic| repeat walk_at "S1")
local macro_rules | `(tactic| walk_at "ret") => `(tactic| (with_reducible show Exs _ _ _ _ ((.Return _ _ :: _) :: _) _; with_reducible apply S_ret'; walk_at "E"))
local macro_rules | `(tactic| walk_at "weak") => `(tactic| with_reducible first | exact Weak.nil | (apply Weak.skip; walk_at "weak") | (apply Weak.same; walk_at "weak") | (apply Weak.keep; rotate_left; walk_at "weak"))
local macro_rules | `(tactic| walk_at "end") => `(tactic| ((repeat (with_reducible refine S_pop ?_)); with_reducible apply S_end'; walk_at "weak"))
local macro_rules | `(tactic| walk_at "weak") => `(tactic| with_reducible first | exact Weak.nil | (apply Weak.skip; walk_at "weak") | (apply Weak.same; walk_at "weak") | (apply Weak.keep; rotate_left; walk_at "weak"))
local macro_rules | `(tactic| walk_at "end") => `(tactic| ((repeat (with_reducible refine S_pop ?_)); with_reducible apply S_end'; walk_at "weak"))
local macro_rules | `(tactic| walk_at "M1") => `(tactic| with_reducible first | assumption)
local macro_rules | `(tactic| walk_at "M0") => `(tactic| with_reducible first | assumption)
local macro_rules | `(tactic| walk_at "C") => `(tactic| with_reducible first | assumption)
local macro_rules | `(tactic| walk_at "E") => `(tactic| with_reducible first
  | (show EvE _ _ _ _ (.Call (.Attribute _ _ _) [.Constant _ _ _, .Constant _ _ _] [] _) _ _; exact E_replace' (by walk_at "E") (by assumption) (by decide +kernel) (by walk_at "side"))
  | (show EvE _ _ _ _ (.Call (.Attribute _ _ _) [_] [] _) _ _; exact E_meth1 (by walk_at "E") (by walk_at "E") (by walk_at "M1"))
  | (show EvE _ _ _ _ (.NamedExpr (.Name _ _) _ _) _ _; exact E_named (by walk_at "E") (by walk_at "upd"))
  | (show EvE _ _ _ _ (.Subscript _ (.Constant (.int _) _ _) _) _ _; exact E_listitem (by walk_at "E") (by walk_at "E") (by decide) (by decide) (by with_unfolding_all exact rfl)))
local macro_rules | `(tactic| walk_at "S1") => `(tactic| with_reducible first
  | (show Exs _ _ _ _ ((.Assign [.Tuple [.Name _ _, .Name _ _] _ _] (.Tuple [_, _] _ _) _ :: _) :: _) _; refine S_swap2 (by walk_at "L") (by walk_at "upd") (by walk_at "upd") ?_)
  | (show Exs _ _ _ _ ((.Assign [.Tuple [.Name _ _, .Name _ _, .Name _ _] _ _] (.Tuple [_, _, _] _ _) _ :: _) :: _) _; refine S_swap3 (by walk_at "L") (by walk_at "upd") (by walk_at "upd") (by walk_at "upd") ?_)
  | (show Exs _ _ _ _ ((.Assign [.Tuple _ _ _] _ _ :: _) :: _) _; refine S_unpackL (by walk_at "E") (by walk_at "names") (by walk_at "upds") ?_))
local macro_rules | `(tactic| walk_at "B") => `(tactic| with_reducible first | assumption)
local macro_rules | `(tactic| walk_at "E") => `(tactic| with_reducible (show EvE _ _ _ _ (.Subscript (.Name _ _) (.Constant (.int 0) _ _) _) _ _; refine E_tupitem (j := 0) (by walk_at "E") (by walk_at "E") (by decide) (by decide) (by with_unfolding_all rfl) (by with_unfolding_all rfl)))
local macro_rules | `(tactic| walk_at "E") => `(tactic| with_reducible (show EvE _ _ _ _ (.Subscript (.Name _ _) (.Constant (.int 1) _ _) _) _ _; refine E_tupitem (j := 1) (by walk_at "E") (by walk_at "E") (by decide) (by decide) (by with_unfolding_all rfl) (by with_unfolding_all rfl)))
local macro_rules | `(tactic| walk_at "E") => `(tactic| with_reducible (show EvE _ _ _ _ (.Subscript (.Name _ _) (.Constant (.int 2) _ _) _) _ _; refine E_tupitem (j := 2) (by walk_at "E") (by walk_at "E") (by decide) (by decide) (by with_unfolding_all rfl) (by with_unfolding_all rfl)))
theorem absif (i : Int) : (if i < 0 then -i else i) = ((i.natAbs : Nat) : Int) := by split <;> omega
theorem bits_sum {a b : Int} {m n : Nat} (ha : intBits a ≤ 1000) (hb : intBits b ≤ 1000) (hm : m ≤ 3000) (hn : n ≤ 3000) : intBits (a * 2 ^ m + b * 2 ^ n) ≤ 4001 := by
  refine bits_of ?_
  have h1 : (a * 2 ^ m).natAbs < 2 ^ 4000 := by
    rw [Int.natAbs_mul, Int.natAbs_pow]
    refine Nat.lt_of_lt_of_le (Nat.mul_lt_mul_of_pos_right (bl_le.mp ha) (Nat.two_pow_pos m)) ?_
    rw [show Int.natAbs 2 = 2 from rfl, ← Nat.pow_add]; exact Nat.pow_le_pow_right (by decide) (by omega)
  have h2 : (b * 2 ^ n).natAbs < 2 ^ 4000 := by
    rw [Int.natAbs_mul, Int.natAbs_pow]
    refine Nat.lt_of_lt_of_le (Nat.mul_lt_mul_of_pos_right (bl_le.mp hb) (Nat.two_pow_pos n)) ?_
    rw [show Int.natAbs 2 = 2 from rfl, ← Nat.pow_add]; exact Nat.pow_le_pow_right (by decide) (by omega)
  have h3 : (2 : Nat) ^ 4001 = 2 ^ 4000 + 2 ^ 4000 := by rw [Nat.pow_succ]; omega
  rw [h3]
  generalize (2 : Nat) ^ 4000 = T at *
  omega
abbrev bkEnv (S P X T : PV) (k x y g : Option PV) : PEnv := [("s", some S), ("prec", some P), ("text", some X), ("told", some T), ("k", k), ("x", x), ("y", y), ("gap", g)]
set_option maxHeartbeats 4000000 in
theorem sp_backright {w : World} {z1 e1 z2 e2 : Int} {p : Nat} {t1 t2 : NumT} (h1 : 1 ≤ p) (h2 : p ≤ 60) (c1 : Can z1 e1) (c2 : Can z2 e2) (b1 : intBits z1 ≤ p) (b2 : intBits z2 ≤ p)
    (lo1 : z1 ≠ 0 → -12 ≤ (intBits z1 : Int) + e1 - 1) (hi1 : z1 ≠ 0 → (intBits z1 : Int) + e1 ≤ 40) (lo2 : z2 ≠ 0 → -12 ≤ (intBits z2 : Int) + e2 - 1) (hi2 : z2 ≠ 0 → (intBits z2 : Int) + e2 ≤ 40)
    (E1 : End w p z1 e1 t1) (E2 : End w p z2 e2 t2) (ht : t1.val ≤ t2.val) (hle : val z1 e1 ≤ val z2 e2) :
    FnSpec w 12 "_law_back_right" [pvI (pvM z1 e1) (pvM z2 e2), .int p] (.bool true) := by
  obtain ⟨y1, f1, R1⟩ := rd_ex h1 false t1.val
  obtain ⟨y2, f2, R2⟩ := rd_ex h1 true t2.val
  obtain ⟨y3, f3, R3⟩ := rd_ex (q := p + 7) (by omega) false t1.val
  obtain ⟨y4, f4, R4⟩ := rd_ex (q := p + 7) (by omega) true t2.val
  have k1 := bk_of h1 h2 c1 b1 E1 lo1 hi1 R1
  have k2 := bk_of h1 h2 c2 b2 E2 lo2 hi2 R2
  have m1 := end_mag E1 lo1 hi1
  have m2 := end_mag E2 lo2 hi2
  have s3 := (R3.sz (by omega) m1).sml (by omega) (by omega) (by omega)
  have s4 := (R4.sz (by omega) m2).sml (by omega) (by omega) (by omega)
  have FM := sp_mstr h1 h2 E1.ok E2.ok E1.F E2.F
  have FB := sp_back (w := w) (q := p) h1 (by omega) E1.ok E2.ok
  rw [R1.pv, R2.pv] at FB
  have FB7 := sp_back (w := w) (q := p + 7) (by omega) (by omega) E1.ok E2.ok
  rw [R3.pv, R4.pv, show ((p + 7 : Nat) : Int) = (p : Int) + 7 by omega] at FB7
  have W1 := sp_within (w := w) k1.s1.sm k2.s1.sm k1.s2.sm k2.s2.sm (end_floor E1.nb R1.r) (end_ceil E2.nb R2.r) hle
  have q1 : val y1 f1 ≤ val y3 f3 := fl_mono' (c := false) (by omega) R1.r R3.r
  have q2 : val y4 f4 ≤ val y2 f2 := fl_mono' (c := true) (by omega) R2.r R4.r
  have q3 : val y3 f3 ≤ val y4 f4 := by
    have a := R3.r.2; have b := R4.r.2
    dsimp only at a b
    exact Rat.le_trans a.1 (Rat.le_trans ht b.1)
  have W2 := sp_within (w := w) s3.sm s4.sm k1.s2.sm k2.s2.sm q1 q2 q3
  generalize hI : brI t1.text t2.text = I at FM FB FB7
  refine fn_intro (Γ := ["mpi_str", "mpi_from_str", "_law_within", "range", "_law_value", "_law_sum", "_law_less", "abs"]) 396 (by kernel_rfl) (by rfl) (by kernel_rfl) ["s", "prec"] ["text", "told", "k", "x", "y", "gap"] [pvI (pvM z1 e1) (pvM z2 e2), .int p] (by decide +kernel) rfl ?_ ?_
  · intro s vs ks H ra rk
    refine bindN ra rk fun vs hv => ?_
    match vs, hv with
    | [a, b], _ => exact BindsTo.of_eq (by rfl)
  intro ρ hρ; simp only [envZip_cons, envZip_nil, envZip_nil'] at hρ; subst hρ
  walk_at "S"
  refine S_if (T_eq (b₂ := false) (T_bool (A_or (T_not (T_val (E_call (by walk_at "mem") (by walk_at "L") W1) R_bool)) (fun _ => A_or (T_not (T_val (E_call (by walk_at "mem") (by walk_at "L") W2) R_bool)) (fun _ => A_or0)))) rfl) (fun h => by cases h) (fun _ => ?_)
  walk_at "S"
  refine S_forP (P := fun ds ρ => (∃ ok ox oy og, ρ = bkEnv (pvI (pvM z1 e1) (pvM z2 e2)) (.int p) (.str (tx I)) (pvI (pvM y1 f1) (pvM y2 f2)) ok ox oy og) ∧ ∀ d ∈ ds, ∃ k : Nat, k < 2 ∧ d = .int (k : Nat))
    (I_range1 (by walk_at "mem") (L_cons (by walk_at "E") L_nil) (by decide) (by decide)) ⟨⟨_, _, _, _, rfl⟩, ?_⟩ ?_ ?_
  · intro d hm
    obtain ⟨k, hk, rfl⟩ := List.mem_map.mp hm
    rw [List.mem_range] at hk
    exact ⟨k, by simpa using hk, by congr 1; omega⟩
  · rintro d ds ρ ⟨⟨ok, ox, oy, og, rfl⟩, hm⟩
    obtain ⟨k, hk, rfl⟩ := hm d (by simp)
    obtain ⟨z, e, y, f, d1, d2, B⟩ : ∃ z e y f, ([pvM z1 e1, pvM z2 e2] : List PV)[k]? = some (pvM z e) ∧ ([pvM y1 f1, pvM y2 f2] : List PV)[k]? = some (pvM y f) ∧ Bk p z e y f := by
      match k, hk with
      | 0, _ => exact ⟨_, _, _, _, rfl, rfl, k1⟩
      | 1, _ => exact ⟨_, _, _, _, rfl, rfl, k2⟩
    have hj : seqIndex? (k : Int) 2 = some k := by
      match k, hk with
      | 0, _ => rfl
      | 1, _ => rfl
    have V1 := sp_val (w := w) (z := z) (e := e)
    have V2 := sp_val (w := w) (z := y) (e := f)
    have sb1 := B.s1.b; have sx1 := B.s1.x; have sb2 := B.s2.b; have sx2 := B.s2.x
    obtain ⟨g, h, FS, vg, hh, hg⟩ := sp_sum (w := w) (z1 := z) (e1 := e) (z2 := -y) (e2 := f) (by omega) (by rw [bl_neg]; omega) (by omega) (by omega)
    have sg : Sm g.natAbs h := ⟨by rw [bl_abs, hg]; have := bits_sum (a := z) (b := -y) (m := (e - min e f).toNat) (n := (f - min e f).toNat) sb1 (by rw [bl_neg]; exact sb2) (by omega) (by omega); omega, by omega⟩
    have FL := less_no (w := w) (z1 := z.natAbs) (e1 := e + 1 - p) (z2 := g.natAbs) (e2 := h) ⟨by rw [bl_abs]; omega, by omega⟩ sg (by
      rw [val_abs' g h, vg, val_neg]
      have := B.g1; have := B.g2
      split <;> grind)
    refine ⟨bkEnv (pvI (pvM z1 e1) (pvM z2 e2)) (.int p) (.str (tx I)) (pvI (pvM y1 f1) (pvM y2 f2)) (some (.int (k : Nat))) ox oy og, by walk_at "upd", .inl ⟨bkEnv (pvI (pvM z1 e1) (pvM z2 e2)) (.int p) (.str (tx I)) (pvI (pvM y1 f1) (pvM y2 f2)) (some (.int (k : Nat))) (some (pv2 z e)) (some (pv2 y f)) (some (pv2 g h)), ⟨⟨_, _, _, _, rfl⟩, fun d hd => hm d (by simp [hd])⟩, ?_⟩⟩
    refine S_swap2 (L_cons (E_call (by walk_at "mem") (L_cons (E_tupitem (by walk_at "E") (by walk_at "E") (by omega) (by omega) hj d1) L_nil) V1) (L_cons (E_call (by walk_at "mem") (L_cons (E_tupitem (by walk_at "E") (by walk_at "E") (by omega) (by omega) hj d2) L_nil) V2) L_nil)) (by walk_at "upd") (by walk_at "upd") ?_
    walk_at "S"
    refine S_if (T_val (E_call (by walk_at "mem") (L_cons (E_tup (L_cons (E_eq (by walk_at "E") (congrArg PyData.int (absif z))) (L_cons (by walk_at "E") L_nil))) (L_cons (E_tup (L_cons (E_eq (by walk_at "E") (congrArg PyData.int (absif g))) (L_cons (by walk_at "E") L_nil))) L_nil)) FL) R_bool) (fun h => by cases h) (fun _ => ?_)
    walk_at "end"
  · rintro ρ ⟨⟨ok, ox, oy, og, rfl⟩, _⟩
    walk_at "ret"
    rfl
end Mine
end

-- MbE
section
namespace Mine
open PySem.Builtin.Int (intBits)

theorem twice_pv {p q : Nat} {c : Bool} {v : Rat} {z e : Int} (hp : 1 ≤ p) (hpq : p ≤ q) (h : IsR q c v (val z e)) : pvX p c (val z e) = pvX p c v := by
  obtain ⟨y, f, hc, r, hd⟩ := pvX_ex hp c (val z e)
  rw [hd, pvX_eq hc (h.twice hpq r)]
theorem Rd.neg {p : Nat} {c : Bool} {v : Rat} {z e : Int} (h : Rd p c v z e) : Rd p (!c) (-v) (-z) e := ⟨can_neg h.can, by rw [val_neg]; exact h.r.neg⟩
theorem Rd.le {p : Nat} {v : Rat} {z e : Int} (h : Rd p false v z e) : val z e ≤ v := h.r.2.1
theorem Rd.ge {p : Nat} {v : Rat} {z e : Int} (h : Rd p true v z e) : v ≤ val z e := h.r.2.1
/-- a multiple of a small step, of no great size -/
structure DyB (x : Rat) : Prop where
  k : ∃ k : Int, x = val k (-300)
  hi : x ≤ (2 : Rat) ^ (150 : Int)
  lo : -x ≤ (2 : Rat) ^ (150 : Int)
theorem Sz.dy {q : Nat} {a b z e : Int} (h : Sz q a b z e) (ha : -300 ≤ a - q) (hb : b ≤ 149) : DyB (val z e) := by
  by_cases hz : z = 0
  · subst hz
    rw [val_zero]
    have h0 := p2_pos 150
    exact ⟨⟨0, (val_zero _).symm⟩, Rat.le_of_lt h0, by grind⟩
  · have h1 := h.lo hz
    have h2 := h.hi hz
    have h3 := val_abs_lt (z := z) (e := e) (Nat.le_refl _)
    have h4 : (2 : Rat) ^ ((intBits z : Int) + e) ≤ (2 : Rat) ^ (150 : Int) := p2_le (by omega)
    obtain ⟨h5, h6⟩ := val_abs_le z e
    exact ⟨⟨_, val_at z e (show (-300 : Int) ≤ e by omega)⟩, by grind, by grind⟩
theorem DyB.neg {x : Rat} (h : DyB x) : DyB (-x) := by
  obtain ⟨⟨k, hk⟩, h1, h2⟩ := h
  exact ⟨⟨-k, by rw [val_neg, hk]⟩, h2, by grind⟩
theorem DyB.mag {x y : Rat} (h : DyB x) (h' : DyB y) : Mag (-300) 151 (x + y) := by
  obtain ⟨⟨k, hk⟩, h1, h2⟩ := h
  obtain ⟨⟨j, hj⟩, h3, h4⟩ := h'
  have e1 : (2 : Rat) ^ (151 : Int) = 2 * (2 : Rat) ^ (150 : Int) := by decide +kernel
  have e2 : x + y = val (k + j) (-300) := by rw [hk, hj, val_add]
  by_cases h0 : k + j = 0
  · exact .zero (by rw [e2, h0, val_zero])
  by_cases hp : 0 < k + j
  · refine .pos ?_ (by rw [e1]; grind)
    rw [e2, ← val_one]; exact val_le.mpr (by omega)
  · refine .neg ?_ (by rw [e1]; grind)
    rw [e2, ← val_neg, ← val_one]; exact val_le.mpr (by omega)
theorem ten_facts : ∀ s : Nat, s < 17 → (10 : Rat) ^ (-(s : Int)) ≤ 1 ∧ 0 < (10 : Rat) ^ (-(s : Int)) ∧ (2 : Rat) ^ (-54 : Int) ≤ (10 : Rat) ^ (-(s : Int)) ∧ (s ≤ 8 → (2 : Rat) ^ (-27 : Int) ≤ (10 : Rat) ^ (-(s : Int))) ∧ (s ≤ 3 → (2 : Rat) ^ (-10 : Int) ≤ (10 : Rat) ^ (-(s : Int))) := by decide +kernel
theorem mag_dec {n : Int} {s B : Nat} {a : Int} (hs : s ≤ 16) (hn : n.natAbs ≤ 2 ^ B) (ha : (2 : Rat) ^ a ≤ (10 : Rat) ^ (-(s : Int))) : Mag a B ((n : Rat) * (10 : Rat) ^ (-(s : Int))) := by
  obtain ⟨t1, t2, _⟩ := ten_facts s (by omega)
  generalize (10 : Rat) ^ (-(s : Int)) = T at *
  have e1 : (2 : Rat) ^ (B : Int) = ((2 ^ B : Int) : Rat) := p2_nat B
  have key : ∀ m : Int, 0 < m → m ≤ 2 ^ B → (2 : Rat) ^ a ≤ (m : Rat) * T ∧ (m : Rat) * T ≤ (2 : Rat) ^ (B : Int) := fun m h0 h1 => by
    have c1 : (1 : Rat) ≤ (m : Rat) := by exact_mod_cast h0
    have c2 : (m : Rat) ≤ ((2 ^ B : Int) : Rat) := by exact_mod_cast h1
    rw [e1]
    have k1 : 1 * T ≤ (m : Rat) * T := Rat.mul_le_mul_of_nonneg_right c1 (Rat.le_of_lt t2)
    have k2 : (m : Rat) * T ≤ (m : Rat) * 1 := Rat.mul_le_mul_of_nonneg_left t1 (by grind)
    constructor <;> grind
  have hB : ((2 ^ B : Nat) : Int) = 2 ^ B := by push_cast; rfl
  by_cases h0 : n = 0
  · exact .zero (by rw [h0]; simp)
  by_cases hp : 0 < n
  · obtain ⟨a, b⟩ := key n hp (by omega)
    exact .pos a b
  · obtain ⟨a, b⟩ := key (-n) (by omega) (by omega)
    rw [Rat.intCast_neg, Rat.neg_mul] at a b
    exact .neg a b
theorem mag8 {n : Int} {s : Nat} (hs : s ≤ 8) (hn : n.natAbs < 10 ^ 13) : Mag (-27) (44 : Nat) ((n : Rat) * (10 : Rat) ^ (-(s : Int))) := mag_dec (by omega) (by omega) ((ten_facts s (by omega)).2.2.2.1 hs)
theorem mag16 {n : Int} {s : Nat} (hs : s ≤ 16) (hn : n.natAbs < 10 ^ 24) : Mag (-54) (80 : Nat) ((n : Rat) * (10 : Rat) ^ (-(s : Int))) := mag_dec (by omega) (by omega) (ten_facts s (by omega)).2.2.1
theorem mag3 {n : Int} (hn : n.natAbs < 10 ^ 6) : Mag (-10) (20 : Nat) ((n : Rat) * (10 : Rat) ^ (-(3 : Nat) : Int)) := mag_dec (by omega) (by omega) ((ten_facts 3 (by omega)).2.2.2.2 (by omega))
theorem eqvI {a b c d : Int} : PyData.eqv (pvI (pvM a b) (pvM c d)) (pvI (pvM a b) (pvM c d)) = true := by
  simp [PyData.eqv, PyData.eqvAll]
theorem ne_no {a b c d : Int} : CmpV .NotEq (pvI (pvM a b) (pvM c d)) (pvI (pvM a b) (pvM c d)) false := by
  have := C_ned (d := pvI (pvM a b) (pvM c d)) (e := pvI (pvM a b) (pvM c d)) (by rfl) (by rfl) (Nat.le_of_ble_eq_true rfl)
  rwa [eqvI] at this
theorem eq_yes {a b c d : Int} : CmpV .Eq (pvI (pvM a b) (pvM c d)) (pvI (pvM a b) (pvM c d)) true := by
  have := C_eqd (d := pvI (pvM a b) (pvM c d)) (e := pvI (pvM a b) (pvM c d)) (by rfl) (by rfl) (Nat.le_of_ble_eq_true rfl)
  rwa [eqvI] at this
def z0T : NumT := ⟨false, [48], none, none⟩
def z00T : NumT := ⟨false, [48], some [48, 48], none⟩
theorem z0_text : z0T.text = [48] := rfl
theorem z00_text : z00T.text = [48, 46, 48, 48] := rfl
theorem z0_val : z0T.val = 0 := by decide +kernel
theorem z00_val : z00T.val = 0 := by decide +kernel
theorem z0_ok : z0T.Ok := by
  refine ⟨by intro c hc; simp [z0T] at hc; omega, by simp [z0T], ?_, ?_, by rw [z0_text]; decide, ?_⟩
  · intro b hb; cases hb
  · intro e v h; cases h
  · intro e v h; cases h
theorem z00_ok : z00T.Ok := by
  refine ⟨by intro c hc; simp [z00T] at hc; omega, by simp [z00T], ?_, ?_, by rw [z00_text]; decide, ?_⟩
  · intro b hb; cases hb; exact ⟨by intro c hc; simp at hc; omega, by simp⟩
  · intro e v h; cases h
  · intro e v h; cases h
theorem rd0 {q : Nat} {c : Bool} : Rd q c 0 0 0 := ⟨.inl ⟨rfl, rfl⟩, by
  rw [val_zero]
  refine ⟨⟨0, 0, by simp, (val_zero 0).symm⟩, ?_⟩
  cases c <;> exact ⟨Rat.le_refl, fun u _ h => h⟩⟩
theorem noE_43 {t : NumT} (h : t.Ok) (hE : t.E = none) : 43 ∉ t.text := by
  unfold NumT.text
  rw [hE]
  simpa [eT] using h.no_plus
end Mine
end

-- WdH
section
namespace Mine
open PySem.Builtin (bitAnd bitXor)
open PySem.Builtin.Int (intBits)
/-- what is read of a number alone -/
theorem rd_alone {w : World} {t : NumT} (h : t.Ok) {p : Nat} (hp : 1 ≤ p) (hps : p ≤ 900) : FnSpec w 11 "mpi_from_str" [.str (tx t.text), .int p] (pvI (pvX p false t.val) (pvX p true t.val)) := by
  have hl := h.len
  exact sp_mfs (del_none (h.okt.free (by decide))) (by omega) h.okt h.pmf (sp_fromstr h hp (by omega) false) (sp_fromstr h hp (by omega) true)
theorem del_sp {A B : List Nat} {S : List Nat} (hA : okt A) : del 32 (A ++ (S ++ B)) = A ++ (del 32 S ++ del 32 B) := by
  rw [del_app, del_app, del_none (hA.free (by decide))]
/-- .. with a reach of nothing -/
structure RchT (w : World) (p : Nat) (X Y : NumT) (d : PV) : Prop where
  oX : X.Ok
  oY : Y.Ok
  eX : 43 ∉ X.text
  eY : 43 ∉ Y.text
  F : FnSpec w 10 "mpi_from_str_a_b" [.str (tx X.text), .str (tx Y.text), .bool false, .int p] d
theorem RchT.pm {w : World} {p : Nat} {X Y : NumT} {d : PV} (h : RchT w p X Y d) : FnSpec w 11 "mpi_from_str" [.str (tx (X.text ++ 43 :: 45 :: Y.text)), .int p] d := by
  have l1 := h.oX.len
  have l2 := h.oY.len
  refine sp_mfs_pm ?_ (by simp; omega) h.oX.okt h.oY.okt h.eX h.eY (by simp; omega) h.F
  have := del_sp (A := X.text) (S := [43, 45]) (B := Y.text) h.oX.okt
  rw [del_none (h.oY.okt.free (c := 32) (by decide))] at this
  simpa [del] using this
theorem RchT.pms {w : World} {p : Nat} {X Y : NumT} {d : PV} (h : RchT w p X Y d) : FnSpec w 11 "mpi_from_str" [.str (tx (X.text ++ 32 :: 43 :: 45 :: 32 :: Y.text)), .int p] d := by
  have l1 := h.oX.len
  have l2 := h.oY.len
  refine sp_mfs_pm ?_ (by simp; omega) h.oX.okt h.oY.okt h.eX h.eY (by simp; omega) h.F
  have := del_sp (A := X.text) (S := [32, 43, 45, 32]) (B := Y.text) h.oX.okt
  rw [del_none (h.oY.okt.free (c := 32) (by decide))] at this
  simpa [del] using this
theorem RchT.par {w : World} {p : Nat} {X Y : NumT} {d : PV} (h : RchT w p X Y d) : FnSpec w 11 "mpi_from_str" [.str (tx (X.text ++ 32 :: 40 :: (Y.text ++ [41]))), .int p] d := by
  have l1 := h.oX.len
  have l2 := h.oY.len
  refine sp_mfs_par ?_ (by simp; omega) h.oX.okt h.oY.okt h.eX h.eY ?_ (by simp; omega) h.F
  · have := del_sp (A := X.text) (S := [32, 40]) (B := Y.text ++ [41]) h.oX.okt
    rw [del_app 32 Y.text, del_none (h.oY.okt.free (c := 32) (by decide))] at this
    simpa [del] using this
  · intro he
    obtain ⟨c, hc, _⟩ := h.oX.last
    rw [he] at hc; cases hc
theorem pct_of {w : World} {p : Nat} {X Y : NumT} {d : PV} (hX : X.Ok) (hY : Y.Ok) (eX : 43 ∉ X.text) (eY : 43 ∉ Y.text) (F : FnSpec w 10 "mpi_from_str_a_b" [.str (tx X.text), .str (tx Y.text), .bool true, .int p] d) :
    FnSpec w 11 "mpi_from_str" [.str (tx (X.text ++ 40 :: (Y.text ++ [37, 41]))), .int p] d := by
  have l1 := hX.len
  have l2 := hY.len
  refine sp_mfs_pct ?_ (by simp; omega) hX.okt hY.okt eX eY ?_ (by simp; omega) F
  · have := del_sp (A := X.text) (S := [40]) (B := Y.text ++ [37, 41]) hX.okt
    rw [del_app 32 Y.text, del_none (hY.okt.free (c := 32) (by decide))] at this
    simpa [del] using this
  · intro he
    obtain ⟨c, hc, _⟩ := hX.last
    rw [he] at hc; cases hc
end Mine
end

-- WdI
section
namespace Mine
open PySem.Builtin (bitAnd bitXor)
open PySem.Builtin.Int (intBits)
local macro_rules | `(tactic| walk_at "mem") => `(tactic| with_reducible (first | exact List.mem_cons_self | (refine List.mem_cons_of_mem _ ?_; walk_at "mem")))
local macro_rules | `(tactic| walk_at "upd") => `(tactic| with_reducible (first | exact Upd.head | (apply Upd.tail; walk_at "upd")))
local macro_rules | `(tactic| walk_at "upds") => `(tactic| first | exact Upds.nil | exact Upds.cons (by walk_at "upd") (by walk_at "upds"))
local macro_rules | `(tactic| walk_at "names") => `(tactic| first | exact Names.nil | exact Names.cons (by walk_at "names"))
local macro_rules | `(tactic| walk_at "side") => `(tactic| first | assumption | decide | omega)
local macro_rules | `(tactic| walk_at "B") => `(tactic| with_reducible first
  | exact B_add | exact B_sub | (show BinV .Mult _ _ _; exact B_mul (by walk_at "side")) | (show BinV .FloorDiv _ _ _; exact B_fdiv (by walk_at "side") (by walk_at "side")) | (show BinV .Mod _ _ _; exact B_mod (by walk_at "side"))
  | (show BinV .LShift _ _ _; exact B_shl (by walk_at "side") (by walk_at "side")) | (show BinV .RShift _ _ _; exact B_shr (by walk_at "side")) | (show BinV .Pow _ _ _; exact B_pow (by walk_at "side") (by walk_at "side"))
  | exact B_and | exact B_xor | (show BinV .Add (.str _) _ _; exact B_adds (by walk_at "side")))
local macro_rules | `(tactic| walk_at "I") => `(tactic| with_reducible first
  | exact I_add | exact I_sub | (show IBinV .LShift _ _ _; exact I_shl (by walk_at "side") (by walk_at "side")) | (show IBinV .RShift _ _ _; exact I_shr (by walk_at "side")) | exact I_xor | (show IBinV .Add (.str _) _ _; exact I_adds (by walk_at "side")))
local macro_rules | `(tactic| walk_at "C") => `(tactic| with_reducible first
  | exact C_eq | exact C_ne | exact C_lt | exact C_le | exact C_gt | exact C_ge | exact C_eqs | exact C_nes
  | (show CmpV .Eq (.tuple _) (.tuple _) _; exact C_eqd (by with_unfolding_all rfl) (by with_unfolding_all rfl) (by with_unfolding_all exact Nat.le_of_ble_eq_true rfl))
  | (show CmpV .NotEq (.tuple _) (.tuple _) _; exact C_ned (by with_unfolding_all rfl) (by with_unfolding_all rfl) (by with_unfolding_all exact Nat.le_of_ble_eq_true rfl)))
local macro_rules | `(tactic| walk_at "U") => `(tactic| with_reducible first | exact U_neg | (show UnV .Not _ _; exact U_not (by walk_at "R")))
local macro_rules | `(tactic| walk_at "R") => `(tactic| with_reducible first | exact R_int | exact R_bool | (show TruV (.str _) _; exact R_str (by walk_at "side")))
local macro_rules | `(tactic| walk_at "G") => `(tactic| with_reducible first
  | exact gl_fzero | exact gl_zero | exact gl_one | exact gl_near | exact gl_floor | exact gl_ceil | exact gl_up | exact gl_down | exact gl_fnan | exact gl_finf | exact gl_fninf | exact gl_blog | exact gl_digits)
local macro_rules | `(tactic| walk_at "L") => `(tactic| with_reducible first | exact L_nil | (show EvL _ _ _ _ (_ :: _) _ _; exact L_cons (by walk_at "E") (by walk_at "L")))
local macro_rules | `(tactic| walk_at "M0") => `(tactic| with_reducible first | exact M_bitlen | (show Meth0 _ (.str _) _; first | exact M_strip (by walk_at "side") | exact M_lower (by walk_at "side")))
local macro_rules | `(tactic| walk_at "K") => `(tactic| with_reducible first | assumption | exact K_int | exact K_abs | exact K_max | exact K_min | (show CallV (.builtin "len") _ _; exact K_len (by walk_at "side")) | (show CallV (.builtin "divmod") _ _; exact K_divmod (by walk_at "side") (by walk_at "side")))
local macro_rules | `(tactic| walk_at "Ebi") => `(tactic| with_reducible first
  | (show EvE _ _ _ _ (.Call (.Name (Str.ofString "int") _) _ _ _) _ _; exact E_bi bi_int (by walk_at "mem") rfl (by walk_at "L") (by walk_at "K"))
  | (show EvE _ _ _ _ (.Call (.Name (Str.ofString "len") _) _ _ _) _ _; exact E_bi bi_len (by walk_at "mem") rfl (by walk_at "L") (by walk_at "K"))
  | (show EvE _ _ _ _ (.Call (.Name (Str.ofString "abs") _) _ _ _) _ _; exact E_bi bi_abs (by walk_at "mem") rfl (by walk_at "L") (by walk_at "K"))
  | (show EvE _ _ _ _ (.Call (.Name (Str.ofString "max") _) _ _ _) _ _; exact E_bi bi_max (by walk_at "mem") rfl (by walk_at "L") (by walk_at "K"))
  | (show EvE _ _ _ _ (.Call (.Name (Str.ofString "min") _) _ _ _) _ _; exact E_bi bi_min (by walk_at "mem") rfl (by walk_at "L") (by walk_at "K"))
  | (show EvE _ _ _ _ (.Call (.Name (Str.ofString "divmod") _) _ _ _) _ _; exact E_bi bi_divmod (by walk_at "mem") rfl (by walk_at "L") (by walk_at "K"))
  | (show EvE _ _ _ _ (.Call (.Name (Str.ofString "str") _) _ _ _) _ _; exact E_bi bi_str (by walk_at "mem") rfl (by walk_at "L") (by walk_at "K"))
  | (show EvE _ _ _ _ (.Call (.Name (Str.ofString "pow") _) _ _ _) _ _; exact E_bi bi_pow (by walk_at "mem") rfl (by walk_at "L") (by walk_at "K"))
  | (show EvE _ _ _ _ (.Call (.Name (Str.ofString "isinstance") _) _ _ _) _ _; exact E_isint (by walk_at "mem") (by walk_at "mem") (by walk_at "E")))
local macro_rules | `(tactic| walk_at "E") => `(tactic| with_reducible first
  | assumption
  | (show EvE _ _ _ _ (.Name _ _) _ _; first | exact E_name (by walk_at "mem") | exact E_gl (by walk_at "mem") (by walk_at "G"))
  | exact E_int
  | (show EvE _ _ _ _ (.BinOp _ _ _ _) _ _; exact E_bin (by walk_at "E") (by walk_at "E") (by walk_at "B"))
  | exact E_str | exact E_bool | exact E_none
  | (show EvE _ _ _ _ (.UnaryOp _ _ _) _ _; exact E_un (by walk_at "E") (by walk_at "U"))
  | (show EvE _ _ _ _ (.Tuple _ _ _) _ _; exact E_tup (by walk_at "L"))
  | (show EvE _ _ _ _ (.Call (.Name _ _) _ _ _) _ _; first | walk_at "Ebi" | exact E_call (by walk_at "mem") (by walk_at "L") (by assumption))
  | (show EvE _ _ _ _ (.BoolOp .Or [_, _] _) _ _; exact E_orp (by walk_at "E") (by walk_at "side"))
  | (show EvE _ _ _ _ (.Call (.Attribute _ _ _) [] [] _) _ _; exact E_meth0 (by walk_at "E") (by walk_at "M0"))
  | (show EvE _ _ _ _ (.Compare _ [_] [_] _) _ _; exact E_cmp (by walk_at "E") (by walk_at "E") (by walk_at "C")))
local macro_rules | `(tactic| walk_at "T") => `(tactic| with_reducible first
  | assumption
  | (show EvT _ _ _ _ (.UnaryOp .Not _ _) _ _; exact T_not (by walk_at "T")) | (show EvT _ _ _ _ (.Compare _ [_] [_] _) _ _; exact T_cmp (by walk_at "E") (by walk_at "E") (by walk_at "C"))
  | (show EvT _ _ _ _ (.Compare _ [_, _] [_, _] _) _ _; exact T_chain (by walk_at "E") (by walk_at "E") (by walk_at "C") (fun _ => by walk_at "E") (fun _ => by walk_at "C"))
  | (show EvT _ _ _ _ (.BoolOp _ _ _) _ _; exact T_bool (by walk_at "A")) | exact T_val (by walk_at "E") (by walk_at "R"))
local macro_rules | `(tactic| walk_at "A") => `(tactic| with_reducible first
  | exact A_and0 | exact A_or0 | (show EvA _ _ _ _ .And _ _ _; exact A_and (by walk_at "T") (fun _ => by walk_at "A")) | exact A_or (by walk_at "T") (fun _ => by walk_at "A"))
local macro_rules | `(tactic| walk_at "S1") => `(tactic| with_reducible first
  | refine S_pop ?_
  | (show Exs _ _ _ _ ((.Assign [.Name _ _] _ _ :: _) :: _) _; refine S_assign (by walk_at "E") (by walk_at "upd") ?_)
  | (show Exs _ _ _ _ ((.AugAssign _ _ _ _ :: _) :: _) _; refine S_aug (by walk_at "mem") (by walk_at "E") (by walk_at "I") (by walk_at "upd") ?_)
  | (show Exs _ _ _ _ ((.Assign [.Tuple _ _ _] _ _ :: _) :: _) _; refine S_unpack (by walk_at "E") (by walk_at "names") (by walk_at "upds") ?_))
local macro_rules | `(tactic| walk_at "S") => `(tactic| repeat walk_at "S1")
local macro_rules | `(tactic| walk_at "ret") => `(tactic| (with_reducible show Exs _ _ _ _ ((.Return _ _ :: _) :: _) _; with_reducible apply S_ret'; walk_at "E"))
local macro_rules | `(tactic| walk_at "weak") => `(tactic| with_reducible first | exact Weak.nil | (apply Weak.skip; walk_at "weak") | (apply Weak.same; walk_at "weak") | (apply Weak.keep; rotate_left; walk_at "weak"))
local macro_rules | `(tactic| walk_at "end") => `(tactic| ((repeat (with_reducible refine S_pop ?_)); with_reducible apply S_end'; walk_at "weak"))
local macro_rules | `(tactic| walk_at "weak") => `(tactic| with_reducible first | exact Weak.nil | (apply Weak.skip; walk_at "weak") | (apply Weak.same; walk_at "weak") | (apply Weak.keep; rotate_left; walk_at "weak"))
local macro_rules | `(tactic| walk_at "end") => `(tactic| ((repeat (with_reducible refine S_pop ?_)); with_reducible apply S_end'; walk_at "weak"))
local macro_rules | `(tactic| walk_at "M1") => `(tactic| with_reducible first | assumption)
local macro_rules | `(tactic| walk_at "M0") => `(tactic| with_reducible first | assumption)
local macro_rules | `(tactic| walk_at "C") => `(tactic| with_reducible first | assumption)
local macro_rules | `(tactic| walk_at "E") => `(tactic| with_reducible first
  | (show EvE _ _ _ _ (.Call (.Attribute _ _ _) [.Constant _ _ _, .Constant _ _ _] [] _) _ _; exact E_replace' (by walk_at "E") (by assumption) (by decide +kernel) (by walk_at "side"))
  | (show EvE _ _ _ _ (.Call (.Attribute _ _ _) [_] [] _) _ _; exact E_meth1 (by walk_at "E") (by walk_at "E") (by walk_at "M1"))
  | (show EvE _ _ _ _ (.NamedExpr (.Name _ _) _ _) _ _; exact E_named (by walk_at "E") (by walk_at "upd"))
  | (show EvE _ _ _ _ (.Subscript _ (.Constant (.int _) _ _) _) _ _; exact E_listitem (by walk_at "E") (by walk_at "E") (by decide) (by decide) (by with_unfolding_all exact rfl)))
local macro_rules | `(tactic| walk_at "S1") => `(tactic| with_reducible first
  | (show Exs _ _ _ _ ((.Assign [.Tuple [.Name _ _, .Name _ _] _ _] (.Tuple [_, _] _ _) _ :: _) :: _) _; refine S_swap2 (by walk_at "L") (by walk_at "upd") (by walk_at "upd") ?_)
  | (show Exs _ _ _ _ ((.Assign [.Tuple [.Name _ _, .Name _ _, .Name _ _] _ _] (.Tuple [_, _, _] _ _) _ :: _) :: _) _; refine S_swap3 (by walk_at "L") (by walk_at "upd") (by walk_at "upd") (by walk_at "upd") ?_)
  | (show Exs _ _ _ _ ((.Assign [.Tuple _ _ _] _ _ :: _) :: _) _; refine S_unpackL (by walk_at "E") (by walk_at "names") (by walk_at "upds") ?_))
local macro_rules | `(tactic| walk_at "B") => `(tactic| with_reducible first | assumption)
local macro_rules | `(tactic| walk_at "E") => `(tactic| with_reducible (show EvE _ _ _ _ (.Subscript (.Name _ _) (.Constant (.int 0) _ _) _) _ _; refine E_tupitem (j := 0) (by walk_at "E") (by walk_at "E") (by decide) (by decide) (by with_unfolding_all rfl) (by with_unfolding_all rfl)))
local macro_rules | `(tactic| walk_at "E") => `(tactic| with_reducible (show EvE _ _ _ _ (.Subscript (.Name _ _) (.Constant (.int 1) _ _) _) _ _; refine E_tupitem (j := 1) (by walk_at "E") (by walk_at "E") (by decide) (by decide) (by with_unfolding_all rfl) (by with_unfolding_all rfl)))
local macro_rules | `(tactic| walk_at "E") => `(tactic| with_reducible (show EvE _ _ _ _ (.Subscript (.Name _ _) (.Constant (.int 2) _ _) _) _ _; refine E_tupitem (j := 2) (by walk_at "E") (by walk_at "E") (by decide) (by decide) (by with_unfolding_all rfl) (by with_unfolding_all rfl)))
theorem ofs_t1 : Str.ofString " +- 0" = tx [32, 43, 45, 32, 48] := by decide +kernel
theorem ofs_t2 : Str.ofString " (0)" = tx [32, 40, 48, 41] := by decide +kernel
theorem ofs_t3 : Str.ofString "(0%)" = tx [40, 48, 37, 41] := by decide +kernel
theorem ofs_t4 : Str.ofString "+-0.00" = tx [43, 45, 48, 46, 48, 48] := by decide +kernel
theorem ofs_t5 : Str.ofString " +- " = tx [32, 43, 45, 32] := by decide +kernel
theorem ofs_t6 : Str.ofString " (" = tx [32, 40] := by decide +kernel
abbrev tails : List Str := [" +- 0", " (0)", "(0%)", "+-0.00"]
abbrev rrEnv (n s one other p : PV) (x m a l : PV) (t pt wh : Option PV) : PEnv := [("n", some n), ("scale", some s), ("one", some one), ("other", some other), ("prec", some p), ("x", some x), ("minus", some m), ("alone", some a), ("low", some l), ("tail", t), ("part", pt), ("whole", wh)]
/-- what is read with a reach of zero -/
theorem zero_reach {w : World} {X : NumT} {p : Nat} (hX : X.Ok) (eX : 43 ∉ X.text) (h1 : 1 ≤ p) (h2 : p ≤ 60) (m : Mag (-27) (44 : Nat) X.val) {a1 f1 a2 f2 : Int} (A1 : Rd p false X.val a1 f1) (A2 : Rd p true X.val a2 f2) :
    ∀ t ∈ tails, ∃ T : List Nat, t = tx T ∧ T.length ≤ 10 ∧ FnSpec w 11 "mpi_from_str" [.str (tx (X.text ++ T)), .int p] (pvI (pvM a1 f1) (pvM a2 f2)) := by
  obtain ⟨z1, e1, R1⟩ := rd_ex (q := p + 20) (by omega) false X.val
  obtain ⟨z2, e2, R2⟩ := rd_ex (q := p + 20) (by omega) true X.val
  have k1 : pvX p false (val z1 e1 - val 0 0) = pvM a1 f1 := by
    rw [val_zero, show val z1 e1 - 0 = val z1 e1 by grind, twice_pv h1 (by omega) R1.r, A1.pv]
  have k2 : pvX p true (val z2 e2 + val 0 0) = pvM a2 f2 := by
    rw [val_zero, show val z2 e2 + 0 = val z2 e2 by grind, twice_pv h1 (by omega) R2.r, A2.pv]
  have F0 := sp_ab (w := w) hX z0_ok h1 (by omega) R1 R2 (by rw [z0_val]; exact rd0) m (a' := 0) (b' := 0) (.zero z0_val) (by rw [z0_val]; exact Rat.le_refl) (by omega) (by omega) (by omega) (by omega) (by omega) (by omega)
  have F00 := sp_ab (w := w) hX z00_ok h1 (by omega) R1 R2 (by rw [z00_val]; exact rd0) m (a' := 0) (b' := 0) (.zero z00_val) (by rw [z00_val]; exact Rat.le_refl) (by omega) (by omega) (by omega) (by omega) (by omega) (by omega)
  have FZ := sp_abz (w := w) hX z0_ok h1 (by omega) R1 R2 m z0_val (by omega) (by omega)
  rw [k1, k2] at F0 F00 FZ
  have H0 : RchT w p X z0T _ := ⟨hX, z0_ok, eX, noE_43 z0_ok rfl, F0⟩
  have H00 : RchT w p X z00T _ := ⟨hX, z00_ok, eX, noE_43 z00_ok rfl, F00⟩
  intro t ht
  simp only [tails, List.mem_cons, List.not_mem_nil, or_false] at ht
  rcases ht with rfl | rfl | rfl | rfl
  · exact ⟨_, ofs_t1, by decide, H0.pms⟩
  · exact ⟨_, ofs_t2, by decide, H0.par⟩
  · exact ⟨_, ofs_t3, by decide, pct_of hX z0_ok eX (noE_43 z0_ok rfl) FZ⟩
  · exact ⟨_, ofs_t4, by decide, H00.pm⟩
/-- the reach of one -/
structure Wide (w : World) (p : Nat) (X M Y : NumT) (b1 g1 b2 g2 : Int) : Prop where
  x : RchT w p X Y (pvI (pvM b1 g1) (pvM b2 g2))
  m : RchT w p M Y (pvI (pvM (-b2) g2) (pvM (-b1) g1))
theorem wide_ex {w : World} {X M Y : NumT} {p : Nat} (hX : X.Ok) (hM : M.Ok) (hY : Y.Ok) (eX : 43 ∉ X.text) (eM : 43 ∉ M.text) (eY : 43 ∉ Y.text) (h1 : 1 ≤ p) (h2 : p ≤ 60) (m : Mag (-27) (44 : Nat) X.val) (mm : Mag (-27) (44 : Nat) M.val) (hm : M.val = -X.val) (my : Mag (-10) (20 : Nat) Y.val) (y0 : 0 ≤ Y.val)
    {z1 e1 z2 e2 z3 e3 : Int} (R1 : Rd (p + 20) false X.val z1 e1) (R2 : Rd (p + 20) true X.val z2 e2) (R3 : Rd (p + 20) true Y.val z3 e3) {b1 g1 b2 g2 : Int} (B1 : Rd p false (val z1 e1 - val z3 e3) b1 g1) (B2 : Rd p true (val z2 e2 + val z3 e3) b2 g2) : Wide w p X M Y b1 g1 b2 g2 := by
  have F := sp_ab (w := w) hX hY h1 (by omega) R1 R2 R3 m my y0 (by omega) (by omega) (by omega) (by omega) (by omega) (by omega)
  have F' := sp_ab (w := w) hM hY h1 (by omega) (hm ▸ R2.neg) (hm ▸ R1.neg) R3 mm my y0 (by omega) (by omega) (by omega) (by omega) (by omega) (by omega)
  rw [B1.pv, B2.pv] at F
  have q1 : val (-z2) e2 - val z3 e3 = -(val z2 e2 + val z3 e3) := by rw [val_neg]; grind
  have q2 : val (-z1) e1 + val z3 e3 = -(val z1 e1 - val z3 e3) := by rw [val_neg]; grind
  rw [q1, q2] at F'
  have N1 := B2.neg.pv
  have N2 := B1.neg.pv
  rw [show (!true) = false from rfl] at N1
  rw [show (!false) = true from rfl] at N2
  rw [N1, N2] at F'
  exact ⟨⟨hX, hY, eX, eY, F⟩, ⟨hM, hY, eM, eY, F'⟩⟩
theorem rd_dy {q : Nat} {c : Bool} {v : Rat} {z e : Int} {a b : Int} (hq : 1 ≤ q) (hq2 : q ≤ 100) (h : Rd q c v z e) (m : Mag a b v) (ha : -100 ≤ a) (hb : b ≤ 149) : DyB (val z e) := (h.sz hq m).dy (by omega) (by omega)
theorem sub_mag {x y : Rat} (h : DyB x) (h' : DyB y) : Mag (-300) 151 (x - y) := by
  have := h.mag h'.neg
  rwa [show x + -y = x - y by grind] at this
end Mine
end

-- WdJ
section
namespace Mine
open PySem.Builtin (bitAnd bitXor)
open PySem.Builtin.Int (intBits)
local macro_rules | `(tactic| walk_at "mem") => `(tactic| with_reducible (first | exact List.mem_cons_self | (refine List.mem_cons_of_mem _ ?_; walk_at "mem")))
local macro_rules | `(tactic| walk_at "upd") => `(tactic| with_reducible (first | exact Upd.head | (apply Upd.tail; walk_at "upd")))
local macro_rules | `(tactic| walk_at "upds") => `(tactic| first | exact Upds.nil | exact Upds.cons (by walk_at "upd") (by walk_at "upds"))
local macro_rules | `(tactic| walk_at "names") => `(tactic| first | exact Names.nil | exact Names.cons (by walk_at "names"))
local macro_rules | `(tactic| walk_at "side") => `(tactic| first | assumption | decide | omega)
local macro_rules | `(tactic| walk_at "B") => `(tactic| with_reducible first
  | exact B_add | exact B_sub | (show BinV .Mult _ _ _; exact B_mul (by walk_at "side")) | (show BinV .FloorDiv _ _ _; exact B_fdiv (by walk_at "side") (by walk_at "side")) | (show BinV .Mod _ _ _; exact B_mod (by walk_at "side"))
  | (show BinV .LShift _ _ _; exact B_shl (by walk_at "side") (by walk_at "side")) | (show BinV .RShift _ _ _; exact B_shr (by walk_at "side")) | (show BinV .Pow _ _ _; exact B_pow (by walk_at "side") (by walk_at "side"))
  | exact B_and | exact B_xor | (show BinV .Add (.str _) _ _; exact B_adds (by walk_at "side")))
local macro_rules | `(tactic| walk_at "I") => `(tactic| with_reducible first
  | exact I_add | exact I_sub | (show IBinV .LShift _ _ _; exact I_shl (by walk_at "side") (by walk_at "side")) | (show IBinV .RShift _ _ _; exact I_shr (by walk_at "side")) | exact I_xor | (show IBinV .Add (.str _) _ _; exact I_adds (by walk_at "side")))
local macro_rules | `(tactic| walk_at "C") => `(tactic| with_reducible first
  | exact C_eq | exact C_ne | exact C_lt | exact C_le | exact C_gt | exact C_ge | exact C_eqs | exact C_nes
  | (show CmpV .Eq (.tuple _) (.tuple _) _; exact C_eqd (by with_unfolding_all rfl) (by with_unfolding_all rfl) (by with_unfolding_all exact Nat.le_of_ble_eq_true rfl))
  | (show CmpV .NotEq (.tuple _) (.tuple _) _; exact C_ned (by with_unfolding_all rfl) (by with_unfolding_all rfl) (by with_unfolding_all exact Nat.le_of_ble_eq_true rfl)))
local macro_rules | `(tactic| walk_at "U") => `(tactic| with_reducible first | exact U_neg | (show UnV .Not _ _; exact U_not (by walk_at "R")))
local macro_rules | `(tactic| walk_at "R") => `(tactic| with_reducible first | exact R_int | exact R_bool | (show TruV (.str _) _; exact R_str (by walk_at "side")))
local macro_rules | `(tactic| walk_at "G") => `(tactic| with_reducible first
  | exact gl_fzero | exact gl_zero | exact gl_one | exact gl_near | exact gl_floor | exact gl_ceil | exact gl_up | exact gl_down | exact gl_fnan | exact gl_finf | exact gl_fninf | exact gl_blog | exact gl_digits)
local macro_rules | `(tactic| walk_at "L") => `(tactic| with_reducible first | exact L_nil | (show EvL _ _ _ _ (_ :: _) _ _; exact L_cons (by walk_at "E") (by walk_at "L")))
local macro_rules | `(tactic| walk_at "M0") => `(tactic| with_reducible first | exact M_bitlen | (show Meth0 _ (.str _) _; first | exact M_strip (by walk_at "side") | exact M_lower (by walk_at "side")))
local macro_rules | `(tactic| walk_at "K") => `(tactic| with_reducible first | assumption | exact K_int | exact K_abs | exact K_max | exact K_min | (show CallV (.builtin "len") _ _; exact K_len (by walk_at "side")) | (show CallV (.builtin "divmod") _ _; exact K_divmod (by walk_at "side") (by walk_at "side")))
local macro_rules | `(tactic| walk_at "Ebi") => `(tactic| with_reducible first
  | (show EvE _ _ _ _ (.Call (.Name (Str.ofString "int") _) _ _ _) _ _; exact E_bi bi_int (by walk_at "mem") rfl (by walk_at "L") (by walk_at "K"))
  | (show EvE _ _ _ _ (.Call (.Name (Str.ofString "len") _) _ _ _) _ _; exact E_bi bi_len (by walk_at "mem") rfl (by walk_at "L") (by walk_at "K"))
  | (show EvE _ _ _ _ (.Call (.Name (Str.ofString "abs") _) _ _ _) _ _; exact E_bi bi_abs (by walk_at "mem") rfl (by walk_at "L") (by walk_at "K"))
  | (show EvE _ _ _ _ (.Call (.Name (Str.ofString "max") _) _ _ _) _ _; exact E_bi bi_max (by walk_at "mem") rfl (by walk_at "L") (by walk_at "K"))
  | (show EvE _ _ _ _ (.Call (.Name (Str.ofString "min") _) _ _ _) _ _; exact E_bi bi_min (by walk_at "mem") rfl (by walk_at "L") (by walk_at "K"))
  | (show EvE _ _ _ _ (.Call (.Name (Str.ofString "divmod") _) _ _ _) _ _; exact E_bi bi_divmod (by walk_at "mem") rfl (by walk_at "L") (by walk_at "K"))
  | (show EvE _ _ _ _ (.Call (.Name (Str.ofString "str") _) _ _ _) _ _; exact E_bi bi_str (by walk_at "mem") rfl (by walk_at "L") (by walk_at "K"))
  | (show EvE _ _ _ _ (.Call (.Name (Str.ofString "pow") _) _ _ _) _ _; exact E_bi bi_pow (by walk_at "mem") rfl (by walk_at "L") (by walk_at "K"))
  | (show EvE _ _ _ _ (.Call (.Name (Str.ofString "isinstance") _) _ _ _) _ _; exact E_isint (by walk_at "mem") (by walk_at "mem") (by walk_at "E")))
local macro_rules | `(tactic| walk_at "E") => `(tactic| with_reducible first
  | assumption
  | (show EvE _ _ _ _ (.Name _ _) _ _; first | exact E_name (by walk_at "mem") | exact E_gl (by walk_at "mem") (by walk_at "G"))
  | exact E_int
  | (show EvE _ _ _ _ (.BinOp _ _ _ _) _ _; exact E_bin (by walk_at "E") (by walk_at "E") (by walk_at "B"))
  | exact E_str | exact E_bool | exact E_none
  | (show EvE _ _ _ _ (.UnaryOp _ _ _) _ _; exact E_un (by walk_at "E") (by walk_at "U"))
  | (show EvE _ _ _ _ (.Tuple _ _ _) _ _; exact E_tup (by walk_at "L"))
  | (show EvE _ _ _ _ (.Call (.Name _ _) _ _ _) _ _; first | walk_at "Ebi" | exact E_call (by walk_at "mem") (by walk_at "L") (by assumption))
  | (show EvE _ _ _ _ (.BoolOp .Or [_, _] _) _ _; exact E_orp (by walk_at "E") (by walk_at "side"))
  | (show EvE _ _ _ _ (.Call (.Attribute _ _ _) [] [] _) _ _; exact E_meth0 (by walk_at "E") (by walk_at "M0"))
  | (show EvE _ _ _ _ (.Compare _ [_] [_] _) _ _; exact E_cmp (by walk_at "E") (by walk_at "E") (by walk_at "C")))
local macro_rules | `(tactic| walk_at "T") => `(tactic| with_reducible first
  | assumption
  | (show EvT _ _ _ _ (.UnaryOp .Not _ _) _ _; exact T_not (by walk_at "T")) | (show EvT _ _ _ _ (.Compare _ [_] [_] _) _ _; exact T_cmp (by walk_at "E") (by walk_at "E") (by walk_at "C"))
  | (show EvT _ _ _ _ (.Compare _ [_, _] [_, _] _) _ _; exact T_chain (by walk_at "E") (by walk_at "E") (by walk_at "C") (fun _ => by walk_at "E") (fun _ => by walk_at "C"))
  | (show EvT _ _ _ _ (.BoolOp _ _ _) _ _; exact T_bool (by walk_at "A")) | exact T_val (by walk_at "E") (by walk_at "R"))
local macro_rules | `(tactic| walk_at "A") => `(tactic| with_reducible first
  | exact A_and0 | exact A_or0 | (show EvA _ _ _ _ .And _ _ _; exact A_and (by walk_at "T") (fun _ => by walk_at "A")) | exact A_or (by walk_at "T") (fun _ => by walk_at "A"))
local macro_rules | `(tactic| walk_at "S1") => `(tactic| with_reducible first
  | refine S_pop ?_
  | (show Exs _ _ _ _ ((.Assign [.Name _ _] _ _ :: _) :: _) _; refine S_assign (by walk_at "E") (by walk_at "upd") ?_)
  | (show Exs _ _ _ _ ((.AugAssign _ _ _ _ :: _) :: _) _; refine S_aug (by walk_at "mem") (by walk_at "E") (by walk_at "I") (by walk_at "upd") ?_)
  | (show Exs _ _ _ _ ((.Assign [.Tuple _ _ _] _ _ :: _) :: _) _; refine S_unpack (by walk_at "E") (by walk_at "names") (by walk_at "upds") ?_))
local macro_rules | `(tactic| walk_at "S") => `(tactic| repeat walk_at "S1")
local macro_rules | `(tactic| walk_at "ret") => `(tactic| (with_reducible show Exs _ _ _ _ ((.Return _ _ :: _) :: _) _; with_reducible apply S_ret'; walk_at "E"))
local macro_rules | `(tactic| walk_at "weak") => `(tactic| with_reducible first | exact Weak.nil | (apply Weak.skip; walk_at "weak") | (apply Weak.same; walk_at "weak") | (apply Weak.keep; rotate_left; walk_at "weak"))
local macro_rules | `(tactic| walk_at "end") => `(tactic| ((repeat (with_reducible refine S_pop ?_)); with_reducible apply S_end'; walk_at "weak"))
local macro_rules | `(tactic| walk_at "weak") => `(tactic| with_reducible first | exact Weak.nil | (apply Weak.skip; walk_at "weak") | (apply Weak.same; walk_at "weak") | (apply Weak.keep; rotate_left; walk_at "weak"))
local macro_rules | `(tactic| walk_at "end") => `(tactic| ((repeat (with_reducible refine S_pop ?_)); with_reducible apply S_end'; walk_at "weak"))
local macro_rules | `(tactic| walk_at "M1") => `(tactic| with_reducible first | assumption)
local macro_rules | `(tactic| walk_at "M0") => `(tactic| with_reducible first | assumption)
local macro_rules | `(tactic| walk_at "C") => `(tactic| with_reducible first | assumption)
local macro_rules | `(tactic| walk_at "E") => `(tactic| with_reducible first
  | (show EvE _ _ _ _ (.Call (.Attribute _ _ _) [.Constant _ _ _, .Constant _ _ _] [] _) _ _; exact E_replace' (by walk_at "E") (by assumption) (by decide +kernel) (by walk_at "side"))
  | (show EvE _ _ _ _ (.Call (.Attribute _ _ _) [_] [] _) _ _; exact E_meth1 (by walk_at "E") (by walk_at "E") (by walk_at "M1"))
  | (show EvE _ _ _ _ (.NamedExpr (.Name _ _) _ _) _ _; exact E_named (by walk_at "E") (by walk_at "upd"))
  | (show EvE _ _ _ _ (.Subscript _ (.Constant (.int _) _ _) _) _ _; exact E_listitem (by walk_at "E") (by walk_at "E") (by decide) (by decide) (by with_unfolding_all exact rfl)))
local macro_rules | `(tactic| walk_at "S1") => `(tactic| with_reducible first
  | (show Exs _ _ _ _ ((.Assign [.Tuple [.Name _ _, .Name _ _] _ _] (.Tuple [_, _] _ _) _ :: _) :: _) _; refine S_swap2 (by walk_at "L") (by walk_at "upd") (by walk_at "upd") ?_)
  | (show Exs _ _ _ _ ((.Assign [.Tuple [.Name _ _, .Name _ _, .Name _ _] _ _] (.Tuple [_, _, _] _ _) _ :: _) :: _) _; refine S_swap3 (by walk_at "L") (by walk_at "upd") (by walk_at "upd") (by walk_at "upd") ?_)
  | (show Exs _ _ _ _ ((.Assign [.Tuple _ _ _] _ _ :: _) :: _) _; refine S_unpackL (by walk_at "E") (by walk_at "names") (by walk_at "upds") ?_))
local macro_rules | `(tactic| walk_at "B") => `(tactic| with_reducible first | assumption)
local macro_rules | `(tactic| walk_at "E") => `(tactic| with_reducible (show EvE _ _ _ _ (.Subscript (.Name _ _) (.Constant (.int 0) _ _) _) _ _; refine E_tupitem (j := 0) (by walk_at "E") (by walk_at "E") (by decide) (by decide) (by with_unfolding_all rfl) (by with_unfolding_all rfl)))
local macro_rules | `(tactic| walk_at "E") => `(tactic| with_reducible (show EvE _ _ _ _ (.Subscript (.Name _ _) (.Constant (.int 1) _ _) _) _ _; refine E_tupitem (j := 1) (by walk_at "E") (by walk_at "E") (by decide) (by decide) (by with_unfolding_all rfl) (by with_unfolding_all rfl)))
local macro_rules | `(tactic| walk_at "E") => `(tactic| with_reducible (show EvE _ _ _ _ (.Subscript (.Name _ _) (.Constant (.int 2) _ _) _) _ _; refine E_tupitem (j := 2) (by walk_at "E") (by walk_at "E") (by decide) (by decide) (by with_unfolding_all rfl) (by with_unfolding_all rfl)))
theorem ltT_neg_val {n : Int} {s : Nat} (hn : n.natAbs < 10 ^ 30) (hs : s ≤ 20) : (ltT (-n) s).val = -(ltT n s).val := by
  rw [ltT_val hn hs, ltT_val (n := -n) (by omega) hs, Rat.intCast_neg, Rat.neg_mul]
theorem ltT_43 {n : Int} {s : Nat} (hn : n.natAbs < 10 ^ 30) (hs : s ≤ 20) : 43 ∉ (ltT n s).text := noE_43 (ltT_ok hn hs) rfl
theorem tx_add_sz {a b : List Nat} (ha : a.length ≤ 1000) (hb : b.length ≤ 1000) : (tx a).length + (tx b).length ≤ sizeLine := by rw [tx_len, tx_len]; unfold sizeLine; omega
/-- both ends, rounded -/
theorem alone_within {w : World} {p : Nat} {u v u' v' : Rat} {a1 f1 a2 f2 b1 g1 b2 g2 : Int} (h1 : 1 ≤ p) (h2 : p ≤ 60) (A1 : Rd p false u a1 f1) (A2 : Rd p true v a2 f2) (B1 : Rd p false u' b1 g1) (B2 : Rd p true v' b2 g2) (huv : u ≤ v) (hu : u' ≤ u) (hv : v ≤ v')
    (s1 : Sml a1 f1) (s2 : Sml a2 f2) (s3 : Sml b1 g1) (s4 : Sml b2 g2) : FnSpec w 2 "_law_within" [pvI (pvM a1 f1) (pvM a2 f2), pvI (pvM b1 g1) (pvM b2 g2)] (.bool true) :=
  sp_within s1.sm s2.sm s3.sm s4.sm (IsR.mono hu B1.r A1.r) (IsR.mono hv A2.r B2.r) (Rat.le_trans A1.le (Rat.le_trans huv A2.ge))
set_option maxHeartbeats 8000000 in
theorem sp_reachright {w : World} {n one other : Int} {s p : Nat} (h1 : 1 ≤ p) (h2 : p ≤ 60) (hn : n.natAbs < 10 ^ 12) (hs : s ≤ 8) (ho0 : 0 ≤ one) (ho : one ≤ other) (ho2 : other < 10 ^ 6) :
    FnSpec w 12 "_law_reach_right" [.int n, .int s, .int one, .int other, .int p] (.bool true) := by
  have lim : (10 : Nat) ^ 12 < 10 ^ 30 := by decide
  have hn' : n.natAbs < 10 ^ 30 := by omega
  have hm' : (-n).natAbs < 10 ^ 30 := by omega
  have ho' : one.natAbs < 10 ^ 30 := by omega
  have hz' : other.natAbs < 10 ^ 30 := by omega
  have oX := ltT_ok hn' (s := s) (by omega)
  have oM := ltT_ok hm' (s := s) (by omega)
  have oY := ltT_ok ho' (s := 3) (by omega)
  have oZ := ltT_ok hz' (s := 3) (by omega)
  have eX := ltT_43 hn' (s := s) (by omega)
  have eM := ltT_43 hm' (s := s) (by omega)
  have eY := ltT_43 ho' (s := 3) (by omega)
  have eZ := ltT_43 hz' (s := 3) (by omega)
  have T1 := sp_text (w := w) hn' (s := s) (by omega)
  have T2 := sp_text (w := w) hm' (s := s) (by omega)
  have T3 : FnSpec w 1 "_law_text" [.int one, .int 3] (.str (tx (ltT one 3).text)) := sp_text (w := w) ho' (s := 3) (by omega)
  have T4 : FnSpec w 1 "_law_text" [.int other, .int 3] (.str (tx (ltT other 3).text)) := sp_text (w := w) hz' (s := 3) (by omega)
  have mX : Mag (-27) (44 : Nat) (ltT n s).val := by rw [ltT_val hn' (by omega)]; exact mag8 hs (by omega)
  have mM : Mag (-27) (44 : Nat) (ltT (-n) s).val := by rw [ltT_val hm' (by omega)]; exact mag8 hs (by omega)
  have mY : Mag (-10) (20 : Nat) (ltT one 3).val := by rw [ltT_val ho' (by omega)]; exact mag3 (by omega)
  have mZ : Mag (-10) (20 : Nat) (ltT other 3).val := by rw [ltT_val hz' (by omega)]; exact mag3 (by omega)
  have hmv := ltT_neg_val hn' (s := s) (by omega)
  have t3 := (ten_facts 3 (by omega)).2.1
  have y0 : 0 ≤ (ltT one 3).val := by
    rw [ltT_val ho' (by omega)]
    have : (0 : Rat) ≤ (one : Rat) := by exact_mod_cast ho0
    exact Rat.mul_nonneg this (Rat.le_of_lt t3)
  have yz : (ltT one 3).val ≤ (ltT other 3).val := by
    rw [ltT_val ho' (by omega), ltT_val hz' (by omega)]
    have : (one : Rat) ≤ (other : Rat) := by exact_mod_cast ho
    exact Rat.mul_le_mul_of_nonneg_right this (Rat.le_of_lt t3)
  have z0 : 0 ≤ (ltT other 3).val := Rat.le_trans y0 yz
  obtain ⟨X, hX⟩ : ∃ X, X = ltT n s := ⟨_, rfl⟩
  obtain ⟨M, hM⟩ : ∃ X, X = ltT (-n) s := ⟨_, rfl⟩
  obtain ⟨Y, hY⟩ : ∃ X, X = ltT one 3 := ⟨_, rfl⟩
  obtain ⟨Z, hZ⟩ : ∃ X, X = ltT other 3 := ⟨_, rfl⟩
  rw [← hX] at oX eX T1 mX hmv
  rw [← hM] at oM eM T2 mM hmv
  rw [← hY] at oY eY T3 mY y0 yz
  rw [← hZ] at oZ eZ T4 mZ yz z0
  clear hX hM hY hZ
  obtain ⟨z1, e1, R1⟩ := rd_ex (q := p + 20) (by omega) false X.val
  obtain ⟨z2, e2, R2⟩ := rd_ex (q := p + 20) (by omega) true X.val
  obtain ⟨z3, e3, R3⟩ := rd_ex (q := p + 20) (by omega) true Y.val
  obtain ⟨z4, e4, R4⟩ := rd_ex (q := p + 20) (by omega) true Z.val
  have d1 := rd_dy (by omega) (by omega) R1 mX (by omega) (by omega)
  have d2 := rd_dy (by omega) (by omega) R2 mX (by omega) (by omega)
  have d3 := rd_dy (by omega) (by omega) R3 mY (by omega) (by omega)
  have d4 := rd_dy (by omega) (by omega) R4 mZ (by omega) (by omega)
  obtain ⟨a1, f1, A1⟩ := rd_ex (q := p) h1 false X.val
  obtain ⟨a2, f2, A2⟩ := rd_ex (q := p) h1 true X.val
  obtain ⟨b1, g1, B1⟩ := rd_ex (q := p) h1 false (val z1 e1 - val z3 e3)
  obtain ⟨b2, g2, B2⟩ := rd_ex (q := p) h1 true (val z2 e2 + val z3 e3)
  obtain ⟨c1, i1, C1⟩ := rd_ex (q := p) h1 false (val z1 e1 - val z4 e4)
  obtain ⟨c2, i2, C2⟩ := rd_ex (q := p) h1 true (val z2 e2 + val z4 e4)
  have sA1 := (A1.sz h1 mX).sml (by omega) (by omega) (by omega)
  have sA2 := (A2.sz h1 mX).sml (by omega) (by omega) (by omega)
  have sB1 := (B1.sz h1 (sub_mag d1 d3)).sml (by omega) (by omega) (by omega)
  have sB2 := (B2.sz h1 (d2.mag d3)).sml (by omega) (by omega) (by omega)
  have sC1 := (C1.sz h1 (sub_mag d1 d4)).sml (by omega) (by omega) (by omega)
  have sC2 := (C2.sz h1 (d2.mag d4)).sml (by omega) (by omega) (by omega)
  have r1 := R1.le
  have r2 := R2.ge
  have n3 := isR_nonneg R3.r y0
  have n34 := IsR.mono yz R3.r R4.r
  have W1 := alone_within (w := w) h1 h2 A1 A2 B1 B2 Rat.le_refl (by grind) (by grind) sA1 sA2 sB1 sB2
  have W2 := alone_within (w := w) h1 h2 B1 B2 C1 C2 (by grind) (by grind) (by grind) sB1 sB2 sC1 sC2
  have FA := rd_alone (w := w) oX h1 (by omega)
  rw [A1.pv, A2.pv] at FA
  have FM := rd_alone (w := w) oM h1 (by omega)
  have N1 := A2.neg.pv
  have N2 := A1.neg.pv
  rw [show (!true) = false from rfl] at N1
  rw [show (!false) = true from rfl] at N2
  rw [hmv, N1, N2] at FM
  have G1 := sp_ineg (w := w) A1.can A2.can
  have G2 := sp_ineg (w := w) B1.can B2.can
  have ZR := zero_reach (w := w) oX eX h1 h2 mX A1 A2
  have P := wide_ex (w := w) oX oM oY eX eM eY h1 h2 mX mM hmv mY y0 R1 R2 R3 B1 B2
  have PW := wide_ex (w := w) oX oM oZ eX eM eZ h1 h2 mX mM hmv mZ z0 R1 R2 R4 C1 C2
  have P1 := P.x.pms
  have P2 := P.x.par
  have P3 := P.m.pm
  have P4 := PW.x.pms
  have lX := oX.len
  have lM := oM.len
  have lY := oY.len
  have lZ := oZ.len
  refine fn_intro (Γ := ["_law_text", "mpi_from_str", "mpi_neg", "_law_within"]) 403 (by kernel_rfl) (by rfl) (by kernel_rfl) ["n", "scale", "one", "other", "prec"] ["x", "minus", "alone", "low", "tail", "part", "whole"] [.int n, .int s, .int one, .int other, .int p] (by decide +kernel) rfl ?_ ?_
  · intro s vs ks H ra rk
    refine bindN ra rk fun vs hv => ?_
    match vs, hv with
    | [a, b, c, d, e], _ => exact BindsTo.of_eq (by rfl)
  intro ρ hρ; simp only [envZip_cons, envZip_nil, envZip_nil'] at hρ; subst hρ
  refine S_swap2 (L_cons (E_call (by walk_at "mem") (by walk_at "L") T1) (L_cons (E_call (by walk_at "mem") (by walk_at "L") T2) L_nil)) (by walk_at "upd") (by walk_at "upd") ?_
  refine S_swap2 (L_cons (E_call (by walk_at "mem") (by walk_at "L") FA) (L_cons (E_call (by walk_at "mem") (by walk_at "L") T3) L_nil)) (by walk_at "upd") (by walk_at "upd") ?_
  refine S_forP (P := fun ds ρ => (∃ t, ρ = rrEnv (.int n) (.int s) (.int one) (.int other) (.int p) (.str (tx X.text)) (.str (tx M.text)) (pvI (pvM a1 f1) (pvM a2 f2)) (.str (tx Y.text)) t none none) ∧ ∀ d ∈ ds, ∃ T : List Nat, d = .str (tx T) ∧ T.length ≤ 10 ∧ FnSpec w 11 "mpi_from_str" [.str (tx (X.text ++ T)), .int p] (pvI (pvM a1 f1) (pvM a2 f2)))
    (I_list (E_list (ds := [.str (Str.ofString " +- 0"), .str (Str.ofString " (0)"), .str (Str.ofString "(0%)"), .str (Str.ofString "+-0.00")]) (by walk_at "L"))) ⟨⟨_, rfl⟩, ?_⟩ ?_ ?_
  · intro d hm
    obtain ⟨t, ht, rfl⟩ := List.mem_map.mp (show d ∈ tails.map PyData.str from hm)
    obtain ⟨T, a, b, c⟩ := ZR t ht
    exact ⟨T, by rw [a], b, c⟩
  · rintro d ds ρ ⟨⟨t, rfl⟩, hm⟩
    obtain ⟨T, rfl, lT, FT⟩ := hm d (by simp)
    refine ⟨rrEnv (.int n) (.int s) (.int one) (.int other) (.int p) (.str (tx X.text)) (.str (tx M.text)) (pvI (pvM a1 f1) (pvM a2 f2)) (.str (tx Y.text)) (some (.str (tx T))) none none, by walk_at "upd", .inl ⟨rrEnv (.int n) (.int s) (.int one) (.int other) (.int p) (.str (tx X.text)) (.str (tx M.text)) (pvI (pvM a1 f1) (pvM a2 f2)) (.str (tx Y.text)) (some (.str (tx T))) none none, ⟨⟨_, rfl⟩, fun d hd => hm d (by simp [hd])⟩, ?_⟩⟩
    refine S_if (T_cmp (E_call (by walk_at "mem") (L_cons (E_eq (b := .str (tx (X.text ++ T))) (E_bin (by walk_at "E") (by walk_at "E") (B_adds (tx_add_sz (by omega) (by omega)))) (by rw [tx_add])) (by walk_at "L")) FT) (by walk_at "E") ne_no) (fun h => by cases h) (fun _ => ?_)
    exact S_pop S_end
  · rintro ρ ⟨⟨t, rfl⟩, _⟩
    have cat3 : ∀ {A B C : List Nat} {x y z : Str}, x = tx A → y = tx B → z = tx C → A.length ≤ 300 → B.length ≤ 300 → C.length ≤ 300 → x.length + y.length ≤ sizeLine ∧ (x ++ y).length + z.length ≤ sizeLine ∧ x ++ y ++ z = tx (A ++ B ++ C) := by
      rintro A B C x y z rfl rfl rfl ha hb hc
      rw [tx_add, tx_add]
      exact ⟨tx_add_sz (by omega) (by omega), tx_add_sz (by simp; omega) (by omega), rfl⟩
    obtain ⟨u1, u2, u3⟩ := cat3 (rfl : tx X.text = tx X.text) ofs_t5 (rfl : tx Y.text = tx Y.text) (by omega) (by decide) (by omega)
    obtain ⟨v1, v2, v3⟩ := cat3 (rfl : tx X.text = tx X.text) ofs_t5 (rfl : tx Z.text = tx Z.text) (by omega) (by decide) (by omega)
    obtain ⟨k1, k2, k3⟩ := cat3 (rfl : tx X.text = tx X.text) ofs_t6 (rfl : tx Y.text = tx Y.text) (by omega) (by decide) (by omega)
    obtain ⟨l1, l2, l3⟩ := cat3 (rfl : tx M.text = tx M.text) ofs_pm (rfl : tx Y.text = tx Y.text) (by omega) (by decide) (by omega)
    have k4 : (tx X.text ++ Str.ofString " (" ++ tx Y.text).length + (Str.ofString ")").length ≤ sizeLine := by rw [k3, ofs_rp]; exact tx_add_sz (by simp; omega) (by decide)
    refine S_assign (E_call (by walk_at "mem") (L_cons (E_eq (b := .str (tx (X.text ++ 32 :: 43 :: 45 :: 32 :: Y.text))) (E_bin (E_bin (by walk_at "E") (by walk_at "E") (B_adds u1)) (by walk_at "E") (B_adds u2)) (by rw [u3]; simp)) (by walk_at "L")) P1) (by walk_at "upd") ?_
    refine S_if (T_eq (b₂ := false) (T_bool (A_or (T_cmp (E_call (by walk_at "mem") (L_cons (E_eq (b := .str (tx (X.text ++ 32 :: 40 :: (Y.text ++ [41])))) (E_bin (E_bin (E_bin (by walk_at "E") (by walk_at "E") (B_adds k1)) (by walk_at "E") (B_adds k2)) (by walk_at "E") (B_adds k4)) (by rw [k3, ofs_rp, tx_add]; simp)) (by walk_at "L")) P2) (by walk_at "E") ne_no)
      (fun _ => A_or (T_cmp (E_call (by walk_at "mem") (L_cons (E_eq (b := .str (tx (M.text ++ 43 :: 45 :: Y.text))) (E_bin (E_bin (by walk_at "E") (by walk_at "E") (B_adds l1)) (by walk_at "E") (B_adds l2)) (by rw [l3]; simp)) (by walk_at "L")) P3) (E_call (by walk_at "mem") (by walk_at "L") G2) ne_no) (fun _ => A_or0)))) rfl) (fun h => by cases h) (fun _ => ?_)
    walk_at "S"
    have v2' : (tx X.text ++ Str.ofString " +- ").length + (tx Z.text).length ≤ sizeLine := v2
    refine S_assign (E_call (by walk_at "mem") (L_cons (E_eq (b := .str (tx (X.text ++ 32 :: 43 :: 45 :: 32 :: Z.text))) (E_bin (E_bin (by walk_at "E") (by walk_at "E") (B_adds v1)) (E_call (by walk_at "mem") (by walk_at "L") T4) (B_adds v2)) (by rw [v3]; simp)) (by walk_at "L")) P4) (by walk_at "upd") ?_
    refine S_ret' (E_boolop (V_andb (E_cmp (E_call (by walk_at "mem") (by walk_at "L") FM) (E_call (by walk_at "mem") (by walk_at "L") G1) eq_yes) (fun _ => V_andb (E_call (by walk_at "mem") (by walk_at "L") W1) (fun _ => V_one (E_call (by walk_at "mem") (by walk_at "L") W2))))) rfl
end Mine
end

-- WdK
section
namespace Mine
open PySem.Builtin (bitAnd bitXor)
open PySem.Builtin.Int (intBits)

theorem dy0 : DyB 0 := ⟨⟨0, (val_zero _).symm⟩, Rat.le_of_lt (p2_pos _), by have := p2_pos 150; grind⟩
theorem DyB.mag1 {x : Rat} (h : DyB x) : Mag (-300) 151 x := by
  have := h.mag dy0
  rwa [show x + 0 = x by grind] at this
theorem prod_dy {q : Nat} {a b u f v g : Int} (h : Sz q a b u f) (h' : Sz q a b v g) (ha : -100 ≤ a - q) (hb : b ≤ 60) : DyB (val u f * val v g) := by
  by_cases hu : u = 0
  · subst hu; rw [val_zero, Rat.zero_mul]; exact dy0
  by_cases hv : v = 0
  · subst hv; rw [val_zero, Rat.mul_zero]; exact dy0
  have l1 := h.lo hu; have l2 := h.hi hu
  have l3 := h'.lo hv; have l4 := h'.hi hv
  have k1 := val_abs_lt (z := u) (e := f) (Nat.le_refl _)
  have k2 := val_abs_lt (z := v) (e := g) (Nat.le_refl _)
  have m1 : val u.natAbs f ≤ (2 : Rat) ^ (61 : Int) := Rat.le_trans (Rat.le_of_lt k1) (p2_le (by omega))
  have m2 : val v.natAbs g ≤ (2 : Rat) ^ (61 : Int) := Rat.le_trans (Rat.le_of_lt k2) (p2_le (by omega))
  have m3 := mul_le (abs_nonneg' u f) m1 (abs_nonneg' v g) m2
  rw [← p2_add, val_mul] at m3
  have m4 : (2 : Rat) ^ ((61 : Int) + 61) ≤ (2 : Rat) ^ (150 : Int) := p2_le (by omega)
  have e1 : (((u.natAbs : Int)) * (v.natAbs : Int)) = (((u * v).natAbs : Nat) : Int) := by rw [Int.natAbs_mul]; push_cast; rfl
  rw [e1] at m3
  obtain ⟨n1, n2⟩ := val_abs_le (u * v) (f + g)
  rw [val_mul]
  exact ⟨⟨_, val_at _ _ (show (-300 : Int) ≤ f + g by omega)⟩, by grind, by grind⟩
theorem prd_mag {q : Nat} {a b a1 f1 a2 f2 b1 g1 b2 g2 : Int} {r : Rat} (h : Prd a1 f1 a2 f2 b1 g1 b2 g2 r) (ha1 : Sz q a b a1 f1) (ha2 : Sz q a b a2 f2) (hb1 : Sz q a b b1 g1) (hb2 : Sz q a b b2 g2) (ha : -100 ≤ a - q) (hb : b ≤ 60) : Mag (-300) 151 r := by
  rcases h with rfl | ⟨u, f, v, g, (⟨rfl, rfl⟩ | ⟨rfl, rfl⟩), (⟨rfl, rfl⟩ | ⟨rfl, rfl⟩), rfl⟩
  · exact .zero rfl
  · exact (prod_dy ha1 hb1 ha hb).mag1
  · exact (prod_dy ha1 hb2 ha hb).mag1
  · exact (prod_dy ha2 hb1 ha hb).mag1
  · exact (prod_dy ha2 hb2 ha hb).mag1
theorem side_of {p : Nat} {v : Rat} {a b a1 f1 a2 f2 : Int} (m : Mag a b v) (A1 : Rd p false v a1 f1) (A2 : Rd p true v a2 f2) : Side a1 f1 a2 f2 := by
  rcases m with hv | ⟨h1, h2⟩ | ⟨h1, h2⟩
  · subst hv
    obtain ⟨r1, r2⟩ := can_zero A1.can (isR_zero A1.r)
    obtain ⟨r3, r4⟩ := can_zero A2.can (isR_zero A2.r)
    exact .zero r1 r2 r3 r4
  · have c0 := p2_pos a
    have l1 := isR_lo A1.r h1
    have l2 := isR_lo A2.r h1
    exact .pos ((val_pos (e := f1)).mp (by grind)) ((val_pos (e := f2)).mp (by grind))
  · have c0 := p2_pos a
    have l1 := isR_lo A1.r.neg h1
    have l2 := isR_lo A2.r.neg h1
    have k1 : 0 < val (-a1) f1 := by rw [val_neg]; grind
    have k2 : 0 < val (-a2) f2 := by rw [val_neg]; grind
    exact .neg (by have := val_pos.mp k1; omega) (by have := val_pos.mp k2; omega)

/-! the texts of ints -/
def iT (m : Int) : NumT := ⟨decide (m < 0), ntx m.natAbs, none, none⟩
def eM (m : Int) (s : Nat) : NumT := ⟨decide (m < 0), ntx m.natAbs, none, some (45 :: ntx s, -(s : Int))⟩
def eP (m : Int) (s : Nat) : NumT := ⟨decide (m < 0), ntx m.natAbs, none, some (ntx s, (s : Int))⟩
theorem iT_text (m : Int) : (iT m).text = itx m := by
  rw [itx_eq]; simp [iT, NumT.text, NumT.mant, pT, eT]
theorem eM_text (m : Int) (s : Nat) : (eM m s).text = itx m ++ 101 :: 45 :: ntx s := by
  rw [itx_eq]; simp [eM, NumT.text, NumT.mant, pT, eT]
theorem eP_text (m : Int) (s : Nat) : (eP m s).text = itx m ++ 101 :: ntx s := by
  rw [itx_eq]; simp [eP, NumT.text, NumT.mant, pT, eT]
theorem man_of {t : NumT} {m : Int} (h1 : t.neg = decide (m < 0)) (h2 : t.A = ntx m.natAbs) (h3 : t.B = none) : t.man = m ∧ t.frac = [] := by
  have e1 : t.frac = [] := by unfold NumT.frac; rw [h3]; rfl
  refine ⟨?_, e1⟩
  unfold NumT.man
  rw [e1, h1, h2, List.append_nil, ntx_val, sgi_self]
theorem iT_val (m : Int) : (iT m).val = (m : Rat) := by
  obtain ⟨e1, e2⟩ := man_of (t := iT m) (m := m) rfl rfl rfl
  unfold NumT.val NumT.exp
  rw [e1, e2]
  show (m : Rat) * (10 : Rat) ^ (0 : Int) = _
  rw [Rat.zpow_zero, Rat.mul_one]
theorem eM_val (m : Int) (s : Nat) : (eM m s).val = (m : Rat) * (10 : Rat) ^ (-(s : Int)) := by
  obtain ⟨e1, e2⟩ := man_of (t := eM m s) (m := m) rfl rfl rfl
  unfold NumT.val NumT.exp
  rw [e1, e2]
  rw [show ((Option.map (fun x => x.2) (eM m s).E).getD 0 - (([] : List Nat).length : Int)) = -(s : Int) by show -(s : Int) - 0 = _; omega]
theorem eP_val (m : Int) (s : Nat) : (eP m s).val = (m : Rat) * (10 : Rat) ^ (s : Int) := by
  obtain ⟨e1, e2⟩ := man_of (t := eP m s) (m := m) rfl rfl rfl
  unfold NumT.val NumT.exp
  rw [e1, e2]
  rw [show ((Option.map (fun x => x.2) (eP m s).E).getD 0 - (([] : List Nat).length : Int)) = (s : Int) by show (s : Int) - 0 = _; omega]
theorem iT_ok {m : Int} (hm : m.natAbs < 10 ^ 30) : (iT m).Ok := by
  have h1 := itx_len (k := 30) (by decide) hm
  refine ⟨ntx_dg _, ntx_ne _, ?_, ?_, by rw [iT_text]; omega, ?_⟩
  · intro b hb; cases hb
  · intro e v h; cases h
  · intro e v h; cases h
theorem nfree {s : Nat} {c : Nat} (hc : c < 48 ∨ 57 < c) : c ∉ ntx s := dg_free (ntx_dg s) hc
theorem eM_ok {m : Int} {s : Nat} (hm : m.natAbs < 10 ^ 30) (hs : s ≤ 20) : (eM m s).Ok := by
  have h1 := itx_len (k := 30) (by decide) hm
  have h2 := ntx_len (m := s) (k := 2) (by decide) (by omega)
  refine ⟨ntx_dg _, ntx_ne _, ?_, ?_, by rw [eM_text]; simp; omega, ?_⟩
  · intro b hb; cases hb
  · intro e v h
    cases h
    refine ⟨?_, okt.cons (by decide) (okt_dg (ntx_dg s)), ?_, ?_, ?_, by omega⟩
    · have := int_neg (ntx_dg s) (ntx_ne s) (by omega)
      rwa [ntx_val] at this
    · intro hm; rcases List.mem_cons.mp hm with h | h
      · cases h
      · exact nfree (by omega) h
    · intro hm; rcases List.mem_cons.mp hm with h | h
      · cases h
      · exact nfree (by omega) h
    · obtain ⟨c, a, b⟩ := dg_last (ntx_dg s) (ntx_ne s)
      exact ⟨c, last_cons a, b⟩
  · intro e v h
    cases h
    refine pmf_free ?_
    intro hm; rcases List.mem_cons.mp hm with h | h
    · cases h
    · exact nfree (by omega) h
theorem eP_ok {m : Int} {s : Nat} (hm : m.natAbs < 10 ^ 30) (hs : s ≤ 20) : (eP m s).Ok := by
  have h1 := itx_len (k := 30) (by decide) hm
  have h2 := ntx_len (m := s) (k := 2) (by decide) (by omega)
  refine ⟨ntx_dg _, ntx_ne _, ?_, ?_, by rw [eP_text]; simp; omega, ?_⟩
  · intro b hb; cases hb
  · intro e v h
    cases h
    refine ⟨?_, okt_dg (ntx_dg s), nfree (by omega), nfree (by omega), dg_last (ntx_dg s) (ntx_ne s), by omega⟩
    have := int_pos (ntx_dg s) (ntx_ne s) (by omega)
    rwa [ntx_val] at this
  · intro e v h
    cases h
    exact pmf_free (nfree (by omega))
theorem k_str {m : Int} (hm : m.natAbs < 10 ^ 30) : CallV (.type "str") [.int m] (.str (tx (itx m))) := by
  have hlg : m.natAbs.log2 < 1920 := by
    by_cases h0 : m.natAbs = 0
    · rw [h0]; decide
    · have := (Nat.log2_lt (k := 100) h0).mpr (Nat.lt_of_lt_of_le hm (by decide)); omega
  have := K_str (i := m) hlg
  rwa [str_int] at this
/-- whole numbers read at 99 are exact -/
theorem exact99 {c : Bool} {m : Int} (hm : m.natAbs < 10 ^ 20) : pvX 99 c (m : Rat) = pvM (nrmZ m) (nrmE m 0) := by
  refine pvX_eq (can_nrm m 0) ?_
  rw [val_nrm]
  have hv : val m 0 = (m : Rat) := by unfold val; rw [Rat.zpow_zero, Rat.mul_one]
  rw [hv]
  have hf : Fl 99 (m : Rat) := ⟨m, 0, by have : (10 : Nat) ^ 20 ≤ 2 ^ 99 := by decide
                                         omega, hv.symm⟩
  refine ⟨hf, ?_⟩
  cases c <;> exact ⟨Rat.le_refl, fun u _ h => h⟩
theorem rd_frac {w : World} {n k : Int} {p : Nat} (hn : n.natAbs < 10 ^ 12) (hk : 0 < k) (hk2 : k ≤ 10 ^ 12) (h1 : 1 ≤ p) (h2 : p ≤ 900) :
    FnSpec w 11 "mpi_from_str" [.str (tx (itx n ++ 47 :: itx k)), .int p] (pvI (pvX p false ((n : Rat) / (k : Rat))) (pvX p true ((n : Rat) / (k : Rat)))) := by
  have l1 := itx_len (n := n) (k := 30) (by decide) (by omega)
  have l2 := itx_len (n := k) (k := 30) (by decide) (by omega)
  have hok : okt (itx n ++ 47 :: itx k) := okt.app (itx_ok n) (okt.cons (by decide) (itx_ok k))
  have f43 : 43 ∉ itx n ++ 47 :: itx k := by
    intro hm
    rcases List.mem_append.mp hm with h | h
    · exact itx_no n (by decide) (by omega) h
    · rcases List.mem_cons.mp h with h | h
      · cases h
      · exact itx_no k (by decide) (by omega) h
  exact sp_mfs (del_none (hok.free (by decide))) (by simp; omega) hok (pmf_free f43) (sp_fromfrac (by omega) hk (by omega) h1 (by omega) false) (sp_fromfrac (by omega) hk (by omega) h1 (by omega) true)
/-- the size of a rounded number -/
theorem Rd.low {q : Nat} {c : Bool} {v : Rat} {z e : Int} {a b : Int} (h : Rd q c v z e) (m : Mag a b v) (hz : z ≠ 0) : a < (intBits z : Int) + e := by
  have h3 := val_abs_lt (z := z) (e := e) (Nat.le_refl _)
  have key : (2 : Rat) ^ a ≤ val z.natAbs e := by
    rcases m with hv | ⟨h1, h2⟩ | ⟨h1, h2⟩
    · have r := h.r
      rw [hv] at r
      exact absurd (can_zero h.can (isR_zero r)).1 hz
    · exact Rat.le_trans (isR_lo h.r h1) (val_abs_le z e).1
    · exact Rat.le_trans (isR_lo h.r.neg h1) (val_abs_le z e).2
  exact p2_lt_iff.mp (Std.lt_of_le_of_lt key h3)
theorem mag_grid {n e : Int} (hn : n.natAbs ≤ 2 ^ 25) (h1 : -12 ≤ e) (h2 : e ≤ 12) : Mag (-12) 37 (val n e) := by
  have key : ∀ m : Int, 0 < m → m ≤ 2 ^ 25 → (2 : Rat) ^ (-12 : Int) ≤ val m e ∧ val m e ≤ (2 : Rat) ^ (37 : Int) := fun m h0 h3 => by
    constructor
    · refine Rat.le_trans (p2_le h1) ?_
      rw [← val_one]; exact val_le.mpr (by omega)
    · have : val m e ≤ val (1 * 2 ^ 25) e := val_le.mpr (by omega)
      refine Rat.le_trans this ?_
      rw [val_shift, val_one]; exact p2_le (by omega)
  by_cases h0 : n = 0
  · exact .zero (by rw [h0, val_zero])
  by_cases hp : 0 < n
  · obtain ⟨a, b⟩ := key n hp (by omega)
    exact .pos a b
  · obtain ⟨a, b⟩ := key (-n) (by omega) (by omega)
    rw [val_neg] at a b
    exact .neg a b
end Mine
end

-- WdL
section
namespace Mine
open PySem.Builtin (bitAnd bitXor)
open PySem.Builtin.Int (intBits)
local macro_rules | `(tactic| walk_at "mem") => `(tactic| with_reducible (first | exact List.mem_cons_self | (refine List.mem_cons_of_mem _ ?_; walk_at "mem")))
local macro_rules | `(tactic| walk_at "upd") => `(tactic| with_reducible (first | exact Upd.head | (apply Upd.tail; walk_at "upd")))
local macro_rules | `(tactic| walk_at "upds") => `(tactic| first | exact Upds.nil | exact Upds.cons (by walk_at "upd") (by walk_at "upds"))
local macro_rules | `(tactic| walk_at "names") => `(tactic| first | exact Names.nil | exact Names.cons (by walk_at "names"))
local macro_rules | `(tactic| walk_at "side") => `(tactic| first | assumption | decide | omega)
local macro_rules | `(tactic| walk_at "B") => `(tactic| with_reducible first
  | exact B_add | exact B_sub | (show BinV .Mult _ _ _; exact B_mul (by walk_at "side")) | (show BinV .FloorDiv _ _ _; exact B_fdiv (by walk_at "side") (by walk_at "side")) | (show BinV .Mod _ _ _; exact B_mod (by walk_at "side"))
  | (show BinV .LShift _ _ _; exact B_shl (by walk_at "side") (by walk_at "side")) | (show BinV .RShift _ _ _; exact B_shr (by walk_at "side")) | (show BinV .Pow _ _ _; exact B_pow (by walk_at "side") (by walk_at "side"))
  | exact B_and | exact B_xor | (show BinV .Add (.str _) _ _; exact B_adds (by walk_at "side")))
local macro_rules | `(tactic| walk_at "I") => `(tactic| with_reducible first
  | exact I_add | exact I_sub | (show IBinV .LShift _ _ _; exact I_shl (by walk_at "side") (by walk_at "side")) | (show IBinV .RShift _ _ _; exact I_shr (by walk_at "side")) | exact I_xor | (show IBinV .Add (.str _) _ _; exact I_adds (by walk_at "side")))
local macro_rules | `(tactic| walk_at "C") => `(tactic| with_reducible first
  | exact C_eq | exact C_ne | exact C_lt | exact C_le | exact C_gt | exact C_ge | exact C_eqs | exact C_nes
  | (show CmpV .Eq (.tuple _) (.tuple _) _; exact C_eqd (by with_unfolding_all rfl) (by with_unfolding_all rfl) (by with_unfolding_all exact Nat.le_of_ble_eq_true rfl))
  | (show CmpV .NotEq (.tuple _) (.tuple _) _; exact C_ned (by with_unfolding_all rfl) (by with_unfolding_all rfl) (by with_unfolding_all exact Nat.le_of_ble_eq_true rfl)))
local macro_rules | `(tactic| walk_at "U") => `(tactic| with_reducible first | exact U_neg | (show UnV .Not _ _; exact U_not (by walk_at "R")))
local macro_rules | `(tactic| walk_at "R") => `(tactic| with_reducible first | exact R_int | exact R_bool | (show TruV (.str _) _; exact R_str (by walk_at "side")))
local macro_rules | `(tactic| walk_at "G") => `(tactic| with_reducible first
  | exact gl_fzero | exact gl_zero | exact gl_one | exact gl_near | exact gl_floor | exact gl_ceil | exact gl_up | exact gl_down | exact gl_fnan | exact gl_finf | exact gl_fninf | exact gl_blog | exact gl_digits)
local macro_rules | `(tactic| walk_at "L") => `(tactic| with_reducible first | exact L_nil | (show EvL _ _ _ _ (_ :: _) _ _; exact L_cons (by walk_at "E") (by walk_at "L")))
local macro_rules | `(tactic| walk_at "M0") => `(tactic| with_reducible first | exact M_bitlen | (show Meth0 _ (.str _) _; first | exact M_strip (by walk_at "side") | exact M_lower (by walk_at "side")))
local macro_rules | `(tactic| walk_at "K") => `(tactic| with_reducible first | assumption | exact K_int | exact K_abs | exact K_max | exact K_min | (show CallV (.builtin "len") _ _; exact K_len (by walk_at "side")) | (show CallV (.builtin "divmod") _ _; exact K_divmod (by walk_at "side") (by walk_at "side")))
local macro_rules | `(tactic| walk_at "Ebi") => `(tactic| with_reducible first
  | (show EvE _ _ _ _ (.Call (.Name (Str.ofString "int") _) _ _ _) _ _; exact E_bi bi_int (by walk_at "mem") rfl (by walk_at "L") (by walk_at "K"))
  | (show EvE _ _ _ _ (.Call (.Name (Str.ofString "len") _) _ _ _) _ _; exact E_bi bi_len (by walk_at "mem") rfl (by walk_at "L") (by walk_at "K"))
  | (show EvE _ _ _ _ (.Call (.Name (Str.ofString "abs") _) _ _ _) _ _; exact E_bi bi_abs (by walk_at "mem") rfl (by walk_at "L") (by walk_at "K"))
  | (show EvE _ _ _ _ (.Call (.Name (Str.ofString "max") _) _ _ _) _ _; exact E_bi bi_max (by walk_at "mem") rfl (by walk_at "L") (by walk_at "K"))
  | (show EvE _ _ _ _ (.Call (.Name (Str.ofString "min") _) _ _ _) _ _; exact E_bi bi_min (by walk_at "mem") rfl (by walk_at "L") (by walk_at "K"))
  | (show EvE _ _ _ _ (.Call (.Name (Str.ofString "divmod") _) _ _ _) _ _; exact E_bi bi_divmod (by walk_at "mem") rfl (by walk_at "L") (by walk_at "K"))
  | (show EvE _ _ _ _ (.Call (.Name (Str.ofString "str") _) _ _ _) _ _; exact E_bi bi_str (by walk_at "mem") rfl (by walk_at "L") (by walk_at "K"))
  | (show EvE _ _ _ _ (.Call (.Name (Str.ofString "pow") _) _ _ _) _ _; exact E_bi bi_pow (by walk_at "mem") rfl (by walk_at "L") (by walk_at "K"))
  | (show EvE _ _ _ _ (.Call (.Name (Str.ofString "isinstance") _) _ _ _) _ _; exact E_isint (by walk_at "mem") (by walk_at "mem") (by walk_at "E")))
local macro_rules | `(tactic| walk_at "E") => `(tactic| with_reducible first
  | assumption
  | (show EvE _ _ _ _ (.Name _ _) _ _; first | exact E_name (by walk_at "mem") | exact E_gl (by walk_at "mem") (by walk_at "G"))
  | exact E_int
  | (show EvE _ _ _ _ (.BinOp _ _ _ _) _ _; exact E_bin (by walk_at "E") (by walk_at "E") (by walk_at "B"))
  | exact E_str | exact E_bool | exact E_none
  | (show EvE _ _ _ _ (.UnaryOp _ _ _) _ _; exact E_un (by walk_at "E") (by walk_at "U"))
  | (show EvE _ _ _ _ (.Tuple _ _ _) _ _; exact E_tup (by walk_at "L"))
  | (show EvE _ _ _ _ (.Call (.Name _ _) _ _ _) _ _; first | walk_at "Ebi" | exact E_call (by walk_at "mem") (by walk_at "L") (by assumption))
  | (show EvE _ _ _ _ (.BoolOp .Or [_, _] _) _ _; exact E_orp (by walk_at "E") (by walk_at "side"))
  | (show EvE _ _ _ _ (.Call (.Attribute _ _ _) [] [] _) _ _; exact E_meth0 (by walk_at "E") (by walk_at "M0"))
  | (show EvE _ _ _ _ (.Compare _ [_] [_] _) _ _; exact E_cmp (by walk_at "E") (by walk_at "E") (by walk_at "C")))
local macro_rules | `(tactic| walk_at "T") => `(tactic| with_reducible first
  | assumption
  | (show EvT _ _ _ _ (.UnaryOp .Not _ _) _ _; exact T_not (by walk_at "T")) | (show EvT _ _ _ _ (.Compare _ [_] [_] _) _ _; exact T_cmp (by walk_at "E") (by walk_at "E") (by walk_at "C"))
  | (show EvT _ _ _ _ (.Compare _ [_, _] [_, _] _) _ _; exact T_chain (by walk_at "E") (by walk_at "E") (by walk_at "C") (fun _ => by walk_at "E") (fun _ => by walk_at "C"))
  | (show EvT _ _ _ _ (.BoolOp _ _ _) _ _; exact T_bool (by walk_at "A")) | exact T_val (by walk_at "E") (by walk_at "R"))
local macro_rules | `(tactic| walk_at "A") => `(tactic| with_reducible first
  | exact A_and0 | exact A_or0 | (show EvA _ _ _ _ .And _ _ _; exact A_and (by walk_at "T") (fun _ => by walk_at "A")) | exact A_or (by walk_at "T") (fun _ => by walk_at "A"))
local macro_rules | `(tactic| walk_at "S1") => `(tactic| with_reducible first
  | refine S_pop ?_
  | (show Exs _ _ _ _ ((.Assign [.Name _ _] _ _ :: _) :: _) _; refine S_assign (by walk_at "E") (by walk_at "upd") ?_)
  | (show Exs _ _ _ _ ((.AugAssign _ _ _ _ :: _) :: _) _; refine S_aug (by walk_at "mem") (by walk_at "E") (by walk_at "I") (by walk_at "upd") ?_)
  | (show Exs _ _ _ _ ((.Assign [.Tuple _ _ _] _ _ :: _) :: _) _; refine S_unpack (by walk_at "E") (by walk_at "names") (by walk_at "upds") ?_))
local macro_rules | `(tactic| walk_at "S") => `(tactic| repeat walk_at "S1")
local macro_rules | `(tactic| walk_at "ret") => `(tactic| (with_reducible show Exs _ _ _ _ ((.Return _ _ :: _) :: _) _; with_reducible apply S_ret'; walk_at "E"))
local macro_rules | `(tactic| walk_at "weak") => `(tactic| with_reducible first | exact Weak.nil | (apply Weak.skip; walk_at "weak") | (apply Weak.same; walk_at "weak") | (apply Weak.keep; rotate_left; walk_at "weak"))
local macro_rules | `(tactic| walk_at "end") => `(tactic| ((repeat (with_reducible refine S_pop ?_)); with_reducible apply S_end'; walk_at "weak"))
local macro_rules | `(tactic| walk_at "weak") => `(tactic| with_reducible first | exact Weak.nil | (apply Weak.skip; walk_at "weak") | (apply Weak.same; walk_at "weak") | (apply Weak.keep; rotate_left; walk_at "weak"))
local macro_rules | `(tactic| walk_at "end") => `(tactic| ((repeat (with_reducible refine S_pop ?_)); with_reducible apply S_end'; walk_at "weak"))
local macro_rules | `(tactic| walk_at "M1") => `(tactic| with_reducible first | assumption)
local macro_rules | `(tactic| walk_at "M0") => `(tactic| with_reducible first | assumption)
local macro_rules | `(tactic| walk_at "C") => `(tactic| with_reducible first | assumption)
local macro_rules | `(tactic| walk_at "E") => `(tactic| with_reducible first
  | (show EvE _ _ _ _ (.Call (.Attribute _ _ _) [.Constant _ _ _, .Constant _ _ _] [] _) _ _; exact E_replace' (by walk_at "E") (by assumption) (by decide +kernel) (by walk_at "side"))
  | (show EvE _ _ _ _ (.Call (.Attribute _ _ _) [_] [] _) _ _; exact E_meth1 (by walk_at "E") (by walk_at "E") (by walk_at "M1"))
  | (show EvE _ _ _ _ (.NamedExpr (.Name _ _) _ _) _ _; exact E_named (by walk_at "E") (by walk_at "upd"))
  | (show EvE _ _ _ _ (.Subscript _ (.Constant (.int _) _ _) _) _ _; exact E_listitem (by walk_at "E") (by walk_at "E") (by decide) (by decide) (by with_unfolding_all exact rfl)))
local macro_rules | `(tactic| walk_at "S1") => `(tactic| with_reducible first
  | (show Exs _ _ _ _ ((.Assign [.Tuple [.Name _ _, .Name _ _] _ _] (.Tuple [_, _] _ _) _ :: _) :: _) _; refine S_swap2 (by walk_at "L") (by walk_at "upd") (by walk_at "upd") ?_)
  | (show Exs _ _ _ _ ((.Assign [.Tuple [.Name _ _, .Name _ _, .Name _ _] _ _] (.Tuple [_, _, _] _ _) _ :: _) :: _) _; refine S_swap3 (by walk_at "L") (by walk_at "upd") (by walk_at "upd") (by walk_at "upd") ?_)
  | (show Exs _ _ _ _ ((.Assign [.Tuple _ _ _] _ _ :: _) :: _) _; refine S_unpackL (by walk_at "E") (by walk_at "names") (by walk_at "upds") ?_))
local macro_rules | `(tactic| walk_at "B") => `(tactic| with_reducible first | assumption)
local macro_rules | `(tactic| walk_at "E") => `(tactic| with_reducible (show EvE _ _ _ _ (.Subscript (.Name _ _) (.Constant (.int 0) _ _) _) _ _; refine E_tupitem (j := 0) (by walk_at "E") (by walk_at "E") (by decide) (by decide) (by with_unfolding_all rfl) (by with_unfolding_all rfl)))
local macro_rules | `(tactic| walk_at "E") => `(tactic| with_reducible (show EvE _ _ _ _ (.Subscript (.Name _ _) (.Constant (.int 1) _ _) _) _ _; refine E_tupitem (j := 1) (by walk_at "E") (by walk_at "E") (by decide) (by decide) (by with_unfolding_all rfl) (by with_unfolding_all rfl)))
local macro_rules | `(tactic| walk_at "E") => `(tactic| with_reducible (show EvE _ _ _ _ (.Subscript (.Name _ _) (.Constant (.int 2) _ _) _) _ _; refine E_tupitem (j := 2) (by walk_at "E") (by walk_at "E") (by decide) (by decide) (by with_unfolding_all rfl) (by with_unfolding_all rfl)))
structure LB (b : List Stmt) : Prop where
  ex : ∀ w : World, ∃ (oc : Value) (od : Option Addr) (name qual : Str) (params : Arguments) (scope : Scope) (dV kV doc pm cdv ct : Value) (an : Option Addr) (osl : Array (Option Value)), (KK w).lookup 410 = some ⟨oc, od, .func (fnOf name qual params b scope dV kV doc pm an cdv ct), osl⟩
noncomputable def lawS : {b : List Stmt // LB b} := ⟨_, ⟨fun w => ⟨_, _, _, _, _, _, _, _, _, _, _, _, _, _, by rfl⟩⟩⟩
abbrev lawEnv (d : PV) : PEnv := [("script", some d), ("first", none), ("prec", none), ("scale", none), ("n", none), ("m", none), ("k", none), ("one", none), ("x", none), ("y", none)]
abbrev lawΓ : List Str := ["_law_mixed", "_law_back_right", "mpi_pos", "_law_span", "_law_grid", "_law_signed", "abs", "_law_reach_right", "mpi_from_str", "_law_text", "str", "_law_within", "mpi_add", "mpi_mul", "mpi_div"]
theorem Rd.dec {p : Nat} {c : Bool} {v u : Rat} {z e : Int} (h : Rd p c v z e) (hv : u = v) : pvX p c u = pvM z e := by rw [hv, h.pv]
theorem nrm_bits {z : Int} {k : Nat} (h : intBits z ≤ k) : intBits (nrmZ z) ≤ k := by
  by_cases h0 : z = 0
  · subst h0; rw [nrmZ_zero]; exact h
  · have := nrm_bl h0; omega
theorem ofs_em : Str.ofString "e-" = tx [101, 45] := by decide +kernel
theorem val_int (m : Int) : val m 0 = (m : Rat) := by unfold val; rw [Rat.zpow_zero, Rat.mul_one]
set_option maxHeartbeats 16000000 in
theorem law_ex {w : World} {ns : List Int} (hb : ∀ n ∈ ns, intBits n ≤ 2 ^ 20) (hl : ns.length ≤ 63) : Ex w 12 lawΓ (lawEnv (.list (ns.map .int))) lawS.1 (.ret (.bool true)) := by
  obtain ⟨r0, hr0, M0⟩ := sp_mixed (w := w) (k := 0) hb (by omega) (by omega)
  obtain ⟨r1, hr1, M1⟩ := sp_mixed (w := w) (k := 1) hb (by omega) (by omega)
  obtain ⟨r2, hr2, M2⟩ := sp_mixed (w := w) (k := 2) hb (by omega) (by omega)
  obtain ⟨r3, hr3, M3⟩ := sp_mixed (w := w) (k := 3) hb (by omega) (by omega)
  obtain ⟨r4, hr4, M4⟩ := sp_mixed (w := w) (k := 4) hb (by omega) (by omega)
  generalize hD : PyData.list (ns.map PyData.int) = D at *
  have M0' : FnSpec w 1 "_law_mixed" [D, .int 0] (.int r0) := M0
  have M1' : FnSpec w 1 "_law_mixed" [D, .int 1] (.int r1) := M1
  have M2' : FnSpec w 1 "_law_mixed" [D, .int 2] (.int r2) := M2
  have M3' : FnSpec w 1 "_law_mixed" [D, .int 3] (.int r3) := M3
  have M4' : FnSpec w 1 "_law_mixed" [D, .int 4] (.int r4) := M4
  clear M0 M1 M2 M3 M4 hD hb hl
  -- the precision and the scale
  have fb := fmod_b (a := r0) (b := 60) (by decide)
  have sb := fmod_b (a := r0.fdiv 60) (b := 9) (by decide)
  obtain ⟨p, hp⟩ : ∃ p : Nat, 1 + r0.fmod 60 = (p : Int) := ⟨(1 + r0.fmod 60).toNat, by omega⟩
  obtain ⟨s, hs⟩ : ∃ s : Nat, (r0.fdiv 60).fmod 9 = (s : Int) := ⟨((r0.fdiv 60).fmod 9).toNat, by omega⟩
  have h1 : 1 ≤ p := by omega
  have h2 : p ≤ 60 := by omega
  have hs8 : s ≤ 8 := by omega
  -- the interval
  obtain ⟨lo, hi, e, hlh, hlo, hhi, he1, he2, G⟩ := sp_grid (w := w) (rich := r1)
  have SP := sp_span (w := w) (e := e) hlo hhi
  have IP := sp_ipos (w := w) (p := p) (can_nrm lo e) (can_nrm hi e) h1
  rw [val_nrm, val_nrm] at IP
  obtain ⟨z1, e1, Z1⟩ := rd_ex h1 false (val lo e)
  obtain ⟨z2, e2, Z2⟩ := rd_ex h1 true (val hi e)
  rw [Z1.pv, Z2.pv] at IP
  have mz1 := mag_grid hlo he1 he2
  have mz2 := mag_grid hhi he1 he2
  have sz1 := Z1.sz h1 mz1
  have sz2 := Z2.sz h1 mz2
  have l1 : z1 ≠ 0 → -12 ≤ (intBits z1 : Int) + e1 - 1 := fun h => by have := Z1.low mz1 h; omega
  have l2 : z2 ≠ 0 → -12 ≤ (intBits z2 : Int) + e2 - 1 := fun h => by have := Z2.low mz2 h; omega
  have u1 : z1 ≠ 0 → (intBits z1 : Int) + e1 ≤ 40 := fun h => by have := sz1.hi h; omega
  have u2 : z2 ≠ 0 → (intBits z2 : Int) + e2 ≤ 40 := fun h => by have := sz2.hi h; omega
  have hle : val z1 e1 ≤ val z2 e2 := Rat.le_trans Z1.le (Rat.le_trans (val_le.mpr hlh) Z2.ge)
  obtain ⟨t1, t2, E1, E2, ht⟩ := ends_ex (w := w) h1 h2 Z1.can sz1.bits l1 u1 Z2.can sz2.bits l2 u2 hle
  have BR := sp_backright (w := w) h1 h2 Z1.can Z2.can sz1.bits sz2.bits l1 u1 l2 u2 E1 E2 ht hle
  clear E1 E2 ht hle u1 u2 l1 l2 sz1 sz2 mz1 mz2 Z1 Z2
  -- the numbers
  obtain ⟨n, hn, S2⟩ := sp_signed (w := w) (rich := r2)
  obtain ⟨m, hm, S3⟩ := sp_signed (w := w) (rich := r3)
  obtain ⟨k0, hk0, S4⟩ := sp_signed (w := w) (rich := r4)
  generalize hk : 1 + (k0.natAbs : Int) = k
  have hkp : 0 < k := by omega
  have hk2 : k ≤ 10 ^ 12 := by omega
  have ob := fmod_b (a := r0.fdiv (2 ^ 20)) (b := 10 ^ 3) (by decide)
  have tb := fmod_b (a := r0.fdiv (2 ^ 50)) (b := 10 ^ 5) (by decide)
  generalize hone : (r0.fdiv (2 ^ 20)).fmod (10 ^ 3) = one at ob
  generalize htwo : (r0.fdiv (2 ^ 50)).fmod (10 ^ 5) = two at tb
  have RR := sp_reachright (w := w) (n := n) (one := one) (other := one + two) (s := s) (p := p) h1 h2 hn hs8 ob.1 (by omega) (by omega)
  have T1 : FnSpec w 1 "_law_text" [.int n, .int s] (.str (tx (ltT n s).text)) := sp_text (by omega) (by omega)
  have T2 : FnSpec w 1 "_law_text" [.int m, .int s] (.str (tx (ltT m s).text)) := sp_text (by omega) (by omega)
  have T3 : FnSpec w 1 "_law_text" [.int (n + m), .int s] (.str (tx (ltT (n + m) s).text)) := sp_text (by omega) (by omega)
  have hnm : (n * m).natAbs < 10 ^ 24 := by
    rw [Int.natAbs_mul]
    exact Nat.lt_of_le_of_lt (Nat.mul_le_mul (Nat.le_of_lt_succ (show n.natAbs < (10 ^ 12 - 1) + 1 by omega)) (Nat.le_of_lt_succ (show m.natAbs < (10 ^ 12 - 1) + 1 by omega))) (by decide)
  have T4 : FnSpec w 1 "_law_text" [.int (n * m), .int (2 * (s : Int))] (.str (tx (ltT (n * m) (2 * s)).text)) := by
    have := sp_text (w := w) (n := n * m) (s := 2 * s) (by omega) (by omega)
    rwa [show ((2 * s : Nat) : Int) = 2 * (s : Int) by omega] at this
  -- their values
  obtain ⟨v, hv⟩ : ∃ v : Rat, v = (n : Rat) * (10 : Rat) ^ (-(s : Int)) := ⟨_, rfl⟩
  obtain ⟨u, hu⟩ : ∃ u : Rat, u = (m : Rat) * (10 : Rat) ^ (-(s : Int)) := ⟨_, rfl⟩
  have mX : Mag (-27) (44 : Nat) v := hv ▸ mag8 hs8 (by omega)
  have mY : Mag (-27) (44 : Nat) u := hu ▸ mag8 hs8 (by omega)
  obtain ⟨a1, f1, A1⟩ := rd_ex h1 false v
  obtain ⟨a2, f2, A2⟩ := rd_ex h1 true v
  obtain ⟨b1, g1, B1⟩ := rd_ex h1 false u
  obtain ⟨b2, g2, B2⟩ := rd_ex h1 true u
  have zA1 := A1.sz h1 mX
  have zA2 := A2.sz h1 mX
  have zB1 := B1.sz h1 mY
  have zB2 := B2.sz h1 mY
  have FX := rd_alone (w := w) (ltT_ok (n := n) (s := s) (by omega) (by omega)) h1 (by omega)
  rw [ltT_val (by omega) (by omega), ← hv, A1.pv, A2.pv] at FX
  have FY := rd_alone (w := w) (ltT_ok (n := m) (s := s) (by omega) (by omega)) h1 (by omega)
  rw [ltT_val (by omega) (by omega), ← hu, B1.pv, B2.pv] at FY
  have FE1 := rd_alone (w := w) (eM_ok (m := n) (s := s) (by omega) (by omega)) h1 (by omega)
  rw [eM_val, eM_text, ← hv, A1.pv, A2.pv] at FE1
  obtain ⟨c1, i1, C1⟩ := rd_ex h1 false ((m : Rat) * (10 : Rat) ^ (s : Int))
  obtain ⟨c2, i2, C2⟩ := rd_ex h1 true ((m : Rat) * (10 : Rat) ^ (s : Int))
  have FE2 := rd_alone (w := w) (eP_ok (m := m) (s := s) (by omega) (by omega)) h1 (by omega)
  rw [eP_val, eP_text, C1.pv, C2.pv] at FE2
  have hms : (m * 10 ^ s).natAbs < 10 ^ 30 := by
    rw [Int.natAbs_mul, Int.natAbs_pow]
    have t1 : (10 : Nat) ^ s ≤ 10 ^ 8 := Nat.pow_le_pow_right (by decide) hs8
    exact Nat.lt_of_le_of_lt (Nat.mul_le_mul (Nat.le_of_lt hm) t1) (by decide)
  have FE3 := rd_alone (w := w) (iT_ok (m := m * 10 ^ s) hms) h1 (by omega)
  rw [iT_val, iT_text, Rat.intCast_mul, ten_nat, C1.pv, C2.pv] at FE3
  -- the sum
  have hsum : ((n + m : Int) : Rat) * (10 : Rat) ^ (-(s : Int)) = v + u := by rw [hv, hu, Rat.intCast_add, Rat.add_mul]
  have mS : Mag (-27) (44 : Nat) (v + u) := hsum ▸ mag8 hs8 (by omega)
  obtain ⟨d1, j1, D1⟩ := rd_ex h1 false (v + u)
  obtain ⟨d2, j2, D2⟩ := rd_ex h1 true (v + u)
  have FS := rd_alone (w := w) (ltT_ok (n := n + m) (s := s) (by omega) (by omega)) h1 (by omega)
  rw [ltT_val (by omega) (by omega), hsum, D1.pv, D2.pv] at FS
  have IA := sp_iadd (w := w) A1.can A2.can B1.can B2.can h1 (addok_of zA1 zB1 (by omega) (by omega) (by omega) (by omega) (by omega) (by omega) (by omega) (by omega) (by omega)) (addok_of zA2 zB2 (by omega) (by omega) (by omega) (by omega) (by omega) (by omega) (by omega) (by omega) (by omega))
  obtain ⟨q1, w1, Q1⟩ := rd_ex h1 false (val a1 f1 + val b1 g1)
  obtain ⟨q2, w2, Q2⟩ := rd_ex h1 true (val a2 f2 + val b2 g2)
  rw [Q1.pv, Q2.pv] at IA
  have yA1 := zA1.dy (by omega) (by omega)
  have yA2 := zA2.dy (by omega) (by omega)
  have yB1 := zB1.dy (by omega) (by omega)
  have yB2 := zB2.dy (by omega) (by omega)
  have leA1 := A1.le
  have geA2 := A2.ge
  have leB1 := B1.le
  have geB2 := B2.ge
  have WA := alone_within (w := w) h1 h2 D1 D2 Q1 Q2 Rat.le_refl (by grind) (by grind) ((D1.sz h1 mS).sml (by omega) (by omega) (by omega)) ((D2.sz h1 mS).sml (by omega) (by omega) (by omega))
    ((Q1.sz h1 (yA1.mag yB1)).sml (by omega) (by omega) (by omega)) ((Q2.sz h1 (yA2.mag yB2)).sml (by omega) (by omega) (by omega))
  -- the product
  have hprd : ((n * m : Int) : Rat) * (10 : Rat) ^ (-((2 * s : Nat) : Int)) = v * u := by
    rw [hv, hu, Rat.intCast_mul, show (-((2 * s : Nat) : Int)) = -(s : Int) + -(s : Int) by omega, Rat.zpow_add (by decide)]
    grind
  have mP : Mag (-54) (80 : Nat) (v * u) := hprd ▸ mag16 (by omega) hnm
  obtain ⟨x1, o1, X1⟩ := rd_ex h1 false (v * u)
  obtain ⟨x2, o2, X2⟩ := rd_ex h1 true (v * u)
  have FP := rd_alone (w := w) (ltT_ok (n := n * m) (s := 2 * s) (by omega) (by omega)) h1 (by omega)
  rw [ltT_val (by omega) (by omega), hprd, X1.pv, X2.pv] at FP
  have kA1 := zA1.bits; have kA2 := zA2.bits; have kB1 := zB1.bits; have kB2 := zB2.bits
  obtain ⟨PA, PB, hPA, hPB, pA, pB, IM⟩ := sp_imul (w := w) A1.can A2.can B1.can B2.can h1 (side_of mX A1 A2) (side_of mY B1 B2) (by omega) (by omega) (by omega) (by omega) leA1 geA2 leB1 geB2
  obtain ⟨y1, v1, Y1⟩ := rd_ex h1 false PA
  obtain ⟨y2, v2, Y2⟩ := rd_ex h1 true PB
  rw [Y1.pv, Y2.pv] at IM
  have WM := alone_within (w := w) h1 h2 X1 X2 Y1 Y2 Rat.le_refl hPA hPB ((X1.sz h1 mP).sml (by omega) (by omega) (by omega)) ((X2.sz h1 mP).sml (by omega) (by omega) (by omega))
    ((Y1.sz h1 (prd_mag pA zA1 zA2 zB1 zB2 (by omega) (by omega))).sml (by omega) (by omega) (by omega)) ((Y2.sz h1 (prd_mag pB zA1 zA2 zB1 zB2 (by omega) (by omega))).sml (by omega) (by omega) (by omega))
  -- the quotient
  have FD := rd_frac (w := w) hn hkp hk2 h1 (by omega)
  obtain ⟨k1, r1', K1⟩ := rd_ex h1 false ((n : Rat) / (k : Rat))
  obtain ⟨k2, r2', K2⟩ := rd_ex h1 true ((n : Rat) / (k : Rat))
  rw [K1.pv, K2.pv] at FD
  have FN : FnSpec w 11 "mpi_from_str" [.str (tx (itx n)), .int 99] (pvI (pvM (nrmZ n) (nrmE n 0)) (pvM (nrmZ n) (nrmE n 0))) := by
    have := rd_alone (w := w) (iT_ok (m := n) (by omega)) (p := 99) (by omega) (by omega)
    rwa [iT_val, iT_text, exact99 (by omega), exact99 (by omega)] at this
  have FK : FnSpec w 11 "mpi_from_str" [.str (tx (itx k)), .int 99] (pvI (pvM (nrmZ k) (nrmE k 0)) (pvM (nrmZ k) (nrmE k 0))) := by
    have := rd_alone (w := w) (iT_ok (m := k) (by omega)) (p := 99) (by omega) (by omega)
    rwa [iT_val, iT_text, exact99 (by omega), exact99 (by omega)] at this
  have nk : 0 < nrmZ k := (val_pos (e := nrmE k 0)).mp (by rw [val_nrm]; exact val_pos.mpr hkp)
  have ID := sp_idiv (w := w) (can_nrm n 0) (can_nrm k 0) nk h1 (nrm_bits (bits_of (k := 8000) (Nat.lt_trans hn (by decide +kernel)))) (nrm_bits (bits_of (k := 8000) (Nat.lt_of_le_of_lt (show k.natAbs ≤ 10 ^ 12 by omega) (by decide +kernel)))) (by omega)
  rw [val_nrm, val_nrm, val_int, val_int, K1.pv, K2.pv] at ID
  -- texts of ints
  have ks1 := k_str (m := n) (by omega)
  have ks2 := k_str (m := m) (by omega)
  have ks3 : CallV (.type "str") [.int (s : Int)] (.str (tx (ntx s))) := by
    have := k_str (m := (s : Int)) (by omega)
    rwa [itx_nat] at this
  have ks4 := k_str hms
  have ks5 := k_str (m := k) (by omega)
  have L1 := itx_len (n := n) (k := 30) (by decide) (by omega)
  have L2 := itx_len (n := m) (k := 30) (by decide) (by omega)
  have L3 := ntx_len (m := s) (k := 2) (by decide) (by omega)
  have L4 := itx_len (n := m * 10 ^ s) (k := 30) (by decide) hms
  have L5 := itx_len (n := k) (k := 30) (by decide) (by omega)
  have p20 := B_pow2 (k := 20) (by decide) (by decide)
  have p50 := B_pow2 (k := 50) (by decide) (by decide)
  have t3 : BinV .Pow (.int 10) (.int 3) (.int (10 ^ Int.toNat 3)) := B_pow (by decide) (by rw [bits10]; decide)
  have t5 : BinV .Pow (.int 10) (.int 5) (.int (10 ^ Int.toNat 5)) := B_pow (by decide) (by rw [bits10]; decide)
  have d20 : BinV .FloorDiv (.int r0) (.int (2 ^ Int.toNat 20)) (.int (r0.fdiv (2 ^ 20))) := D_small (by decide) (by decide +kernel)
  have d50 : BinV .FloorDiv (.int r0) (.int (2 ^ Int.toNat 50)) (.int (r0.fdiv (2 ^ 50))) := D_small (by decide) (by decide +kernel)
  have m3 : BinV .Mod (.int (r0.fdiv (2 ^ 20))) (.int (10 ^ Int.toNat 3)) (.int one) := hone ▸ B_mod (by decide)
  have m5 : BinV .Mod (.int (r0.fdiv (2 ^ 50))) (.int (10 ^ Int.toNat 5)) (.int two) := htwo ▸ B_mod (by decide)
  have m60 : BinV .Mod (.int r0) (.int 60) (.int (r0.fmod 60)) := B_mod (by decide)
  have a60 : BinV .Add (.int 1) (.int (r0.fmod 60)) (.int p) := hp ▸ B_add
  have d60 : BinV .FloorDiv (.int r0) (.int 60) (.int (r0.fdiv 60)) := D_small (by decide) (by decide +kernel)
  have m9 : BinV .Mod (.int (r0.fdiv 60)) (.int 9) (.int s) := hs ▸ B_mod (by decide)
  have ak : BinV .Add (.int 1) (.int k0.natAbs) (.int k) := hk ▸ B_add
  have ps : BinV .Pow (.int 10) (.int s) (.int (10 ^ s)) := B_pow (a := 10) (b := (s : Int)) (by omega) (by rw [bits10]; omega)
  have mms : BinV .Mult (.int m) (.int (10 ^ s)) (.int (m * 10 ^ s)) := B_mul (.of_right (bits_of (by
    rw [Int.natAbs_pow]
    have t1 : (10 : Nat) ^ s ≤ 10 ^ 8 := Nat.pow_le_pow_right (by decide) hs8
    exact Nat.lt_of_le_of_lt t1 (by decide))))
  have mnm : BinV .Mult (.int n) (.int m) (.int (n * m)) := B_mul (.of_left (Nat.le_trans (bits_of (k := 40) (by omega)) (by decide)))
  have m2s : BinV .Mult (.int 2) (.int s) (.int (2 * (s : Int))) := B_mul (.of_left (by decide +kernel))
  suffices h : Exs w 12 lawΓ (lawEnv D) [lawS.1] (.ret (.bool true)) by simpa [Exs] using h
  unfold lawS
  dsimp only
  refine S_assign (E_call (by walk_at "mem") (by walk_at "L") M0') (by walk_at "upd") ?_
  refine S_swap2 (L_cons (E_bin (by walk_at "E") (E_bin (by walk_at "E") (by walk_at "E") m60) a60) (L_cons (E_bin (E_bin (by walk_at "E") (by walk_at "E") d60) (by walk_at "E") m9) L_nil)) (by walk_at "upd") (by walk_at "upd") ?_
  refine S_if (T_not (T_val (E_call (by walk_at "mem") (L_cons (E_call (by walk_at "mem") (L_cons (E_call (by walk_at "mem") (L_cons (E_call (by walk_at "mem") (L_cons (E_call (by walk_at "mem") (by walk_at "L") M1') L_nil) G) L_nil) SP) (by walk_at "L")) IP) (by walk_at "L")) BR) R_bool)) (fun h => by cases h) (fun _ => ?_)
  refine S_swap3 (L_cons (E_call (by walk_at "mem") (L_cons (E_call (by walk_at "mem") (by walk_at "L") M2') L_nil) S2) (L_cons (E_call (by walk_at "mem") (L_cons (E_call (by walk_at "mem") (by walk_at "L") M3') L_nil) S3) (L_cons (E_bin (by walk_at "E") (E_eq (E_bi bi_abs (by walk_at "mem") rfl (L_cons (E_call (by walk_at "mem") (L_cons (E_call (by walk_at "mem") (by walk_at "L") M4') L_nil) S4) L_nil) K_abs) (congrArg PyData.int (absif k0))) ak) L_nil))) (by walk_at "upd") (by walk_at "upd") (by walk_at "upd") ?_
  refine S_assign (E_bin (E_bin (by walk_at "E") (E_bin (by walk_at "E") (by walk_at "E") p20) d20) (E_bin (by walk_at "E") (by walk_at "E") t3) m3) (by walk_at "upd") ?_
  refine S_if (T_not (T_val (E_call (by walk_at "mem") (L_cons (by walk_at "E") (L_cons (by walk_at "E") (L_cons (by walk_at "E") (L_cons (E_bin (by walk_at "E") (E_bin (E_bin (by walk_at "E") (E_bin (by walk_at "E") (by walk_at "E") p50) d50) (E_bin (by walk_at "E") (by walk_at "E") t5) m5) B_add) (L_cons (by walk_at "E") L_nil))))) RR) R_bool)) (fun h => by cases h) (fun _ => ?_)
  refine S_swap2 (L_cons (E_call (by walk_at "mem") (L_cons (E_call (by walk_at "mem") (by walk_at "L") T1) (by walk_at "L")) FX) (L_cons (E_call (by walk_at "mem") (L_cons (E_call (by walk_at "mem") (by walk_at "L") T2) (by walk_at "L")) FY) L_nil)) (by walk_at "upd") (by walk_at "upd") ?_
  refine S_if (T_eq (b₂ := false) (T_bool (A_or (T_cmp (E_call (by walk_at "mem") (L_cons (E_eq (b := .str (tx (itx n ++ 101 :: 45 :: ntx s))) (E_bin (E_bin (E_bi bi_str (by walk_at "mem") rfl (by walk_at "L") ks1) (by walk_at "E") (B_adds (by rw [ofs_em]; exact tx_add_sz (by omega) (by decide)))) (E_bi bi_str (by walk_at "mem") rfl (by walk_at "L") ks3) (B_adds (by rw [ofs_em, tx_add]; exact tx_add_sz (by simp; omega) (by omega)))) (by rw [ofs_em, tx_add, tx_add]; simp)) (by walk_at "L")) FE1) (by walk_at "E") ne_no)
    (fun _ => A_or (T_cmp (E_call (by walk_at "mem") (L_cons (E_eq (b := .str (tx (itx m ++ 101 :: ntx s))) (E_bin (E_bin (E_bi bi_str (by walk_at "mem") rfl (by walk_at "L") ks2) (by walk_at "E") (B_adds (by rw [ofs_e]; exact tx_add_sz (by omega) (by decide)))) (E_bi bi_str (by walk_at "mem") rfl (by walk_at "L") ks3) (B_adds (by rw [ofs_e, tx_add]; exact tx_add_sz (by simp; omega) (by omega)))) (by rw [ofs_e, tx_add, tx_add]; simp)) (by walk_at "L")) FE2)
      (E_call (by walk_at "mem") (L_cons (E_bi bi_str (by walk_at "mem") rfl (L_cons (E_bin (by walk_at "E") (E_bin (by walk_at "E") (by walk_at "E") ps) mms) L_nil) ks4) (by walk_at "L")) FE3) ne_no) (fun _ => A_or0)))) rfl) (fun h => by cases h) (fun _ => ?_)
  refine S_if (T_not (T_val (E_call (by walk_at "mem") (L_cons (E_call (by walk_at "mem") (L_cons (E_call (by walk_at "mem") (L_cons (E_bin (by walk_at "E") (by walk_at "E") B_add) (by walk_at "L")) T3) (by walk_at "L")) FS) (L_cons (E_call (by walk_at "mem") (by walk_at "L") IA) L_nil)) WA) R_bool)) (fun h => by cases h) (fun _ => ?_)
  refine S_if (T_not (T_val (E_call (by walk_at "mem") (L_cons (E_call (by walk_at "mem") (L_cons (E_call (by walk_at "mem") (L_cons (E_bin (by walk_at "E") (by walk_at "E") mnm) (L_cons (E_bin (by walk_at "E") (by walk_at "E") m2s) L_nil)) T4) (by walk_at "L")) FP) (L_cons (E_call (by walk_at "mem") (by walk_at "L") IM) L_nil)) WM) R_bool)) (fun h => by cases h) (fun _ => ?_)
  exact S_ret' (E_cmp (E_call (by walk_at "mem") (L_cons (E_eq (b := .str (tx (itx n ++ 47 :: itx k))) (E_bin (E_bin (E_bi bi_str (by walk_at "mem") rfl (by walk_at "L") ks1) (by walk_at "E") (B_adds (by rw [ofs_sl]; exact tx_add_sz (by omega) (by decide)))) (E_bi bi_str (by walk_at "mem") rfl (by walk_at "L") ks5) (B_adds (by rw [ofs_sl, tx_add]; exact tx_add_sz (by simp; omega) (by omega)))) (by rw [ofs_sl, tx_add, tx_add]; simp)) (by walk_at "L")) FD)
    (E_call (by walk_at "mem") (L_cons (E_call (by walk_at "mem") (L_cons (E_bi bi_str (by walk_at "mem") rfl (by walk_at "L") ks1) (by walk_at "L")) FN) (L_cons (E_call (by walk_at "mem") (L_cons (E_bi bi_str (by walk_at "mem") rfl (by walk_at "L") ks5) (by walk_at "L")) FK) (by walk_at "L"))) ID) eq_yes) rfl
end Mine
end

-- Fin
namespace Mine
open PySem.Builtin.Int (intBits)
theorem bits_of_lay {ns : List Int} (h : (PyData.list (ns.map PyData.int)).layable0 = true) : ∀ n ∈ ns, intBits n ≤ 2 ^ 20 := by
  have hw : PyData.weightAll (ns.map PyData.int) ≤ 2 ^ 20 := by
    simp only [PyData.layable0, Bool.and_eq_true, decide_eq_true_eq] at h
    have := h.2
    simpa only [PyData.weight] using this
  clear h
  induction ns with
  | nil => intro n hn; cases hn
  | cons a r ih =>
    simp only [List.map_cons, PyData.weightAll] at hw
    have e : (PyData.int a).weight = intBits a := by simp only [PyData.weight, intBits]
    rw [e] at hw
    intro n hn
    rcases List.mem_cons.mp hn with rfl | hn
    · omega
    · exact ih (by omega) n hn
theorem law_end {w : World} {nm : Str} {scope : Scope} {L a lst : Addr} {cd : Value} {A : Around} {h₀ : Heap} {s : Shared} {Q : Flow → Shared → Prop} {E : Value → Shared → Prop} {ns : List Int} {as : List Addr} {m : Str → Option Value}
    (hEx : Ex w 12 lawΓ (lawEnv (.list (ns.map .int))) lawS.1 (.ret (.bool true)))
    (hsc : scopeOk scope lawΓ ((["script"] : List Str) ++ (["first", "prec", "scale", "n", "m", "k", "one", "x", "y"] : List Str)) = true) (R : Room 12 A) (hp : 0 < s.toks) (F : Fr h₀ L s.heap m) (hm : m "script" = some (.ref lst))
    (hr : Reads h₀ (.ref lst) (.list (ns.map .int)) as) (K : (KK w).In h₀) (T : ∃ p loose mean mg mb, Top p loose mean mg mb h₀)
    (h : ∀ h' tk m', Fr h₀ L h' m' → Q (.ret (.bool true)) { s with heap := h', toks := tk }) : wpAny (model pg w) A (execs lawS.1 (envOf nm scope L a cd)) Q E s := by
  have hnd : noDict (.list (ns.map PyData.int)) = true := by
    have : ∀ l : List Int, noDicts (l.map PyData.int) = true := fun l => by
      induction l with
      | nil => rfl
      | cons x r ih => simp [noDicts, noDict, ih]
    simpa [noDict] using this ns
  simp only [scopeOk, Bool.and_eq_true, decide_eq_true_eq, List.all_eq_true] at hsc
  obtain ⟨⟨⟨⟨⟨⟨k1, _⟩, _⟩, _⟩, k2⟩, k3⟩, k4⟩ := hsc
  have I : Inv w scope lawΓ L h₀ s.heap (lawEnv (.list (ns.map .int))) := by
    refine ⟨⟨m, F, fun x d hx => ?_⟩, ⟨K, T⟩, by simpa using k1, k4, fun x hx => ?_, fun x hx => ?_⟩
    · have hx' : x = ("script" : Str) ∧ d = .list (ns.map .int) := by
        simpa [lawEnv] using hx
      obtain ⟨rfl, rfl⟩ := hx'
      exact ⟨_, hm, (show Rep h₀ _ _ from ⟨hnd, _, hr⟩).grow F.keep⟩
    · have := k2 x hx
      simp only [Bool.and_eq_true, beq_iff_eq, Bool.not_eq_true'] at this
      exact this
    · have := k3 x hx
      simp only [Bool.and_eq_true, beq_iff_eq, Bool.not_eq_true'] at this
      exact this
  refine hEx.run nm scope L a cd A h₀ s Q E I R hp fun fl h' tk hp' ok g => ?_
  obtain ⟨v, ρ, rfl, rv, I'⟩ := ok
  obtain rfl := rv.bool
  obtain ⟨m', F', _⟩ := I'.fr
  exact h h' tk m' F'
end Mine
set_option maxHeartbeats 8000000 in
theorem PySem.Challenge.cw_aj5022_01_holds : PySem.Challenge.rw_aj5022_01.Holds :=
  Mine.hd (by
  w_strict (k_go0; (all_goals try k_fold)
            refine Mine.law_end (Mine.law_ex (Mine.bits_of_lay (by assumption)) (Int.ofNat_le.mp (Int.not_lt.mp (by assumption)))) (by decide +kernel) ⟨Nat.le_of_ble_eq_true (by with_unfolding_all rfl), Nat.le_of_ble_eq_true (by with_unfolding_all rfl), by with_unfolding_all rfl⟩ (Nat.succ_pos _) (by assumption) (by rfl) (by assumption) (by assumption) ⟨_, _, _, _, _, by assumption⟩ ?_
            intro h' tk m' F'
            exact goodW_bool F' (by assumption) (fun _ => rfl) (postW_of (by wrow_shape) (w_eq_bool (w_res rfl) w_lit) (by rfl)) rfl))
