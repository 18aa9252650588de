import PyProof.Rows.All
import Wide.All
import OpenK.AllK
import Wide.FinOn
import Lean
import PySem.Challenge.RW_wz0007_01
open PySem PySem.W PyProof.Rows
set_option Elab.async false
set_option maxRecDepth 100000
set_option linter.unusedVariables false
set_option linter.unusedSimpArgs false
set_option linter.unusedSectionVars false
set_option linter.deprecated false
namespace Mine
section
theorem al {α : Type} {P : α -> Prop} {a : α} {l : List α} (h : P a) (t : ∀ b ∈ l, P b) : ∀ b ∈ a :: l, P b := List.forall_mem_cons.mpr ⟨h, t⟩
theorem an {α : Type} {P : α -> Prop} : ∀ b ∈ ([] : List α), P b := List.forall_mem_nil P
theorem byc {P : Prop} (h : (P -> False) -> False) : P := Classical.byContradiction h
theorem runs_toks {M : Model} {Γ : Ctx} {p : Pos} {t : Sem Fin} {fs : List Frame} {s s' : Shared} {e : End} (h : Runs M Γ p t fs s e s') : s.toks <= s'.toks := by
 induction h
 all_goals first
  | exact Nat.le_refl _
  | assumption
  | (rename_i ih; exact ih)
  | (rename_i ih; exact Nat.le_trans (Nat.le_succ _) ih)
  | (rename_i ih1 ih2; exact Nat.le_trans ih1 ih2)
  | (rename_i ih1 ih2; exact ih1)
  | skip
theorem wakes_toks {M : Model} {Γ : Ctx} {p : Pos} {g : Nat} {r : Resume} {s s' : Shared} {res : GenResult} (h : Wakes M Γ p g r s res s') : s.toks <= s'.toks := by
 unfold Wakes at h
 split at h
 ·exact h.elim
 ·split at h
  ·obtain ⟨e, s₁, hr, _, _, rfl⟩ := h
   have := runs_toks hr
   exact this
  ·obtain ⟨_, rfl⟩ := h; exact Nat.le_refl _
  ·obtain ⟨_, rfl⟩ := h; exact Nat.le_refl _
 ·obtain ⟨e, s₁, hr, _, _, rfl⟩ := h
  have := runs_toks hr
  exact this
 ·obtain ⟨_, rfl⟩ := h; exact Nat.le_refl _
 ·obtain ⟨_, rfl⟩ := h; exact Nat.le_refl _
theorem wp_toks {α : Type} {M : Model} {Γ : Ctx} {n : Nat} {Q : α -> Pos -> Shared -> Prop} {E : Value -> Pos -> Shared -> Prop} : ∀ (t : Sem α) (p : Pos) (s : Shared), n <= s.toks ->
  Sem.wp M Γ t (fun a p s' => n <= s'.toks -> Q a p s') (fun e p s' => n <= s'.toks -> E e p s') p s -> Sem.wp M Γ t Q E p s := by
 intro t
 induction t
 all_goals intro p s hn h
 case pure a => exact h hn
 case raise e => exact h hn
 case unsupported w => exact h
 case finish e => exact h
 case rule tag k ih => exact ih () p s hn h
 case «at» q k ih => exact ih () q s hn h
 case load a part k ih => obtain ⟨o, ho, h⟩ := h; exact ⟨o, ho, ih o p s hn h⟩
 case update a part f k ih => exact ⟨h.1, ih () p _ hn h.2⟩
 case alloc o k ih => exact ih _ p _ hn h
 case loadIfAlive a k ih => exact ih _ p s hn h
 case point l k ih => exact ih () p s hn h
 case register a k ih => exact h
 case fresh k ih => exact ih _ p _ (Nat.le_succ_of_le hn) h
 case ask k ih => exact ih _ p s hn h
 case choose src n k ih => exact ⟨h.1, ih _ p _ hn h.2⟩
 case os q l k ih => exact ih _ p _ hn h
 case call c hd g l k ih =>
  obtain ⟨r, s', hr, h⟩ := h
  exact ⟨r, s', hr, ih r p s' (Nat.le_trans hn (runs_toks hr)) h⟩
 case handled own k ih => exact ih _ p s hn h
 case newGen c k ih => exact ih _ p _ hn h
 case genState g k ih => obtain ⟨st, e, h⟩ := h; exact ⟨st, e, ih _ p s hn h⟩
 case resume g r l k ih =>
  obtain ⟨res, s', hr, h⟩ := h
  exact ⟨res, s', hr, ih res p s' (Nat.le_trans hn (wakes_toks hr)) h⟩
 case yield v g l k ih => exact h
 case stack k ih => exact ih _ p s hn h
 case fork c k ih => exact h
 case thread k ih => exact ih _ p s hn h
 case await a tk ti l k ih => exact h
theorem wpAny_toks {α : Type} {M : Model} {A : Around} {t : Sem α} {Q : α -> Shared -> Prop} {E : Value -> Shared -> Prop} {s : Shared} (h : wpAny M A t (fun a s' => s.toks <= s'.toks -> Q a s') (fun e s' => s.toks <= s'.toks -> E e s') s) : wpAny M A t Q E s :=
 fun Γ p hΓ => wp_toks t p s (Nat.le_refl _) (h Γ p hΓ)
theorem Qbj {α : Type} {M : Model} {A : Around} {t : Sem α} {Q : α -> Shared -> Prop} {E : Value -> Shared -> Prop} {s : Shared} (hp : 0 < s.toks) (h : wpAny M A t (fun a s' => 0 < s'.toks -> Q a s') E s) : wpAny M A t Q E s :=
 wpAny_toks (wpAny_mono h (fun a s' q le => q (Nat.lt_of_lt_of_le hp le)) (fun e s' q _ => q))
end
section
set_option tactic.hygienic false
noncomputable abbrev Pr : Program := PySem.Challenge.pw_wz0007_01
inductive PV where
 | none
 | bool (b : Bool)
 | int (i : Int)
 | str (s : Str)
 | bytes (b : Array UInt8)
 | raw (v : Value)
 | rng (a b c : Int)
 | tup (l : List PV)
 | lst (l : List PV)
 | dctI (l : List (Int × PV))
 | dctS (l : List (Str × PV))
 | judge (way : Int)
structure Cfg where
 w : World
 h0 : Heap
 os0 : OsState
 PT : Addr
 tc : Addr
 ps0 : Array Value
 mg : Str -> Option Value
 mb : Str -> Option Value
 CT : Addr
noncomputable abbrev Mo (C : Cfg) : Model := model Pr C.w
noncomputable abbrev IK (C : Cfg) : KeyKind Pr C.w Int := intKind Pr C.w
noncomputable abbrev SK (C : Cfg) : KeyKind Pr C.w Str := strKind Pr C.w
noncomputable def Obj.cont (o : Obj) : Prop := (∃ xs n, o.data = .seq xs n) ∨ (∃ es n, o.data = .dict es n) ∨ o.data = .plain ∨ (o.cls = .type "range" /\ ∃ vs, o.data = .fields vs)
noncomputable abbrev Qay (cls : String) (vs : List Value) (n : Nat) : Obj := { cls := .type cls, data := .seq vs.toArray n }
noncomputable def Qep {prog : Program} {w : World} {K : Type} [DecidableEq K] (h : Heap) (knd : KeyKind prog w K) (a : Addr) (kvs : List (K × Value)) : Prop := h.DictOf knd a kvs /\ h.NoDictAt (.ref a)
inductive IsRng (X : Addr -> Prop) (h : Heap) (a b c : Int) (v : Value) : Prop
 | mk (r : Addr) (t u w : Nat) (e : v = .ref r) (nx : ¬ X r) (hr : IsRange h r a b c t u w)
inductive IsSeq (X : Addr -> Prop) (h : Heap) (cls : String) (P : List Value -> Prop) (v : Value) : Prop
 | mk (a : Addr) (vs : List Value) (n : Nat) (e : v = .ref a) (nx : ¬ X a) (ho : h.get? a = some (Qay cls vs n)) (r : P vs)
inductive IsDct {K : Type} (X : Addr -> Prop) (D : Addr -> List (K × Value) -> Prop) (P : List (K × Value) -> Prop) (v : Value) : Prop
 | mk (a : Addr) (kvs : List (K × Value)) (e : v = .ref a) (nx : ¬ X a /\ a ≠ sysModules) (hd : D a kvs) (r : P kvs)
inductive IsJudge (C : Cfg) (X : Addr -> Prop) (h : Heap) (way : Int) (v : Value) : Prop
 | mk (a dx t t1 t2 : Addr) (k1 k2 k3 k4 n n1 n2 : Nat) (es : Array DictEntry) (sl : Array (Option Value)) (dn : Nat) (e : v = .ref a) (xa : ¬ X a) (ha : h.get? a = some { cls := .ref C.CT, dict := some dx, data := .plain, slots := sl })
   (xd : ¬ X dx) (hd : h.get? dx = some { cls := .type "dict", data := .dict es dn }) (sk : True) (f1 : lookIn "comp_select_list" { cls := .type "dict", data := .dict es dn } = some (some (.ref t))) (f2 : lookIn "compare" { cls := .type "dict", data := .dict es dn } = some .none)
   (xt : ¬ X t) (ht : h.get? t = some (Qay "tuple" [.ref t1, .ref t2] n)) (x1 : ¬ X t1) (h1 : h.get? t1 = some (Qay "tuple" [.int 1 k1, .int 7 k2] n1)) (x2 : ¬ X t2) (h2 : h.get? t2 = some (Qay "tuple" [.int 2 k3, .int way k4] n2))
inductive IsCons {α : Type} (P : α -> Prop) (Q : List α -> Prop) (vs : List α) : Prop
 | mk (v : α) (r : List α) (e : vs = v :: r) (h1 : P v) (h2 : Q r)
mutual
noncomputable def Rel (C : Cfg) (X : Addr -> Prop) (h : Heap) : PV -> Value -> Prop
 | .none, v => v = .none
 | .bool b, v => v = .bool b
 | .int i, v => ∃ t, v = .int i t
 | .str s, v => ∃ t, v = .str s t
 | .bytes b, v => ∃ t, v = .bytes b t
 | .raw r, v => v = r
 | .rng a b c, v => IsRng X h a b c v
 | .tup l, v => IsSeq X h "tuple" (RelL C X h l) v
 | .lst l, v => IsSeq X h "list" (RelL C X h l) v
 | .dctI l, v => IsDct X (Qep h (IK C)) (RelI C X h l) v
 | .dctS l, v => IsDct X (Qep h (SK C)) (RelS C X h l) v
 | .judge way, v => IsJudge C X h way v
noncomputable def RelL (C : Cfg) (X : Addr -> Prop) (h : Heap) : List PV -> List Value -> Prop
 | [], vs => vs = []
 | d :: l, vs => IsCons (Rel C X h d) (RelL C X h l) vs
noncomputable def RelI (C : Cfg) (X : Addr -> Prop) (h : Heap) : List (Int × PV) -> List (Int × Value) -> Prop
 | [], vs => vs = []
 | (k, d) :: l, vs => ∃ v r, vs = (k, v) :: r /\ Rel C X h d v /\ RelI C X h l r
noncomputable def RelS (C : Cfg) (X : Addr -> Prop) (h : Heap) : List (Str × PV) -> List (Str × Value) -> Prop
 | [], vs => vs = []
 | (k, d) :: l, vs => ∃ v r, vs = (k, v) :: r /\ Rel C X h d v /\ RelS C X h l r
end
noncomputable def Cont (X : Addr -> Prop) (h h' : Heap) : Prop := ∀ b o, ¬ X b -> Obj.cont o -> h.get? b = some o -> h'.get? b = some o
theorem Qbf {cls : String} {vs : List Value} {n : Nat} : Obj.cont (Qay cls vs n) := .inl ⟨_, _, rfl⟩
theorem dictOf_cont {C : Cfg} {K : Type} [DecidableEq K] {knd : KeyKind Pr C.w K} {h h' : Heap} {a : Addr} {kvs : List (K × Value)} {X : Addr -> Prop} (k : Cont X h h') (ha : ¬ X a) (x : Qep h knd a kvs) : Qep h' knd a kvs := by
 obtain ⟨⟨o, es, ep, ho, hc, hd, r⟩, o', ho', hn⟩ := x
 rw [ho] at ho'; cases ho'
 have := k a o ha (.inr (.inl ⟨es, ep, hd⟩)) ho
 exact ⟨⟨o, es, ep, this, hc, hd, r⟩, o, this, hn⟩
theorem dictN_at {C : Cfg} {K : Type} [DecidableEq K] {knd : KeyKind Pr C.w K} {h h' : Heap} {a : Addr} {kvs : List (K × Value)} (x : Qep h knd a kvs) (k : ∀ o, Obj.cont o -> h.get? a = some o -> h'.get? a = some o) : Qep h' knd a kvs := by
 obtain ⟨⟨o, es, ep, ho, hc, hd, r⟩, o', ho', hn⟩ := x
 rw [ho] at ho'; cases ho'
 have := k o (.inr (.inl ⟨es, ep, hd⟩)) ho
 exact ⟨⟨o, es, ep, this, hc, hd, r⟩, o, this, hn⟩
mutual
theorem Rel.mono {C : Cfg} {X Y : Addr -> Prop} {h h' : Heap} (hX : ∀ a o, h.get? a = some o -> Y a -> X a) (k : Cont X h h') : ∀ (d : PV) {v : Value}, Rel C X h d v -> Rel C Y h' d v
 | .none, _, e => by exact e
 | .bool _, _, e => by exact e
 | .int _, _, e => by exact e
 | .str _, _, e => by exact e
 | .bytes _, _, e => by exact e
 | .raw _, _, e => by exact e
 | .rng _ _ _, _, e => by
  obtain ⟨r, t, u, w, rfl, hx, hr⟩ := e
  exact ⟨r, t, u, w, rfl, fun y => hx (hX _ _ hr y), k _ _ hx (.inr (.inr (.inr ⟨rfl, _, rfl⟩))) hr⟩
 | .tup l, _, e => by
  obtain ⟨a, vs, n, rfl, hx, ho, hl⟩ := e
  exact ⟨a, vs, n, rfl, fun y => hx (hX _ _ ho y), k _ _ hx Qbf ho, RelL.mono hX k l hl⟩
 | .lst l, _, e => by
  obtain ⟨a, vs, n, rfl, hx, ho, hl⟩ := e
  exact ⟨a, vs, n, rfl, fun y => hx (hX _ _ ho y), k _ _ hx Qbf ho, RelL.mono hX k l hl⟩
 | .dctI l, _, e => by
  obtain ⟨a, kvs, rfl, hx, ho, hl⟩ := e
  exact ⟨a, kvs, rfl, ⟨fun y => (let ⟨⟨_, _, _, ho', _⟩, _⟩ := ho; hx.1 (hX _ _ ho' y)), hx.2⟩, dictOf_cont k hx.1 ho, RelI.mono hX k l hl⟩
 | .dctS l, _, e => by
  obtain ⟨a, kvs, rfl, hx, ho, hl⟩ := e
  exact ⟨a, kvs, rfl, ⟨fun y => (let ⟨⟨_, _, _, ho', _⟩, _⟩ := ho; hx.1 (hX _ _ ho' y)), hx.2⟩, dictOf_cont k hx.1 ho, RelS.mono hX k l hl⟩
 | .judge way, _, e => by
  obtain ⟨a, dx, t, t1, t2, k1, k2, k3, k4, n, n1, n2, es, sl, dn, rfl, xa, ha, xd, hd, sk, f1, f2, xt, ht, x1, h1, x2, h2⟩ := e
  exact ⟨a, dx, t, t1, t2, k1, k2, k3, k4, n, n1, n2, es, sl, dn, rfl, fun y => xa (hX _ _ ha y), k _ _ xa (.inr (.inr (.inl rfl))) ha, fun y => xd (hX _ _ hd y), k _ _ xd (.inr (.inl ⟨_, _, rfl⟩)) hd, sk, f1, f2,
   fun y => xt (hX _ _ ht y), k _ _ xt Qbf ht, fun y => x1 (hX _ _ h1 y), k _ _ x1 Qbf h1, fun y => x2 (hX _ _ h2 y), k _ _ x2 Qbf h2⟩
theorem RelL.mono {C : Cfg} {X Y : Addr -> Prop} {h h' : Heap} (hX : ∀ a o, h.get? a = some o -> Y a -> X a) (k : Cont X h h') : ∀ (l : List PV) {vs : List Value}, RelL C X h l vs -> RelL C Y h' l vs
 | [], _, e => by exact e
 | d :: l, _, e => by
  obtain ⟨v, r, rfl, h1, h2⟩ := e
  exact ⟨v, r, rfl, Rel.mono hX k d h1, RelL.mono hX k l h2⟩
theorem RelI.mono {C : Cfg} {X Y : Addr -> Prop} {h h' : Heap} (hX : ∀ a o, h.get? a = some o -> Y a -> X a) (k : Cont X h h') : ∀ (l : List (Int × PV)) {vs : List (Int × Value)}, RelI C X h l vs -> RelI C Y h' l vs
 | [], _, e => by exact e
 | (i, d) :: l, _, e => by
  obtain ⟨v, r, rfl, h1, h2⟩ := e
  exact ⟨v, r, rfl, Rel.mono hX k d h1, RelI.mono hX k l h2⟩
theorem RelS.mono {C : Cfg} {X Y : Addr -> Prop} {h h' : Heap} (hX : ∀ a o, h.get? a = some o -> Y a -> X a) (k : Cont X h h') : ∀ (l : List (Str × PV)) {vs : List (Str × Value)}, RelS C X h l vs -> RelS C Y h' l vs
 | [], _, e => by exact e
 | (i, d) :: l, _, e => by
  obtain ⟨v, r, rfl, h1, h2⟩ := e
  exact ⟨v, r, rfl, Rel.mono hX k d h1, RelS.mono hX k l h2⟩
end
noncomputable def stmtAt (i : Nat) : Stmt := (Pr.main.body[i]?).getD (.Pass default)
noncomputable def dAt (i : Nat) : DefRec := (DefRec.ofStmt? (stmtAt i)).getD ⟨"", ⟨[], [], .none, [], [], .none, []⟩, [], default, default⟩
noncomputable def Qax (i : Nat) : List Stmt := (dAt i).body
noncomputable def Qed (i : Nat) : Arguments := (dAt i).params
noncomputable def Qaf (i : Nat) : Scope := (dAt i).scope
structure Base (C : Cfg) : Prop where
 g : C.h0.Ns mainGlobals C.mg
 b : C.h0.Ns builtinsNs C.mb
 lim : C.h0.NoLimit
 tab : C.h0.TableAt C.tc C.PT C.ps0
 isc : C.h0.IsCode C.tc C.PT C.ps0
 bm : ∃ bm ob, C.mg "__builtins__" = some (.ref bm) /\ bm ≠ builtinsNs /\ C.h0.get? bm = some ob /\ ob.cls = .type "module" /\ ob.dict = some builtinsNs /\ ob.data = .plain
 sys : ∃ o, C.h0.get? sysModules = some o /\ ∀ vs, o ≠ { cls := .none, data := .fields vs }
structure St (C : Cfg) (s : Shared) : Prop where
 base : Base C
 keep : ∀ b o, b ≠ C.PT -> C.h0.get? b = some o -> s.heap.get? b = some o
 tab : ∃ more, s.heap.TableAt C.tc C.PT (C.ps0 ++ more)
 tri : ∀ vs, s.heap.get? C.PT = some { cls := .none, data := .fields vs } -> TriplesOk vs.toList
 bare : AllBare s.gens
 os : s.os = C.os0
 pos : 0 < s.toks
end
local macro_rules | `(tactic| k_all) => `(tactic| first | with_unfolding_all rfl | (intros; rfl) | (intros; with_unfolding_all rfl) | decide +kernel | exact Nat.succ_pos _ | assumption | (apply St.pos; assumption) | (dsimp only; k_all))
section
noncomputable def Kp (C : Cfg) (s s' : Shared) : Prop := ∀ b o, b ≠ C.PT -> s.heap.get? b = some o -> s'.heap.get? b = some o
theorem Kp.refl {C : Cfg} {s : Shared} : Kp C s s := fun _ _ _ e => e
theorem Kp.trans {C : Cfg} {s s' s'' : Shared} (x : Kp C s s') (y : Kp C s' s'') : Kp C s s'' := fun b o hb e => y b o hb (x b o hb e)
theorem St.pt {C : Cfg} {s : Shared} (x : St C s) {o : Obj} (e : s.heap.get? C.PT = some o) : ∃ vs, o = { cls := .none, data := .fields vs } := by
 obtain ⟨more, t⟩ := x.tab
 rw [t.2] at e
 cases e
 exact ⟨_, rfl⟩
theorem St.pt_cont {C : Cfg} {s : Shared} (x : St C s) {b : Addr} {o : Obj} (e : s.heap.get? b = some o) (hc : Obj.cont o) : b ≠ C.PT := by
 rintro rfl
 obtain ⟨vs, rfl⟩ := x.pt e
 rcases hc with ⟨_, _, q⟩ | ⟨_, _, q⟩ | q | ⟨q, _⟩ <;> cases q
theorem Kp.cont {C : Cfg} {s s' : Shared} (k : Kp C s s') (x : St C s) (X : Addr -> Prop) : Cont X s.heap s'.heap := fun b o _ hc e => k b o (x.pt_cont e hc) e
theorem Rel.kp {C : Cfg} {X : Addr -> Prop} {s s' : Shared} {d : PV} {v : Value} (r : Rel C X s.heap d v) (x : St C s) (k : Kp C s s') : Rel C X s'.heap d v := r.mono (fun _ _ _ e => e) (k.cont x X)
theorem RelL.kp {C : Cfg} {X : Addr -> Prop} {s s' : Shared} {d : List PV} {v : List Value} (r : RelL C X s.heap d v) (x : St C s) (k : Kp C s s') : RelL C X s'.heap d v := r.mono (fun _ _ _ e => e) (k.cont x X)
theorem St.tri_keep {C : Cfg} {s : Shared} {h' : Heap} (x : St C s) (hk : ∀ o, s.heap.get? C.PT = some o -> h'.get? C.PT = some o) : ∀ vs, h'.get? C.PT = some { cls := .none, data := .fields vs } -> TriplesOk vs.toList := by
 intro vs e
 obtain ⟨more, t⟩ := x.tab
 have e2 := hk _ t.2
 rw [e2] at e
 have := x.tri _ t.2
 cases e
 exact this
theorem St.of_keep {C : Cfg} {s s' : Shared} (x : St C s) (hk : ∀ b o, s.heap.get? b = some o -> s'.heap.get? b = some o) (hg : s'.gens = s.gens) (ho : s'.os = s.os) (hp : 0 < s'.toks := by k_all) : St C s' where
 pos := hp
 base := x.base
 keep := fun b o hb e => hk b o (x.keep b o hb e)
 tab := let ⟨m, t⟩ := x.tab; ⟨m, t.keeps hk⟩
 tri := x.tri_keep fun o e => hk _ o e
 bare := by rw [hg]; exact x.bare
 os := ho.trans x.os
theorem St.tok {C : Cfg} {s : Shared} (x : St C s) (t : Nat) (hp : 0 < t := by k_all) : St C { s with toks := t } := x.of_keep (fun _ _ e => e) rfl rfl hp
structure Room (A : Around) (n : Nat) : Prop where
 handled : A.handled = none
 depth : A.depth + n < recursionLimit
 units : A.units + 20 * n < cLine
theorem Room.le {A : Around} {n m : Nat} (x : Room A n) (h : m <= n) : Room A m := ⟨x.handled, by have := x.depth; lia, by have := x.units; lia⟩
theorem Room.deeper {A : Around} {n m : Nat} {env : Env} (x : Room A n) (h : m < n) : Room (A.deeper env) m := ⟨x.handled, by have := x.depth; show A.depth + 1 + m < _; lia, by have := x.units; show A.units + 3 + 20 * m < _; lia⟩
theorem Room.lim {A : Around} {n : Nat} (x : Room A n) : A.depth < recursionLimit := by have := x.depth; lia
noncomputable abbrev Qck := List (Str × NameKind)
noncomputable def Qdi (nm : Qck) (x : Str) : Bool := match nm.lookup x with | some .cell => true | some .free => true | _ => false
noncomputable def Qdm (nm : Qck) (x : Str) : Bool := match nm.lookup x with | some .local => true | _ => false
noncomputable def gloB (nm : Qck) (x : Str) : Bool := match nm.lookup x with | some .globalImplicit => true | _ => false
noncomputable abbrev Qbs := List (Str × PV)
noncomputable def XS (Xo : Addr -> Prop) (env : Env) (oa : Option Addr) : Addr -> Prop := fun b => Xo b ∨ b = env.locals ∨ oa = some b
noncomputable def Top (C : Cfg) (X : Addr -> Prop) (h : Heap) : PV -> Addr -> Prop
 | .tup l, a => ∃ vs n, h.get? a = some (Qay "tuple" vs n) /\ RelL C X h l vs
 | .lst l, a => ∃ vs n, h.get? a = some (Qay "list" vs n) /\ RelL C X h l vs
 | .dctI l, a => a ≠ sysModules /\ ∃ kvs, Qep h (IK C) a kvs /\ RelI C X h l kvs
 | .dctS l, a => a ≠ sysModules /\ ∃ kvs, Qep h (SK C) a kvs /\ RelS C X h l kvs
 | _, _ => False
theorem Top.mono {C : Cfg} {X Y : Addr -> Prop} {h h' : Heap} (hX : ∀ a o, h.get? a = some o -> Y a -> X a) (k : Cont X h h') {d : PV} {a : Addr} (ha : ∀ o, Obj.cont o -> h.get? a = some o -> h'.get? a = some o) (t : Top C X h d a) : Top C Y h' d a := by
 have hd : ∀ {K : Type} [DecidableEq K] {knd : KeyKind Pr C.w K} {kvs : List (K × Value)}, Qep h knd a kvs -> Qep h' knd a kvs := fun x => dictN_at x ha
 cases d with
 | tup l => obtain ⟨vs, n, e, r⟩ := t; exact ⟨vs, n, ha _ Qbf e, r.mono hX k⟩
 | lst l => obtain ⟨vs, n, e, r⟩ := t; exact ⟨vs, n, ha _ Qbf e, r.mono hX k⟩
 | dctI l => obtain ⟨z, kvs, e, r⟩ := t; exact ⟨z, kvs, hd e, r.mono hX k⟩
 | dctS l => obtain ⟨z, kvs, e, r⟩ := t; exact ⟨z, kvs, hd e, r.mono hX k⟩
 | _ => exact t.elim
structure EnvOK (C : Cfg) (nm : Qck) (Xo : Addr -> Prop) (env : Env) (oa : Option Addr) (h : Heap) (ρ : Qbs) (ow : Option (Str × PV)) : Prop where
 kind : env.scope.kind = .function
 code : nm = (Qaf 3).names -> env.code = .ref C.tc
 coro : env.scope.isCoroutine = false
 kindL : ∀ x, Qdm nm x = true -> env.kindOf x = some .local
 kindC : ∀ x, Qdi nm x = true -> env.kindOf x = some .cell ∨ env.kindOf x = some .free
 kindG : ∀ x, gloB nm x = true -> env.kindOf x = some .globalImplicit
 glob : env.globals = mainGlobals
 blt : env.builtins = builtinsNs
 loc : ∃ m, h.Ns env.locals m /\ (∀ x d, ρ.lookup x = some d -> Qdm nm x = true -> ∃ v, m x = some v /\ Rel C (XS Xo env oa) h d v) /\
  ∀ y d, ow = some (y, d) -> Qdm nm y = true -> ∃ a, oa = some a /\ m y = some (.ref a)
 cel : ∀ x d, ρ.lookup x = some d -> Qdi nm x = true -> ∃ c v, env.cells.lookup x = some c /\ h.IsCell c (some v) /\ Rel C (XS Xo env oa) h d v
 celO : ∀ y d, ow = some (y, d) -> Qdi nm y = true -> ∃ c a, env.cells.lookup y = some c /\ h.IsCell c (some (.ref a)) /\ oa = some a
 cst : ∀ x, Qdi nm x = true -> ∃ c v, env.cells.lookup x = some c /\ h.IsCell c v
 all : ∀ x c, env.cells.lookup x = some c -> ∃ v, h.IsCell c v
 apart : ∀ x y c, env.cells.lookup x = some c -> env.cells.lookup y = some c -> x = y
 low : ∀ a, XS Xo env oa a -> ∃ o, h.get? a = some o /\ Obj.cont o
 newL : C.h0.get? env.locals = none
 newC : ∀ x c, env.cells.lookup x = some c -> C.h0.get? c = none
 newO : ∀ a, oa = some a -> C.h0.get? a = none
 xoL : ¬ Xo env.locals
 own : ∀ y d, ow = some (y, d) -> ρ.lookup y = none /\ ∃ a, oa = some a /\ ¬ Xo a /\ a ≠ env.locals /\ Top C (XS Xo env oa) h d a
end
variable {C : Cfg} {A : Around} {nm : Qck} {X Xo : Addr -> Prop} {env : Env} {oa : Option Addr} {s s' : Shared} {ρ : Qbs} {ow : Option (Str × PV)} {n : Nat} {E : Value -> Shared -> Prop}
section
set_option tactic.hygienic false
variable {C : Cfg} {A : Around} {nm : Qck} {Xo : Addr -> Prop} {env : Env} {oa : Option Addr} {s s' : Shared} {ρ : Qbs} {ow : Option (Str × PV)}
theorem ns_ne_pt {m : Str -> Option Value} {a : Addr} (x : St C s) (h : s.heap.Ns a m) : a ≠ C.PT := by
 apply byc;intro kz
 obtain ⟨o, es, ep, ho, hd, _⟩ := h
 apply kz;clear kz
 exact x.pt_cont ho (.inr (.inl ⟨es, ep, hd⟩))
theorem cell_ne_pt {v : Option Value} {a : Addr} (x : St C s) (h : s.heap.IsCell a v) : a ≠ C.PT := by
 obtain ⟨o, ho, hd⟩ := h
 rintro rfl
 obtain ⟨vs, rfl⟩ := x.pt ho
 cases hd
theorem St.g (x : St C s) : s.heap.Ns mainGlobals C.mg := x.base.g.at' fun o e => x.keep _ o (by
 apply byc;intro kz
 obtain ⟨more, t⟩ := x.tab
 obtain ⟨o', es, ep, ho, hd, _⟩ := x.base.g
 apply kz;clear kz
 intro q
 have t0 := x.base.tab.2
 rw [← q, ho] at t0
 cases t0
 cases hd) e
theorem St.b (x : St C s) : s.heap.Ns builtinsNs C.mb := x.base.b.at' fun o e => x.keep _ o (by
 apply byc;intro kz
 obtain ⟨o', es, ep, ho, hd, _⟩ := x.base.b
 apply kz;clear kz
 intro q
 have t0 := x.base.tab.2
 rw [← q, ho] at t0
 cases t0
 cases hd) e
theorem St.lim (x : St C s) : s.heap.NoLimit := by
 obtain ⟨mc, h, e⟩ := x.base.lim
 refine ⟨mc, h.at' fun o e => x.keep _ o ?_ e, e⟩
 apply byc;intro kz
 obtain ⟨o', es, ep, ho, hd, _⟩ := h
 apply kz;clear kz
 intro q
 have t0 := x.base.tab.2
 rw [← q, ho] at t0
 cases t0
 cases hd
theorem St.h0 (x : St C s) {a : Addr} {o : Obj} (e : C.h0.get? a = some o) (hd : ∀ vs, o ≠ { cls := .none, data := .fields vs }) : s.heap.get? a = some o :=
 x.keep a o (by
  rintro rfl
  have t0 := x.base.tab.2
  rw [e] at t0
  cases t0
  exact hd _ rfl) e
structure Rest (s s' : Shared) : Prop where
 cont : ∀ b o, Obj.cont o -> s.heap.get? b = some o -> s'.heap.get? b = some o
 cell : ∀ b o v, o.data = .cell v -> s.heap.get? b = some o -> s'.heap.get? b = some o
theorem Rest.of_kp (st : St C s) (k : Kp C s s') : Rest s s' where
 cont := fun b o hc e => k b o (st.pt_cont e hc) e
 cell := fun b o v hd e => k b o (cell_ne_pt st ⟨o, e, hd⟩) e
theorem Rest.trans {s'' : Shared} (x : Rest s s') (y : Rest s' s'') : Rest s s'' := ⟨fun b o h e => y.cont b o h (x.cont b o h e), fun b o v h e => y.cell b o v h (x.cell b o v h e)⟩
theorem Rest.ns {m : Str -> Option Value} {a : Addr} (x : Rest s s') (h : s.heap.Ns a m) : s'.heap.Ns a m := by
 apply byc;intro kz
 obtain ⟨o, es, ep, ho, hd, r⟩ := h
 apply kz;clear kz
 exact ⟨o, es, ep, x.cont a o (.inr (.inl ⟨es, ep, hd⟩)) ho, hd, r⟩
theorem Rest.isCell {v : Option Value} {a : Addr} (x : Rest s s') (h : s.heap.IsCell a v) : s'.heap.IsCell a v :=
 let ⟨o, ho, hd⟩ := h; ⟨o, x.cell a o _ hd ho, hd⟩
theorem Rest.rel {X : Addr -> Prop} {d : PV} {v : Value} (x : Rest s s') (r : Rel C X s.heap d v) : Rel C X s'.heap d v := r.mono (fun _ _ _ e => e) fun b o _ hc e => x.cont b o hc e
theorem Rest.relL {X : Addr -> Prop} {d : List PV} {v : List Value} (x : Rest s s') (r : RelL C X s.heap d v) : RelL C X s'.heap d v := r.mono (fun _ _ _ e => e) fun b o _ hc e => x.cont b o hc e
theorem EnvOK.rest (x : EnvOK C nm Xo env oa s.heap ρ ow) (k : Rest s s') : EnvOK C nm Xo env oa s'.heap ρ ow := by
 refine { x with loc := ?_, cel := ?_, celO := ?_, cst := ?_, low := ?_, own := ?_, all := fun y c q => let ⟨v, e⟩ := x.all y c q; ⟨v, k.isCell e⟩ }
 ·apply byc;intro kz
  obtain ⟨m, hn, h1, h2⟩ := x.loc
  apply kz;clear kz
  exact ⟨m, k.ns hn, fun y d e q => let ⟨v, a, b⟩ := h1 y d e q; ⟨v, a, k.rel b⟩, h2⟩
 ·intro y d e q
  apply byc;intro kz
  obtain ⟨c, v, h1, h2, h3⟩ := x.cel y d e q
  apply kz;clear kz
  exact ⟨c, v, h1, k.isCell h2, k.rel h3⟩
 ·intro y d e q
  apply byc;intro kz
  obtain ⟨c, a, h1, h2, h3⟩ := x.celO y d e q
  apply kz;clear kz
  exact ⟨c, a, h1, k.isCell h2, h3⟩
 ·intro y q
  apply byc;intro kz
  obtain ⟨c, v, h1, h2⟩ := x.cst y q
  apply kz;clear kz
  exact ⟨c, v, h1, k.isCell h2⟩
 ·intro a q
  obtain ⟨o, ho, hc⟩ := x.low a q
  exact ⟨o, k.cont a o hc ho, hc⟩
 ·intro y d e
  apply byc;intro kz
  obtain ⟨h1, a, h2, h3, h4, h5⟩ := x.own y d e
  apply kz;clear kz
  exact ⟨h1, a, h2, h3, h4, h5.mono (fun _ _ _ e => e) (fun b o _ hc e => k.cont b o hc e) fun o hco ho => k.cont a o hco ho⟩
theorem EnvOK.kp (x : EnvOK C nm Xo env oa s.heap ρ ow) (st : St C s) (st' : St C s') (k : Kp C s s') : EnvOK C nm Xo env oa s'.heap ρ ow := x.rest (.of_kp st k)
theorem locB_iff {x : Str} : Qdm nm x = true ↔ nm.lookup x = some .local := by
 unfold Qdm; cases nm.lookup x with
 | none => simp
 | some k => cases k <;> simp
theorem not_both {x : Str} (h : Qdm nm x = true) : Qdi nm x = false := by
 unfold Qdi; rw [locB_iff.mp h]
theorem EnvOK.weak {h : Heap} {ρ' : Qbs} (x : EnvOK C nm Xo env oa h ρ ow) (hs : ∀ y d, ρ'.lookup y = some d -> ρ.lookup y = some d) : EnvOK C nm Xo env oa h ρ' ow :=
 {x with
  loc := by
   apply byc;intro kz
   obtain ⟨m, hn, h1, h2⟩ := x.loc
   apply kz;clear kz
   exact ⟨m, hn, fun y d e q => h1 y d (hs y d e) q, h2⟩
  cel := fun y d e q => x.cel y d (hs y d e) q
  own := fun y d e => by
   have := (x.own y d e).1
   refine ⟨?_, (x.own y d e).2⟩
   cases q : ρ'.lookup y with
   | none => rfl
   | some d' => rw [hs y d' q] at this; cases this }
theorem XS.none_le : ∀ a, XS Xo env none a -> XS Xo env oa a := fun a h => h.elim .inl fun h => h.elim (fun h => .inr (.inl h)) fun h => nomatch h
theorem Top.rel {X Y : Addr -> Prop} {h : Heap} {d : PV} {a : Addr} (t : Top C X h d a) (hY : ∀ b, Y b -> X b) (ha : ¬ Y a) : Rel C Y h d (.ref a) := by
 have hm : ∀ (a : Addr) (o : PySem.Obj), h.get? a = some o -> Y a -> X a := fun a _ _ y => hY a y
 cases d with
 | tup l => obtain ⟨vs, n, e, r⟩ := t; exact ⟨a, vs, n, rfl, ha, e, r.mono hm fun _ _ _ _ e => e⟩
 | lst l => obtain ⟨vs, n, e, r⟩ := t; exact ⟨a, vs, n, rfl, ha, e, r.mono hm fun _ _ _ _ e => e⟩
 | dctI l => obtain ⟨z, kvs, e, r⟩ := t; exact ⟨a, kvs, rfl, ⟨ha, z⟩, e, r.mono hm fun _ _ _ _ e => e⟩
 | dctS l => obtain ⟨z, kvs, e, r⟩ := t; exact ⟨a, kvs, rfl, ⟨ha, z⟩, e, r.mono hm fun _ _ _ _ e => e⟩
 | _ => exact t.elim
theorem Qbx {x : Str} {d : PV} : List.lookup x ((x, d) :: ρ) = some d := by simp [List.lookup_cons]
theorem Qbm {x y : Str} {d : PV} (h : y ≠ x) : List.lookup y ((x, d) :: ρ) = List.lookup y ρ := by
 rw [List.lookup_cons, beq_eq_false_iff_ne.mpr h]
theorem EnvOK.freeze {h : Heap} {y : Str} {d : PV} (x : EnvOK C nm Xo env oa h ρ (some (y, d))) : EnvOK C nm Xo env none h ((y, d) :: ρ) none := by
 apply byc;intro kz
 obtain ⟨hy, a, ha, hxo, hl, ht⟩ := x.own y d rfl
 apply kz;clear kz
 have hm : ∀ (a : Addr) (o : PySem.Obj), h.get? a = some o -> XS Xo env none a -> XS Xo env oa a := fun a _ _ z => XS.none_le a z
 have rel : ∀ {e : PV} {v : Value}, Rel C (XS Xo env oa) h e v -> Rel C (XS Xo env none) h e v := fun r => r.mono hm fun _ _ _ _ e => e
 have rd : Rel C (XS Xo env none) h d (.ref a) := ht.rel XS.none_le fun z => by
  rcases z with z | z | z
  ·exact hxo z
  ·exact hl z
  ·cases z
 refine { x with loc := ?_, cel := ?_, celO := (fun y d e => (nomatch e)), low := fun b z => x.low b (XS.none_le b z), newO := (fun _ e => nomatch e), own := (fun y d e => nomatch e) }
 ·apply byc;intro kz
  obtain ⟨m, hn, h1, h2⟩ := x.loc
  apply kz;clear kz
  refine ⟨m, hn, fun z e q hz => ?_, fun y d e => (nomatch e)⟩
  by_cases hzy : z = y
  ·subst hzy
   rw [Qbx] at q
   cases q
   obtain ⟨a', e1, e2⟩ := h2 z _ rfl hz
   rw [ha] at e1; cases e1
   exact ⟨_, e2, rd⟩
  ·rw [Qbm hzy] at q
   obtain ⟨v, e1, e2⟩ := h1 z e q hz
   exact ⟨v, e1, rel e2⟩
 ·intro z e q hz
  by_cases hzy : z = y
  ·subst hzy
   rw [Qbx] at q
   cases q
   apply byc;intro kz
   obtain ⟨c, a', e1, e2, e3⟩ := x.celO z _ rfl hz
   apply kz;clear kz
   rw [ha] at e3; cases e3
   exact ⟨c, _, e1, e2, rd⟩
  ·rw [Qbm hzy] at q
   apply byc;intro kz
   obtain ⟨c, v, e1, e2, e3⟩ := x.cel z e q hz
   apply kz;clear kz
   exact ⟨c, v, e1, e2, rel e3⟩
theorem EnvOK.cellAt {h : Heap} (x : EnvOK C nm Xo env oa h ρ ow) (y : Str) (c : Addr) (q : env.cells.lookup y = some c) : ∃ v, h.IsCell c v /\ ∀ o, h.get? c = some o -> Obj.cont o -> False := by
 obtain ⟨v, e⟩ := x.all y c q
 refine ⟨v, e, fun o ho hc => ?_⟩
 obtain ⟨o', ho', hd⟩ := e
 rw [ho] at ho'; cases ho'
 rcases hc with ⟨_, _, z⟩ | ⟨_, _, z⟩ | z | ⟨_, _, z⟩ <;> (rw [hd] at z; cases z)
noncomputable def FrS (C : Cfg) (env : Env) (oa : Option Addr) (s s' : Shared) : Prop :=
 ∀ b o, b ≠ C.PT -> b ≠ env.locals -> (∀ x, env.cells.lookup x ≠ some b) -> oa ≠ some b -> s.heap.get? b = some o -> s'.heap.get? b = some o
theorem FrS.of_kp (k : Kp C s s') : FrS C env oa s s' := fun b o hb _ _ _ e => k b o hb e
noncomputable def Fresh (oa oa' : Option Addr) (s : Shared) : Prop := ∀ a, oa' = some a -> oa = some a ∨ s.heap.get? a = none
theorem Fresh.refl : Fresh oa oa s := fun _ e => .inl e
theorem FrS.trans {oa' : Option Addr} {s'' : Shared} (x : FrS C env oa s s') (f : Fresh oa oa' s) (y : FrS C env oa' s' s'') : FrS C env oa s s'' := fun b o h1 h2 h3 h4 e =>
 y b o h1 h2 h3 (fun q => (f b q).elim h4 fun z => by rw [z] at e; cases e) (x b o h1 h2 h3 h4 e)
noncomputable def FrN (env : Env) (x : Str) (s s' : Shared) : Prop := ∀ b o, b ≠ env.locals -> env.cells.lookup x ≠ some b -> s.heap.get? b = some o -> s'.heap.get? b = some o
theorem FrN.fr {x : Str} (h : FrN env x s s') : FrS C env oa s s' := fun b o _ h2 h3 _ e => h b o h2 (h3 x) e
section store
variable {h' : Heap} {x : Str} {d : PV} {v : Value} {tk : Nat}
theorem EnvOK.setL (X : EnvOK C nm Xo env oa s.heap ρ ow) (hx : Qdm nm x = true) {m : Str -> Option Value} (hn0 : s.heap.Ns env.locals m)
  (hn : h'.Ns env.locals (fun y => if y = x then some v else m y)) (hs : Heap.SameBut env.locals s.heap h') (r : Rel C (XS Xo env oa) s.heap d v) (hw : ∀ y e, ow = some (y, e) -> y ≠ x) :
  EnvOK C nm Xo env oa h' ((x, d) :: ρ) ow := by
 have hc : Cont (XS Xo env oa) s.heap h' := fun b o hb _ e => (hs.2 b (fun q => hb (.inr (.inl q)))).trans e
 have hi : ∀ (a : Addr) (o : PySem.Obj), s.heap.get? a = some o -> XS Xo env oa a -> XS Xo env oa a := fun _ _ _ e => e
 apply byc;intro kz
 obtain ⟨m', hn', h1, h2⟩ := X.loc
 apply kz;clear kz
 have hmm : m' = m := by
  apply byc;intro kz
  obtain ⟨o, es, ep, ho, hd, _, hf⟩ := hn'
  obtain ⟨o', es', ep', ho', hd', _, hf'⟩ := hn0
  apply kz;clear kz
  rw [ho] at ho'; cases ho'
  rw [hd] at hd'; cases hd'
  funext y
  rw [← hf y, ← hf' y]
 subst hmm
 have cne : ∀ {c w}, s.heap.IsCell c w -> c ≠ env.locals := fun {c w} hcl q => by
  apply byc;intro kz
  obtain ⟨o, ho, hd⟩ := hcl
  obtain ⟨o', es, ep, ho', hd', _⟩ := hn0
  apply kz;clear kz
  subst q
  rw [ho] at ho'; cases ho'
  rw [hd] at hd'; cases hd'
 have cel : ∀ {c w}, s.heap.IsCell c w -> h'.IsCell c w := fun hcl => hcl.sameBut hs (cne hcl)
 refine { X with loc := ⟨_, hn, fun y e q hy => ?_, fun y e q hy => ?_⟩, cel := fun y e q hy => ?_, celO := fun y e q hy => ?_, cst := fun y hy => ?_, low := fun a q => ?_, own := fun y e q => ?_, all := fun y c q => let ⟨v, e⟩ := X.all y c q; ⟨v, cel e⟩ }
 ·by_cases hyx : y = x
  ·subst hyx
   rw [Qbx] at q; cases q
   exact ⟨v, by simp, r.mono hi hc⟩
  ·rw [Qbm hyx] at q
   obtain ⟨u, e1, e2⟩ := h1 y e q hy
   exact ⟨u, by simp [hyx, e1], e2.mono hi hc⟩
 ·obtain ⟨a, e1, e2⟩ := h2 y e q hy
  exact ⟨a, e1, by simp [hw y e q, e2]⟩
 ·by_cases hyx : y = x
  ·subst hyx; rw [not_both hx] at hy; cases hy
  ·rw [Qbm hyx] at q
   apply byc;intro kz
   obtain ⟨c, u, e1, e2, e3⟩ := X.cel y e q hy
   apply kz;clear kz
   exact ⟨c, u, e1, cel e2, e3.mono hi hc⟩
 ·apply byc;intro kz
  obtain ⟨c, a, e1, e2, e3⟩ := X.celO y e q hy
  apply kz;clear kz
  exact ⟨c, a, e1, cel e2, e3⟩
 ·apply byc;intro kz
  obtain ⟨c, u, e1, e2⟩ := X.cst y hy
  apply kz;clear kz
  exact ⟨c, u, e1, cel e2⟩
 ·obtain ⟨o, ho, hco⟩ := X.low a q
  by_cases hl : a = env.locals
  ·apply byc;intro kz
   obtain ⟨o, es, ep, ho, hd, _⟩ := hn
   apply kz;clear kz
   exact ⟨o, hl ▸ ho, .inr (.inl ⟨es, ep, hd⟩)⟩
  ·exact ⟨o, (hs.2 a hl).trans ho, hco⟩
 ·apply byc;intro kz
  obtain ⟨e0, a, e1, e2, e3, e4⟩ := X.own y e q
  apply kz;clear kz
  exact ⟨by rw [Qbm (hw y e q)]; exact e0, a, e1, e2, e3, e4.mono hi hc fun o _ ho => (hs.2 a e3).trans ho⟩
theorem EnvOK.setC (X : EnvOK C nm Xo env oa s.heap ρ ow) (hx : Qdi nm x = true) {c : Addr} {w0 : Option Value} (hcl : env.cells.lookup x = some c) (hc0 : s.heap.IsCell c w0)
  (hn : h'.IsCell c (some v)) (hs : Heap.SameBut c s.heap h') (r : Rel C (XS Xo env oa) s.heap d v) (hw : ∀ y e, ow = some (y, e) -> y ≠ x) :
  EnvOK C nm Xo env oa h' ((x, d) :: ρ) ow := by
 have cc : ∀ {b o}, PySem.Heap.get? s.heap b = some o -> Obj.cont o -> b ≠ c := fun {b o} e hco q => by
  obtain ⟨o', ho', hd'⟩ := hc0
  subst q
  rw [e] at ho'; cases ho'
  rcases hco with ⟨_, _, z⟩ | ⟨_, _, z⟩ | z | ⟨_, _, z⟩ <;> (rw [hd'] at z; cases z)
 have hc : Cont (XS Xo env oa) s.heap h' := fun b o hb hco e => (hs.2 b (cc e hco)).trans e
 have hi : ∀ (a : Addr) (o : PySem.Obj), s.heap.get? a = some o -> XS Xo env oa a -> XS Xo env oa a := fun _ _ _ e => e
 apply byc;intro kz
 obtain ⟨m, hm, h1, h2⟩ := X.loc
 apply kz;clear kz
 have lne : env.locals ≠ c := by
  apply byc;intro kz
  obtain ⟨o, es, ep, ho, hd, _⟩ := hm
  apply kz;clear kz
  exact cc ho (.inr (.inl ⟨es, ep, hd⟩))
 have ap : ∀ {y c'}, y ≠ x -> env.cells.lookup y = some c' -> c' ≠ c := fun {y c'} hyx e q => hyx (X.apart y x c (q ▸ e) hcl)
 have hall : ∀ y c', env.cells.lookup y = some c' -> ∃ v, h'.IsCell c' v := by
  intro y c' q
  by_cases hyx : y = x
  ·subst hyx; rw [hcl] at q; cases q; exact ⟨_, hn⟩
  ·obtain ⟨u, e⟩ := X.all y c' q; exact ⟨u, e.sameBut hs (ap hyx q)⟩
 refine { X with loc := ⟨m, hm.sameBut hs lne, fun y e q hy => ?_, fun y e q hy => h2 y e q hy⟩, cel := fun y e q hy => ?_, celO := fun y e q hy => ?_, cst := fun y hy => ?_, low := fun a q => ?_, own := fun y e q => ?_, all := hall }
 ·by_cases hyx : y = x
  ·subst hyx; rw [not_both hy] at hx; cases hx
  ·rw [Qbm hyx] at q
   obtain ⟨u, e1, e2⟩ := h1 y e q hy
   exact ⟨u, e1, e2.mono hi hc⟩
 ·by_cases hyx : y = x
  ·subst hyx
   rw [Qbx] at q; cases q
   exact ⟨c, v, hcl, hn, r.mono hi hc⟩
  ·rw [Qbm hyx] at q
   apply byc;intro kz
   obtain ⟨c', u, e1, e2, e3⟩ := X.cel y e q hy
   apply kz;clear kz
   exact ⟨c', u, e1, e2.sameBut hs (ap hyx e1), e3.mono hi hc⟩
 ·apply byc;intro kz
  obtain ⟨c', a, e1, e2, e3⟩ := X.celO y e q hy
  apply kz;clear kz
  exact ⟨c', a, e1, e2.sameBut hs (ap (hw y e q) e1), e3⟩
 ·by_cases hyx : y = x
  ·subst hyx; exact ⟨c, _, hcl, hn⟩
  ·apply byc;intro kz
   obtain ⟨c', u, e1, e2⟩ := X.cst y hy
   apply kz;clear kz
   exact ⟨c', u, e1, e2.sameBut hs (ap hyx e1)⟩
 ·obtain ⟨o, ho, hco⟩ := X.low a q
  exact ⟨o, (hs.2 a (cc ho hco)).trans ho, hco⟩
 ·apply byc;intro kz
  obtain ⟨e0, a, e1, e2, e3, e4⟩ := X.own y e q
  apply kz;clear kz
  exact ⟨by rw [Qbm (hw y e q)]; exact e0, a, e1, e2, e3, e4.mono hi hc fun o hco ho => (hs.2 a (cc ho hco)).trans ho⟩
theorem St.same_but {a : Addr} (x : St C s) (hs : Heap.SameBut a s.heap h') (ha : C.h0.get? a = none) (hp : a ≠ C.PT) (hq : 0 < tk := by k_all) : St C { s with heap := h', toks := tk } where
 pos := hq
 base := x.base
 keep := fun b o hb e => (hs.2 b (fun q => by subst q; rw [ha] at e; cases e)).trans (x.keep b o hb e)
 tab := by
  apply byc;intro kz
  obtain ⟨more, ⟨o, vs, e1, r⟩, t⟩ := x.tab
  apply kz;clear kz
  refine ⟨more, ⟨o, vs, ?_, r⟩, (hs.2 _ (Ne.symm hp)).trans t⟩
  have : C.tc ≠ a := by
   rintro rfl
   apply byc;intro kz
   obtain ⟨⟨o, vs, e1, r⟩, t⟩ := x.base.tab
   apply kz;clear kz
   rw [ha] at e1; cases e1
  exact (hs.2 _ this).trans e1
 tri := x.tri_keep fun o e => (hs.2 _ (Ne.symm hp)).trans e
 bare := x.bare
 os := x.os
theorem store (X : EnvOK C nm Xo env oa s.heap ρ ow) (st : St C s) (hx : (Qdm nm x || Qdi nm x) = true) (r : Rel C (XS Xo env oa) s.heap d v) (hw : ∀ y e, ow = some (y, e) -> y ≠ x)
  {Q : Unit -> Shared -> Prop} {E : Value -> Shared -> Prop} (h : ∀ s', St C s' -> FrN env x s s' -> EnvOK C nm Xo env oa s'.heap ((x, d) :: ρ) ow -> Q () s') :
  wpAny (Mo C) A (storeName env x v) Q E s := by
 by_cases hl : Qdm nm x = true
 ·obtain ⟨m, hm, _⟩ := X.loc
  refine wpAny_storeName_local (X.kindL x hl) hm (fun h' hn hs => h _ (st.same_but hs X.newL (ns_ne_pt st hm)) ?_ (X.setL hl hm hn hs r hw)) (by rw [X.kind]; rfl)
  exact fun b o hb _ e => (hs.2 b hb).trans e
 ·have hc : Qdi nm x = true := by simpa [hl] using hx
  apply byc;intro kz
  obtain ⟨c, w0, hcl, hc0⟩ := X.cst x hc
  apply kz;clear kz
  have fin : ∀ h', h'.IsCell c (some v) -> Heap.SameBut c s.heap h' -> Q () { s with heap := h' } := fun h' hn hs =>
   h _ (st.same_but (tk := s.toks) hs (X.newC x c hcl) (cell_ne_pt st hc0)) (fun b o _ hb e => (hs.2 b (fun q => hb (q ▸ hcl))).trans e) (X.setC hc hcl hc0 hn hs r hw)
  rcases X.kindC x hc with hk | hk
  ·exact wpAny_storeName_cell X.kind hk hcl hc0 fin
  ·unfold storeName
   simp only [hk, X.kind]
   exact wpAny_bind (wpAny_cellOf hcl (wpAny_cellSet hc0 fin))
end store
end
section
set_option tactic.hygienic false
noncomputable def NoE : Value -> Shared -> Prop := fun _ _ => False
theorem nof {E : Value -> Shared -> Prop} : ∀ e s, NoE e s -> E e s := fun _ _ h => h.elim
structure Post (C : Cfg) (X : Addr -> Prop) (s : Shared) (d : PV) (v : Value) (s' : Shared) : Prop where
 st : St C s'
 kp : Kp C s s'
 rel : Rel C X s'.heap d v
structure PostT (C : Cfg) (X : Addr -> Prop) (s : Shared) (d : PV) (v : Value) (s' : Shared) : Prop where
 st : St C s'
 kp : Kp C s s'
 top : ∃ a, v = .ref a /\ Top C X s'.heap d a
structure PostB (C : Cfg) (s : Shared) (b : Bool) (v : Bool) (s' : Shared) : Prop where
 st : St C s'
 kp : Kp C s s'
 eq : v = b
noncomputable def Ev (C : Cfg) (n : Nat) (nm : Qck) (ρ : Qbs) (ow : Option (Str × PV)) (e : Expr) (d : PV) : Prop :=
 ∀ A Xo env oa s, Room A n -> St C s -> EnvOK C nm Xo env oa s.heap ρ ow -> wpAny (Mo C) A (eval e env) (Post C (XS Xo env oa) s d) NoE s
noncomputable def EvT (C : Cfg) (n : Nat) (nm : Qck) (ρ : Qbs) (ow : Option (Str × PV)) (e : Expr) (d : PV) : Prop :=
 ∀ A Xo env oa s, Room A n -> St C s -> EnvOK C nm Xo env oa s.heap ρ ow -> wpAny (Mo C) A (eval e env) (PostT C (XS Xo env oa) s d) NoE s
noncomputable def Tv (C : Cfg) (n : Nat) (nm : Qck) (ρ : Qbs) (ow : Option (Str × PV)) (e : Expr) (b : Bool) : Prop :=
 ∀ A Xo env oa s, Room A n -> St C s -> EnvOK C nm Xo env oa s.heap ρ ow -> wpAny (Mo C) A (isTrue e env (eval e env)) (PostB C s b) NoE s
noncomputable def LowX (X : Addr -> Prop) (h : Heap) : Prop := ∀ a, X a -> ∃ o, h.get? a = some o /\ Obj.cont o
theorem LowX.fresh {X : Addr -> Prop} {h : Heap} (x : LowX X h) : ¬ X h.objs.size := fun q => by
 obtain ⟨o, ho, _⟩ := x _ q
 exact absurd (Heap.lt_size ho) (Nat.lt_irrefl _)
noncomputable def OpB (C : Cfg) (n : Nat) (op : Operator) (d1 d2 d : PV) : Prop :=
 ∀ A X s v1 v2, Room A n -> St C s -> LowX X s.heap -> Rel C X s.heap d1 v1 -> Rel C X s.heap d2 v2 -> wpAny (Mo C) A (binaryOp op v1 v2) (Post C X s d) NoE s
noncomputable def OpI (C : Cfg) (n : Nat) (op : Operator) (d1 d2 d : PV) : Prop :=
 ∀ A X s v1 v2, Room A n -> St C s -> LowX X s.heap -> Rel C X s.heap d1 v1 -> Rel C X s.heap d2 v2 -> wpAny (Mo C) A (inplaceOp op v1 v2) (Post C X s d) NoE s
noncomputable def OpC (C : Cfg) (n : Nat) (op : CmpOp) (d1 d2 : PV) (b : Bool) : Prop :=
 ∀ A X s v1 v2, Room A n -> St C s -> LowX X s.heap -> Rel C X s.heap d1 v1 -> Rel C X s.heap d2 v2 -> wpAny (Mo C) A (compareOp op v1 v2) (Post C X s (.bool b)) NoE s
theorem EnvOK.lowX {h : Heap} (x : EnvOK C nm Xo env oa h ρ ow) : LowX (XS Xo env oa) h := x.low
theorem Qcd {d : PV} {v : Value} {t : Nat} (st : St C s) (r : Rel C X s.heap d v) (hp : 0 < t := by k_all) : Post C X s d v { s with toks := t } := ⟨st.tok t hp, Kp.refl, r⟩
theorem Qdd {d : PV} {v : Value} {t : Nat} {h' : Heap} (st : St C s) (hk : ∀ b o, s.heap.get? b = some o -> h'.get? b = some o) (r : Rel C X h' d v) (hp : 0 < t := by k_all) : Post C X s d v { s with heap := h', toks := t } :=
 ⟨st.of_keep hk rfl rfl hp, fun b o _ e => hk b o e, r⟩
theorem Post.of {d : PV} {v : Value} {s₁ s₂ : Shared} (k : Kp C s s₁) (p : Post C X s₁ d v s₂) : Post C X s d v s₂ := ⟨p.1, k.trans p.2, p.3⟩
theorem PostB.of {b v : Bool} {s₁ s₂ : Shared} (k : Kp C s s₁) (p : PostB C s₁ b v s₂) : PostB C s b v s₂ := ⟨p.1, k.trans p.2, p.3⟩
theorem Qbr {i : Int} {t : Nat} {h : Heap} : Rel C X h (.int i) (.int i t) := ⟨_, rfl⟩
theorem Qbv {b : Bool} {h : Heap} : Rel C X h (.bool b) (.bool b) := rfl
theorem Qdy {x : Str} {t : Nat} {h : Heap} : Rel C X h (.str x) (.str x t) := ⟨_, rfl⟩
theorem rel_bytes {x : Array UInt8} {t : Nat} {h : Heap} : Rel C X h (.bytes x) (.bytes x t) := ⟨_, rfl⟩
theorem rel_raw {v : Value} {h : Heap} : Rel C X h (.raw v) v := rfl
theorem Qab {x : Str} {pos : Pos} {d : PV} (hx : Qdm nm x = true) (hd : ρ.lookup x = some d) (hb : (x == ("__debug__" : Str)) = false := by k_all) : Ev C n nm ρ ow (.Name x pos) d := by
 intro A Xo env oa s rm st ok
 apply byc;intro kz
 obtain ⟨m, hm, h1, _⟩ := ok.loc
 obtain ⟨v, e1, e2⟩ := h1 x d hd hx
 apply kz;clear kz
 exact wpAny_Name (wpAny_loadName_local ok.kind (ok.kindL x hx) hm e1 ⟨st, Kp.refl, e2⟩) hb
theorem Qan {x : Str} {pos : Pos} {d : PV} (hx : Qdi nm x = true) (hd : ρ.lookup x = some d) (hb : (x == ("__debug__" : Str)) = false := by k_all)
  (hc : (x == ("__classdict__" : Str)) = false := by k_all) : Ev C n nm ρ ow (.Name x pos) d := by
 intro A Xo env oa s rm st ok
 apply byc;intro kz
 obtain ⟨c, v, e1, e2, e3⟩ := ok.cel x d hd hx
 apply kz;clear kz
 rcases ok.kindC x hx with hk | hk
 ·exact wpAny_Name (wpAny_loadName_cell ok.kind hk e1 e2 ⟨st, Kp.refl, e3⟩) hb
 ·exact wpAny_Name (wpAny_loadName_free ok.kind hk e1 e2 ⟨st, Kp.refl, e3⟩ hc) hb
theorem evT_own {x : Str} {pos : Pos} {d : PV} (hx : (Qdm nm x || Qdi nm x) = true) (hb : (x == ("__debug__" : Str)) = false := by k_all)
  (hc : (x == ("__classdict__" : Str)) = false := by k_all) : EvT C n nm ρ (some (x, d)) (.Name x pos) d := by
 intro A Xo env oa s rm st ok
 apply byc;intro kz
 obtain ⟨_, a, h1, h2, h3, h4⟩ := ok.own x d rfl
 apply kz;clear kz
 by_cases hl : Qdm nm x = true
 ·apply byc;intro kz
  obtain ⟨m, hm, _, h5⟩ := ok.loc
  obtain ⟨a', e1, e2⟩ := h5 x d rfl hl
  apply kz;clear kz
  rw [h1] at e1; cases e1
  exact wpAny_Name (wpAny_loadName_local ok.kind (ok.kindL x hl) hm e2 ⟨st, Kp.refl, a, rfl, h4⟩) hb
 ·have hx' : Qdi nm x = true := by simpa [hl] using hx
  apply byc;intro kz
  obtain ⟨c, a', e1, e2, e3⟩ := ok.celO x d rfl hx'
  apply kz;clear kz
  rw [h1] at e3; cases e3
  rcases ok.kindC x hx' with hk | hk
  ·exact wpAny_Name (wpAny_loadName_cell ok.kind hk e1 e2 ⟨st, Kp.refl, a, rfl, h4⟩) hb
  ·exact wpAny_Name (wpAny_loadName_free ok.kind hk e1 e2 ⟨st, Kp.refl, a, rfl, h4⟩ hc) hb
theorem ev_glo {x : Str} {pos : Pos} {v : Value} (hx : gloB nm x = true) (hv : C.mg x = some v) (hb : (x == ("__debug__" : Str)) = false := by k_all) : Ev C n nm ρ ow (.Name x pos) (.raw v) := by
 intro A Xo env oa s rm st ok
 exact Calls.Name_function_global ok.kind (ok.kindG x hx) (Calls.loadGlobal_global (by rw [ok.glob]; exact st.g) hv ⟨st, Kp.refl, rel_raw⟩) hb
theorem ev_blt {x : Str} {pos : Pos} {v : Value} (hx : gloB nm x = true) (hn : C.mg x = none) (hv : C.mb x = some v) (hb : (x == ("__debug__" : Str)) = false := by k_all) : Ev C n nm ρ ow (.Name x pos) (.raw v) := by
 intro A Xo env oa s rm st ok
 exact Calls.Name_function_global ok.kind (ok.kindG x hx) (Calls.loadGlobal_builtin (by rw [ok.glob]; exact st.g) hn (by rw [ok.blt]; exact st.b) hv ⟨st, Kp.refl, rel_raw⟩) hb
theorem EvT.of_ev {e : Expr} {d : PV} (h : Ev C n nm ρ ow e d) (hd : ∀ X h v, Rel C X h d v -> ∃ a, v = .ref a /\ Top C X h d a) : EvT C n nm ρ ow e d := fun A Xo env oa s rm st ok =>
 wpAny_mono (h A Xo env oa s rm st ok) (fun v s' ⟨a, b, r⟩ => ⟨a, b, hd _ _ _ r⟩) nof
theorem top_lst {l : List PV} : ∀ X h v, Rel C X h (.lst l) v -> ∃ a, v = .ref a /\ Top C X h (.lst l) a := fun X h v r => by
 obtain ⟨a, vs, n, rfl, _, e, r⟩ := r; exact ⟨a, rfl, vs, n, e, r⟩
theorem top_tup {l : List PV} : ∀ X h v, Rel C X h (.tup l) v -> ∃ a, v = .ref a /\ Top C X h (.tup l) a := fun X h v r => by
 obtain ⟨a, vs, n, rfl, _, e, r⟩ := r; exact ⟨a, rfl, vs, n, e, r⟩
theorem top_dctI {l : List (Int × PV)} : ∀ X h v, Rel C X h (.dctI l) v -> ∃ a, v = .ref a /\ Top C X h (.dctI l) a := fun X h v r => by
 obtain ⟨a, kvs, rfl, z, e, r⟩ := r; exact ⟨a, rfl, z.2, kvs, e, r⟩
theorem Ev.tl {e : Expr} {l : List PV} (h : Ev C n nm ρ ow e (.lst l)) : EvT C n nm ρ ow e (.lst l) := .of_ev h top_lst
theorem Ev.tt {e : Expr} {l : List PV} (h : Ev C n nm ρ ow e (.tup l)) : EvT C n nm ρ ow e (.tup l) := .of_ev h top_tup
theorem Ev.ti {e : Expr} {l : List (Int × PV)} (h : Ev C n nm ρ ow e (.dctI l)) : EvT C n nm ρ ow e (.dctI l) := .of_ev h top_dctI
theorem Qag {i : Int} {k : Nat} {pos : Pos} : Ev C n nm ρ ow (.Constant (.int i) k pos) (.int i) := fun A Xo env oa s rm st ok => wpAny_Constant_int (Qcd st Qbr)
theorem Qdf {x : Str} {k : Nat} {pos : Pos} : Ev C n nm ρ ow (.Constant (.str x) k pos) (.str x) := fun A Xo env oa s rm st ok => Calls.Constant_str (Qcd st Qdy)
theorem ev_bytes {b : List UInt8} {k : Nat} {pos : Pos} : Ev C n nm ρ ow (.Constant (.bytes b) k pos) (.bytes b.toArray) := fun A Xo env oa s rm st ok Γ p hΓ => by
 show Sem.wp (Mo C) Γ (eval (.Constant (.bytes b) k pos) env) _ _ p s
 exact Qcd (C := C) (t := s.toks + 1) st rel_bytes
theorem Qaj {l r : Expr} {op : Operator} {pos : Pos} {d1 d2 d : PV} (hl : Ev C n nm ρ ow l d1) (hr : Ev C n nm ρ ow r d2) (ho : OpB C n op d1 d2 d) : Ev C n nm ρ ow (.BinOp l op r pos) d := by
 intro A Xo env oa s rm st ok
 refine wpAny_BinOp (wpAny_mono (hl A Xo env oa s rm st ok) (fun v1 s₁ ⟨st1, k1, r1⟩ => wpAny_mono (hr A Xo env oa s₁ rm st1 (ok.kp st st1 k1)) (fun v2 s₂ hz => ?_) nof) nof)
 apply byc;intro kz
 obtain ⟨st2, k2, r2⟩ := hz
 apply kz;clear kz
 exact wpAny_mono (ho A _ s₂ v1 v2 rm st2 ((ok.kp st st1 k1).kp st1 st2 k2).lowX (r1.kp st1 k2) r2) (fun v s₃ p => p.of (k1.trans k2)) nof
theorem ev_cmp {l r : Expr} {op : CmpOp} {pos : Pos} {d1 d2 : PV} {b : Bool} (hl : Ev C n nm ρ ow l d1) (hr : Ev C n nm ρ ow r d2) (ho : OpC C n op d1 d2 b)
  (hm : behindInMarks op r = false := by k_all) : Ev C n nm ρ ow (.Compare l [op] [r] pos) (.bool b) := by
 intro A Xo env oa s rm st ok
 refine wpAny_Compare1 (wpAny_mono (hl A Xo env oa s rm st ok) (fun v1 s₁ ⟨st1, k1, r1⟩ => wpAny_mono (hr A Xo env oa s₁ rm st1 (ok.kp st st1 k1)) (fun v2 s₂ hz => ?_) nof) nof) hm
 apply byc;intro kz
 obtain ⟨st2, k2, r2⟩ := hz
 apply kz;clear kz
 exact wpAny_mono (ho A _ s₂ v1 v2 rm st2 ((ok.kp st st1 k1).kp st1 st2 k2).lowX (r1.kp st1 k2) r2) (fun v s₃ p => p.of (k1.trans k2)) nof
theorem Qbk {l r : Expr} {op : CmpOp} {pos : Pos} {d1 d2 : PV} {b : Bool} (hl : Ev C n nm ρ ow l d1) (hr : Ev C n nm ρ ow r d2) (ho : OpC C n op d1 d2 b)
  (hm : behindInMarks op r = false := by k_all) : Tv C n nm ρ ow (.Compare l [op] [r] pos) b := by
 intro A Xo env oa s rm st ok
 refine wpAny_isTrue_Compare1 (wpAny_mono (hl A Xo env oa s rm st ok) (fun v1 s₁ ⟨st1, k1, r1⟩ => wpAny_mono (hr A Xo env oa s₁ rm st1 (ok.kp st st1 k1)) (fun v2 s₂ hz => ?_) nof) nof) hm
 apply byc;intro kz
 obtain ⟨st2, k2, r2⟩ := hz
 apply kz;clear kz
 refine wpAny_mono (ho A _ s₂ v1 v2 rm st2 ((ok.kp st st1 k1).kp st1 st2 k2).lowX (r1.kp st1 k2) r2) (fun v s₃ p => ?_) nof
 obtain ⟨p1, p2, p3⟩ := p
 subst p3
 exact wpAny_truthy_bool ⟨p1, (k1.trans k2).trans p2, rfl⟩
theorem Qbo {a b : Int} : OpB C n .Add (.int a) (.int b) (.int (a + b)) := by
 intro A X s v1 v2 rm st lo r1 r2
 obtain ⟨t, rfl⟩ := r1; obtain ⟨u, rfl⟩ := r2
 exact PyProof.Rows.add_int (Qcd st Qbr)
theorem op_iadd_int {a b : Int} : OpI C n .Add (.int a) (.int b) (.int (a + b)) := by
 intro A X s v1 v2 rm st lo r1 r2
 obtain ⟨t, rfl⟩ := r1; obtain ⟨u, rfl⟩ := r2
 exact wpAny_iadd_int (Qcd st Qbr)
theorem Qav {a b : Int} : OpB C n .Sub (.int a) (.int b) (.int (a - b)) := by
 intro A X s v1 v2 rm st lo r1 r2
 obtain ⟨t, rfl⟩ := r1; obtain ⟨u, rfl⟩ := r2
 exact PyProof.Rows.sub_int (Qcd st Qbr)
theorem Qcn {a b : Int} (hm : IntMulOk a b) : OpB C n .Mult (.int a) (.int b) (.int (a * b)) := by
 intro A X s v1 v2 rm st lo r1 r2
 obtain ⟨t, rfl⟩ := r1; obtain ⟨u, rfl⟩ := r2
 exact PyProof.Rows.mul_int (Qcd st Qbr) hm
theorem Qco {a b : Int} (hb : b ≠ 0) : OpB C n .Mod (.int a) (.int b) (.int (a.fmod b)) := by
 intro A X s v1 v2 rm st lo r1 r2
 obtain ⟨t, rfl⟩ := r1; obtain ⟨u, rfl⟩ := r2
 exact PyProof.Rows.mod_int hb (Qcd st Qbr)
theorem Qdq {a b : Int} (hb : b ≠ 0) (hp : Builtin.divisionGoesByPylong a b = false) : OpB C n .FloorDiv (.int a) (.int b) (.int (a.fdiv b)) := by
 intro A X s v1 v2 rm st lo r1 r2
 obtain ⟨t, rfl⟩ := r1; obtain ⟨u, rfl⟩ := r2
 exact PyProof.Rows.floordiv_int hb (Qcd st Qbr) (.inl hp)
theorem op_pow_int {a k : Int} (hk : 0 <= k) (hsz : (Builtin.Int.intBits a : Int) * k <= 2 ^ 27) : OpB C n .Pow (.int a) (.int k) (.int (a ^ k.toNat)) := by
 intro A X s v1 v2 rm st lo r1 r2
 obtain ⟨t, rfl⟩ := r1; obtain ⟨u, rfl⟩ := r2
 exact PyProof.Rows.pow_int hk hsz (Qcd st Qbr)
theorem op_add_str {a b : Str} (hsz : a.length + b.length <= sizeLine) : OpB C n .Add (.str a) (.str b) (.str (a ++ b)) := by
 intro A X s v1 v2 rm st lo r1 r2
 obtain ⟨t, rfl⟩ := r1; obtain ⟨u, rfl⟩ := r2
 exact Qbj st.pos (PyProof.Rows.add_str (fun t' tk hp => Qcd st Qdy hp) hsz)
theorem opc_lt {a b : Int} : OpC C n .Lt (.int a) (.int b) (decide (a < b)) := by
 intro A X s v1 v2 rm st lo r1 r2
 obtain ⟨t, rfl⟩ := r1; obtain ⟨u, rfl⟩ := r2
 exact PyProof.Rows.lt_int ⟨st, Kp.refl, Qbv⟩
theorem opc_gt {a b : Int} : OpC C n .Gt (.int a) (.int b) (decide (b < a)) := by
 intro A X s v1 v2 rm st lo r1 r2
 obtain ⟨t, rfl⟩ := r1; obtain ⟨u, rfl⟩ := r2
 exact PyProof.Rows.gt_int ⟨st, Kp.refl, Qbv⟩
theorem opc_le {a b : Int} : OpC C n .LtE (.int a) (.int b) (decide (a <= b)) := by
 intro A X s v1 v2 rm st lo r1 r2
 obtain ⟨t, rfl⟩ := r1; obtain ⟨u, rfl⟩ := r2
 exact PyProof.Rows.le_int ⟨st, Kp.refl, Qbv⟩
theorem opc_ge {a b : Int} : OpC C n .GtE (.int a) (.int b) (decide (b <= a)) := by
 intro A X s v1 v2 rm st lo r1 r2
 obtain ⟨t, rfl⟩ := r1; obtain ⟨u, rfl⟩ := r2
 exact PyProof.Rows.ge_int ⟨st, Kp.refl, Qbv⟩
theorem opc_eq {a b : Int} : OpC C n .Eq (.int a) (.int b) (a == b) := by
 intro A X s v1 v2 rm st lo r1 r2
 obtain ⟨t, rfl⟩ := r1; obtain ⟨u, rfl⟩ := r2
 exact PyProof.Rows.eq_int ⟨st, Kp.refl, Qbv⟩
theorem opc_ne {a b : Int} : OpC C n .NotEq (.int a) (.int b) (a != b) := by
 intro A X s v1 v2 rm st lo r1 r2
 obtain ⟨t, rfl⟩ := r1; obtain ⟨u, rfl⟩ := r2
 exact PyProof.Rows.ne_int ⟨st, Kp.refl, Qbv⟩
theorem opc_eq_str {a b : Str} : OpC C n .Eq (.str a) (.str b) (a == b) := by
 intro A X s v1 v2 rm st lo r1 r2
 obtain ⟨t, rfl⟩ := r1; obtain ⟨u, rfl⟩ := r2
 exact PyProof.Rows.eq_str ⟨st, Kp.refl, Qbv⟩
theorem Qfm {a b : Str} : OpC C n .NotEq (.str a) (.str b) (a != b) := by
 intro A X s v1 v2 rm st lo r1 r2
 obtain ⟨t, rfl⟩ := r1; obtain ⟨u, rfl⟩ := r2
 exact PyProof.Rows.ne_str ⟨st, Kp.refl, Qbv⟩
end
section
set_option tactic.hygienic false
theorem Tv.cast {e : Expr} {b b' : Bool} (h : Tv C n nm ρ ow e b) (e' : b = b') : Tv C n nm ρ ow e b' := e' ▸ h
theorem Ev.cast {e : Expr} {d d' : PV} (h : Ev C n nm ρ ow e d) (e' : d = d') : Ev C n nm ρ ow e d' := e' ▸ h
theorem tv_or_nil {pos : Pos} : Tv C n nm ρ ow (.BoolOp .Or [] pos) false := fun A Xo env oa s rm st ok => isTrue_or_nil ⟨st, Kp.refl, rfl⟩
theorem tv_and_nil {pos : Pos} : Tv C n nm ρ ow (.BoolOp .And [] pos) true := fun A Xo env oa s rm st ok => isTrue_and_nil ⟨st, Kp.refl, rfl⟩
theorem tv_or {x : Expr} {rest : List Expr} {pos : Pos} {b c : Bool} (hx : Tv C n nm ρ ow x b) (hr : b = false -> Tv C n nm ρ ow (.BoolOp .Or rest pos) c) : Tv C n nm ρ ow (.BoolOp .Or (x :: rest) pos) (b || c) := by
 intro A Xo env oa s rm st ok
 refine isTrue_or (wpAny_mono (hx A Xo env oa s rm st ok) (fun v s₁ hz => ?_) nof)
 apply byc;intro kz
 obtain ⟨st1, k1, e⟩ := hz
 apply kz;clear kz
 subst e
 cases v with
 | true => exact ⟨st1, k1, rfl⟩
 | false => exact wpAny_mono (hr rfl A Xo env oa s₁ rm st1 (ok.kp st st1 k1)) (fun v s₂ p => p.of k1) nof
theorem tv_and {x : Expr} {rest : List Expr} {pos : Pos} {b c : Bool} (hx : Tv C n nm ρ ow x b) (hr : b = true -> Tv C n nm ρ ow (.BoolOp .And rest pos) c) : Tv C n nm ρ ow (.BoolOp .And (x :: rest) pos) (b && c) := by
 intro A Xo env oa s rm st ok
 refine isTrue_and (wpAny_mono (hx A Xo env oa s rm st ok) (fun v s₁ hz => ?_) nof)
 apply byc;intro kz
 obtain ⟨st1, k1, e⟩ := hz
 apply kz;clear kz
 subst e
 cases v with
 | false => exact ⟨st1, k1, rfl⟩
 | true => exact wpAny_mono (hr rfl A Xo env oa s₁ rm st1 (ok.kp st st1 k1)) (fun v s₂ p => p.of k1) nof
theorem tv_bool {e : Expr} {b : Bool} (h : Ev C n nm ρ ow e (.bool b)) (he : ∀ env whole, isTrue e env whole = (do let v ← whole; standAt e.pos; holding [v] (truthy v)) := by k_all) : Tv C n nm ρ ow e b := by
 intro A Xo env oa s rm st ok
 refine isTrue_plain (wpAny_mono (h A Xo env oa s rm st ok) (fun v s₁ hz => ?_) nof) (he _ _)
 apply byc;intro kz
 obtain ⟨st1, k1, r⟩ := hz
 apply kz;clear kz
 subst r
 exact wpAny_truthy_bool ⟨st1, k1, rfl⟩
theorem tv_chain {l r r' : Expr} {op op' : CmpOp} {pos : Pos} {d1 d2 d3 : PV} {b c : Bool} (hl : Ev C n nm ρ ow l d1) (hr : Ev C n nm ρ ow r d2) (hr' : Ev C n nm ρ ow r' d3) (ho : OpC C n op d1 d2 b) (ho' : OpC C n op' d2 d3 c)
  (hm : lastMarks [op, op'] [r, r'] = false := by k_all) : Tv C n nm ρ ow (.Compare l [op, op'] [r, r'] pos) (b && c) := by
 intro A Xo env oa s rm st ok
 refine isTrue_chain (wpAny_mono (hl A Xo env oa s rm st ok) (fun v1 s₁ hz => ?_) nof) hm
 apply byc;intro kz
 obtain ⟨st1, k1, r1⟩ := hz
 apply kz;clear kz
 have ok1 := ok.kp st st1 k1
 refine test_link (wpAny_mono (hr A Xo env oa s₁ rm st1 ok1) (fun v2 s₂ hz => ?_) nof)
 apply byc;intro kz
 obtain ⟨st2, k2, r2⟩ := hz
 apply kz;clear kz
 have ok2 := ok1.kp st1 st2 k2
 refine wpAny_mono (ho A _ s₂ v1 v2 rm st2 ok2.lowX (r1.kp st1 k2) r2) (fun v s₃ p => ?_) nof
 obtain ⟨st3, k3, p3⟩ := p
 subst p3
 refine wpAny_truthy_bool ?_
 cases b with
 | false => exact ⟨st3, (k1.trans k2).trans k3, rfl⟩
 | true =>
  have ok3 := ok2.kp st2 st3 k3
  refine test_last (wpAny_mono (hr' A Xo env oa s₃ rm st3 ok3) (fun v3 s₄ hz => ?_) nof)
  apply byc;intro kz
  obtain ⟨st4, k4, r3⟩ := hz
  apply kz;clear kz
  have ok4 := ok3.kp st3 st4 k4
  refine wpAny_mono (ho' A _ s₄ v2 v3 rm st4 ok4.lowX ((r2.kp st2 k3).kp st3 k4) r3) (fun v s₅ p => ?_) nof
  obtain ⟨st5, k5, p5⟩ := p
  subst p5
  exact wpAny_truthy_bool ⟨st5, (((k1.trans k2).trans k3).trans k4).trans k5, rfl⟩
theorem Qge {t b o : Expr} {pos : Pos} {c : Bool} {d1 d2 : PV} (ht : Tv C n nm ρ ow t c) (h1 : c = true -> Ev C n nm ρ ow b d1) (h2 : c = false -> Ev C n nm ρ ow o d2) : Ev C n nm ρ ow (.IfExp t b o pos) (if c then d1 else d2) := by
 intro A Xo env oa s rm st ok
 refine wpAny_IfExp (wpAny_mono (ht A Xo env oa s rm st ok) (fun v s₁ hz => ?_) nof)
 apply byc;intro kz
 obtain ⟨st1, k1, e⟩ := hz
 apply kz;clear kz
 subst e
 cases v with
 | true => exact wpAny_mono (h1 rfl A Xo env oa s₁ rm st1 (ok.kp st st1 k1)) (fun v s₂ p => p.of k1) nof
 | false => exact wpAny_mono (h2 rfl A Xo env oa s₁ rm st1 (ok.kp st st1 k1)) (fun v s₂ p => p.of k1) nof
theorem ev_neg {x : Expr} {pos : Pos} {a : Int} (h : Ev C n nm ρ ow x (.int a)) : Ev C n nm ρ ow (.UnaryOp .USub x pos) (.int (-a)) := by
 intro A Xo env oa s rm st ok
 refine wpAny_UnaryOp (wpAny_mono (h A Xo env oa s rm st ok) (fun v s₁ hz => ?_) nof)
 apply byc;intro kz
 obtain ⟨st1, k1, r⟩ := hz
 obtain ⟨t, rfl⟩ := r
 apply kz;clear kz
 exact PyProof.Rows.neg_int ((Qcd st1 Qbr).of k1)
theorem Qfw {a b : Bool} : OpC C n .IsNot (.bool a) (.bool b) (a != b) := by
 intro A X s v1 v2 rm st lo r1 r2
 subst r1; subst r2
 exact isnot_bool ⟨st, Kp.refl, Qbv⟩
structure PostL (C : Cfg) (X : Addr -> Prop) (s : Shared) (ds : List PV) (vs : List Value) (s' : Shared) : Prop where
 st : St C s'
 kp : Kp C s s'
 rel : RelL C X s'.heap ds vs
noncomputable def EvL (C : Cfg) (n : Nat) (nm : Qck) (ρ : Qbs) (ow : Option (Str × PV)) (es : List Expr) (ds : List PV) : Prop :=
 ∀ A Xo env oa s pos, Room A n -> St C s -> EnvOK C nm Xo env oa s.heap ρ ow -> wpAny (Mo C) A (spliced (backTo pos (starEach es env))) (PostL C (XS Xo env oa) s ds) NoE s
theorem Qbw {h : Heap} : RelL C X h [] [] := rfl
theorem Qbc {h : Heap} {d : PV} {ds : List PV} {v : Value} {vs : List Value} (r : Rel C X h d v) (rs : RelL C X h ds vs) : RelL C X h (d :: ds) (v :: vs) := by
 exact ⟨v, vs, rfl, r, rs⟩
theorem Qdt : EvL C n nm ρ ow [] [] := fun A Xo env oa s pos rm st ok => wpAny_items_nil ⟨st, Kp.refl, Qbw⟩
theorem Qao {e : Expr} {es : List Expr} {d : PV} {ds : List PV} (h : Ev C n nm ρ ow e d) (hs : EvL C n nm ρ ow es ds) (he : ∀ env, starEach (e :: es) env = (false, eval e env) :: starEach es env := by k_all) :
  EvL C n nm ρ ow (e :: es) (d :: ds) := by
 intro A Xo env oa s pos rm st ok
 refine wpAny_items_cons (wpAny_mono (h A Xo env oa s rm st ok) (fun v s₁ ⟨st1, k1, r⟩ => wpAny_mono (hs A Xo env oa s₁ pos rm st1 (ok.kp st st1 k1)) (fun vs s₂ hz => ?_) nof) nof) (he env)
 apply byc;intro kz
 obtain ⟨st2, k2, r2⟩ := hz
 apply kz;clear kz
 exact ⟨st2, k1.trans k2, Qbc (r.kp st1 k2) r2⟩
theorem RelL.length {h : Heap} : ∀ {ds : List PV} {vs : List Value}, RelL C X h ds vs -> vs.length = ds.length
 | [], _, r => by subst r; rfl
 | d :: ds, _, r => by
  apply byc;intro kz
  obtain ⟨v, vs, rfl, _, r⟩ := r
  apply kz;clear kz
  simp [RelL.length r]
theorem RelL.get {h : Heap} : ∀ {ds : List PV} {vs : List Value}, RelL C X h ds vs -> ∀ {i : Nat} {d : PV}, ds[i]? = some d -> ∃ v, vs[i]? = some v /\ Rel C X h d v
 | [], _, r, i, d, e => by simp at e
 | d :: ds, _, r, i, d', e => by
  apply byc;intro kz
  obtain ⟨v, vs, rfl, r1, r⟩ := r
  apply kz;clear kz
  cases i with
  | zero => simp at e; subst e; exact ⟨v, rfl, r1⟩
  | succ i => simp at e; simpa using RelL.get r e
theorem RelL.get' {h : Heap} : ∀ {ds : List PV} {vs : List Value}, RelL C X h ds vs -> ∀ {i : Nat} {v : Value}, vs[i]? = some v -> ∃ d, ds[i]? = some d /\ Rel C X h d v
 | [], _, r, i, d, e => by subst r; simp at e
 | d :: ds, _, r, i, d', e => by
  apply byc;intro kz
  obtain ⟨v, vs, rfl, r1, r⟩ := r
  apply kz;clear kz
  cases i with
  | zero => simp at e; subst e; exact ⟨d, rfl, r1⟩
  | succ i => simp at e; simpa using RelL.get' r e
theorem RelL.append {h : Heap} : ∀ {ds ds' : List PV} {vs vs' : List Value}, RelL C X h ds vs -> RelL C X h ds' vs' -> RelL C X h (ds ++ ds') (vs ++ vs')
 | [], ds', _, vs', r, r' => by subst r; exact r'
 | d :: ds, ds', _, vs', r, r' => by
  apply byc;intro kz
  obtain ⟨v, vs, rfl, r1, r⟩ := r
  apply kz;clear kz
  exact Qbc r1 (RelL.append r r')
theorem RelL.of_get {h : Heap} : ∀ {ds : List PV} {vs : List Value}, vs.length = ds.length -> (∀ (i : Nat) d v, ds[i]? = some d -> vs[i]? = some v -> Rel C X h d v) -> RelL C X h ds vs
 | [], vs, e, _ => by cases vs with | nil => exact Qbw | cons _ _ => simp at e
 | d :: ds, vs, e, hr => by
  cases vs with
  | nil => simp at e
  | cons v vs => exact Qbc (hr 0 d v rfl rfl) (RelL.of_get (by simpa using e) fun i d v e1 e2 => hr (i + 1) d v (by simpa using e1) (by simpa using e2))
theorem Qaa {h : Heap} {o : PySem.Obj} : ∀ b o', h.get? b = some o' -> (h.push o).get? b = some o' := fun _ _ e => Heap.get?_push_of_some _ e
theorem RelL.push {d : List PV} {v : List Value} {h : Heap} {o : PySem.Obj} (r : RelL C X h d v) : RelL C X (h.push o) d v := r.mono (fun _ _ _ e => e) fun _ _ _ _ e => Heap.get?_push_of_some _ e
theorem new_tup {h : Heap} {ds : List PV} {vs : List Value} (low : LowX X h) (r : RelL C X h ds vs) : Rel C X (h.push (Qay "tuple" vs 0)) (.tup ds) (.ref h.objs.size) := by
 exact ⟨_, vs, 0, rfl, low.fresh, Heap.get?_push_size _ rfl, r.push⟩
theorem new_lst {h : Heap} {ds : List PV} {vs : List Value} (low : LowX X h) (r : RelL C X h ds vs) : Rel C X (h.push (Qay "list" vs 0)) (.lst ds) (.ref h.objs.size) := by
 exact ⟨_, vs, 0, rfl, low.fresh, Heap.get?_push_size _ rfl, r.push⟩
theorem Qbz {es : List Expr} {k : Nat} {pos : Pos} {ds : List PV} (h : EvL C n nm ρ ow es ds) (hsz : ds.length <= sizeLine) : Ev C n nm ρ ow (.Tuple es k pos) (.tup ds) := by
 intro A Xo env oa s rm st ok
 refine wpAny_Tuple_spliced (wpAny_mono (h A Xo env oa s pos rm st ok) (fun vs s₁ ⟨st1, k1, r⟩ => ⟨by rw [r.length]; exact hsz, ?_⟩) nof)
 exact (Qdd (t := s₁.toks) st1 Qaa (new_tup (ok.kp st st1 k1).lowX r)).of k1
theorem Qgd {es : List Expr} {pos : Pos} {ds : List PV} (h : EvL C n nm ρ ow es ds) (hsz : ds.length <= sizeLine) : Ev C n nm ρ ow (.List es pos) (.lst ds) := by
 intro A Xo env oa s rm st ok
 refine wpAny_List (wpAny_mono (h A Xo env oa s pos rm st ok) (fun vs s₁ ⟨st1, k1, r⟩ => ⟨by rw [r.length]; exact hsz, ?_⟩) nof)
 exact (Qdd (t := s₁.toks) st1 Qaa (new_lst (ok.kp st st1 k1).lowX r)).of k1
theorem Top.kp {d : PV} {a : Addr} (t : Top C X s.heap d a) (st : St C s) (k : Kp C s s') : Top C X s'.heap d a :=
 t.mono (fun _ _ _ e => e) (k.cont st X) fun o hc e => k a o (st.pt_cont e hc) e
theorem Qar {v sl : Expr} {pos : Pos} {l : List PV} {i : Int} {d : PV} (hv : EvT C n nm ρ ow v (.lst l)) (hs : Ev C n nm ρ ow sl (.int i)) (h0 : 0 <= i) (hl : l[i.toNat]? = some d) (hf : i < 2 ^ 63)
  (hsub : ∀ o t, subscripted sl false o (.int i t) = operate [o, .int i t] (getItem o (.int i t)) := by k_all) : Ev C n nm ρ ow (.Subscript v sl pos) d := by
 intro A Xo env oa s rm st ok
 refine Subscript_ (wpAny_mono (hv A Xo env oa s rm st ok) (fun v1 s₁ ⟨st1, k1, r1⟩ => wpAny_mono (hs A Xo env oa s₁ rm st1 (ok.kp st st1 k1)) (fun v2 s₂ hz => ?_) nof) nof)
 apply byc;intro kz
 obtain ⟨st2, k2, r2⟩ := hz
 obtain ⟨a, rfl, t⟩ := r1
 obtain ⟨vs, m, e, r⟩ := t.kp st1 k2
 obtain ⟨t, rfl⟩ := r2
 obtain ⟨x, hx, rx⟩ := r.get hl
 apply kz;clear kz
 have il : s₂.heap.IsList a vs.toArray := ⟨_, e, rfl, _, rfl⟩
 exact tail_any il.typeIs slot_list_getitem.lookup (wpAny_getItem_list il h0 hf (by simpa using hx) ⟨st2, k1.trans k2, rx⟩) (hsub _ _)
theorem Qdk {v sl : Expr} {pos : Pos} {l : List PV} {i : Int} {d : PV} (hv : EvT C n nm ρ ow v (.tup l)) (hs : Ev C n nm ρ ow sl (.int i)) (h0 : 0 <= i) (hl : l[i.toNat]? = some d) (hf : i < 2 ^ 63)
  (hsub : ∀ o t, subscripted sl false o (.int i t) = operate [o, .int i t] (getItem o (.int i t)) := by k_all) : Ev C n nm ρ ow (.Subscript v sl pos) d := by
 intro A Xo env oa s rm st ok
 refine Subscript_ (wpAny_mono (hv A Xo env oa s rm st ok) (fun v1 s₁ ⟨st1, k1, r1⟩ => wpAny_mono (hs A Xo env oa s₁ rm st1 (ok.kp st st1 k1)) (fun v2 s₂ hz => ?_) nof) nof)
 apply byc;intro kz
 obtain ⟨st2, k2, r2⟩ := hz
 obtain ⟨a, rfl, t⟩ := r1
 obtain ⟨vs, m, e, r⟩ := t.kp st1 k2
 obtain ⟨t, rfl⟩ := r2
 obtain ⟨x, hx, rx⟩ := r.get hl
 apply kz;clear kz
 have il : IsTup s₂.heap a vs.toArray := ⟨_, e, rfl, _, rfl⟩
 have hlen : i.toNat < vs.length := by
  rcases Nat.lt_or_ge i.toNat vs.length with h | h
  ·exact h
  ·rw [List.getElem?_eq_none h] at hx; cases hx
 exact tail_any il.typeIs slot_tuple_getitem.lookup (PyProof.Rows.getItem_tuple (j := i.toNat) il (by lia) hf (by
  unfold seqIndex?
  have e1 : (vs.toArray.size : Nat) = vs.length := by simp
  simp only [e1]
  first
   | (simp; lia)
   | (rw [if_neg (by lia)]; simp; lia)) (by simpa using hx) ⟨st2, k1.trans k2, rx⟩) (hsub _ _)
end
section
set_option tactic.hygienic false
noncomputable def IterAt (h : Heap) (b : Addr) : Prop := ∃ o vs, h.get? b = some o /\ o.data = .fields vs /\ o.cls ≠ .type "range" /\ o.cls ≠ .none
theorem IterAt.ne_cont {h : Heap} {b : Addr} (x : IterAt h b) {o : PySem.Obj} (e : h.get? b = some o) (hc : Obj.cont o) : False := by
 obtain ⟨o', vs, e', hd, hr, _⟩ := x
 rw [e] at e'; cases e'
 rcases hc with ⟨_, _, z⟩ | ⟨_, _, z⟩ | z | ⟨z, _⟩
 ·rw [hd] at z; cases z
 ·rw [hd] at z; cases z
 ·rw [hd] at z; cases z
 ·exact hr z
theorem IterAt.ne_cell {h : Heap} {b : Addr} (x : IterAt h b) {o : PySem.Obj} {v : Option Value} (e : h.get? b = some o) (hc : o.data = .cell v) : False := by
 obtain ⟨o', vs, e', hd, hr, _⟩ := x
 rw [e] at e'; cases e'
 rw [hd] at hc; cases hc
theorem IterAt.ne_pt {b : Addr} (x : IterAt s.heap b) (st : St C s) : b ≠ C.PT := by
 rintro rfl
 obtain ⟨o', vs, e', hd, _, hr⟩ := x
 obtain ⟨ws, rfl⟩ := st.pt e'
 exact hr rfl
noncomputable def ownTypes : List String := ["enumerate", "zip", "dict_itemiterator", "dict_reverseitemiterator", "odict_iterator", "itertools.zip_longest", "itertools.pairwise"]
structure ItrD (C : Cfg) (s : Shared) (ds : List PV) (F : Addr -> Prop) (I : Addr) (fp wr : List Addr) (P : Nat -> Value -> Prop) (Stt : Nat -> Heap -> Prop) (V : (Addr -> Prop) -> Heap -> Prop) : Prop where
 W : ∀ A : Around, A.handled = none -> Walks Pr C.w A I fp wr ds.length P Stt
 mono : ∀ (X Y : Addr -> Prop) (h h' : Heap), (∀ a o, h.get? a = some o -> Y a -> X a) -> Cont X h h' -> V X h -> V Y h'
 val : ∀ X h i v, V X h -> P i v -> i < ds.length -> ∃ d, ds[i]? = some d /\ Rel C X h d v
 iter : ∀ i h, Stt i h -> ∀ b ∈ wr, IterAt h b
 cls : ∀ i h, Stt i h -> ∃ o T, h.get? I = some o /\ o.cls = .type T /\ ownTypes.contains T = false
 wrN : ∀ b ∈ wr, s.heap.get? b = none
 fpK : ∀ b ∈ fp, s.heap.get? b = none ∨ F b /\ ∃ o, s.heap.get? b = some o /\ Obj.cont o
inductive Itr (C : Cfg) (X : Addr -> Prop) (s : Shared) (ds : List PV) (F : Addr -> Prop) (it : Value) (h : Heap) : Prop
 | mk (I : Addr) (fp wr : List Addr) (P : Nat -> Value -> Prop) (Stt : Nat -> Heap -> Prop) (V : (Addr -> Prop) -> Heap -> Prop) (e : it = .ref I) (D : ItrD C s ds F I fp wr P Stt V) (h0 : Stt 0 h) (hV : V X h) (hlt : ∀ b ∈ fp, ∃ o, h.get? b = some o)
structure PostIt (C : Cfg) (X : Addr -> Prop) (s : Shared) (ds : List PV) (F : Addr -> Prop) (it : Value) (s' : Shared) : Prop where
 st : St C s'
 kp : Kp C s s'
 itr : Itr C X s ds F it s'.heap
noncomputable def Qek : PV -> Option (List PV)
 | .lst l => some l
 | .tup l => some l
 | .dctI l => some (l.map fun kv => .int kv.1)
 | .dctS l => some (l.map fun kv => .str kv.1)
 | .str x => some (x.cps.toList.map fun c => .str ⟨#[c]⟩)
 | .rng a b c => if Builtin.Range.small a b c then some ((List.range (Builtin.Range.rangeSize a b c).toNat).map fun (i : Nat) => .int (a + i * c)) else none
 | _ => none
theorem items_rng {a b c : Int} (h : Builtin.Range.small a b c = true) : Qek (.rng a b c) = some ((List.range (Builtin.Range.rangeSize a b c).toNat).map fun (i : Nat) => .int (a + i * c)) := if_pos h
theorem nos {α : Type} {a : α} (h : none = some a) : False := nomatch h
theorem RelI.keys {h : Heap} : ∀ {l : List (Int × PV)} {kvs : List (Int × Value)}, RelI C X h l kvs -> kvs.map (·.1) = l.map (·.1) /\ RelL C X h (l.map (·.2)) (kvs.map (·.2))
 | [], _, r => by subst r; exact ⟨rfl, Qbw⟩
 | (k, d) :: l, _, r => by
  obtain ⟨v, kvs, rfl, r1, r⟩ := r
  obtain ⟨e1, e2⟩ := RelI.keys r
  exact ⟨by simp [e1], Qbc r1 e2⟩
theorem RelS.keys {h : Heap} : ∀ {l : List (Str × PV)} {kvs : List (Str × Value)}, RelS C X h l kvs -> kvs.map (·.1) = l.map (·.1) /\ RelL C X h (l.map (·.2)) (kvs.map (·.2))
 | [], _, r => by subst r; exact ⟨rfl, Qbw⟩
 | (k, d) :: l, _, r => by
  obtain ⟨v, kvs, rfl, r1, r⟩ := r
  obtain ⟨e1, e2⟩ := RelS.keys r
  exact ⟨by simp [e1], Qbc r1 e2⟩
theorem RelI.of_keys {h : Heap} : ∀ {l : List (Int × PV)} {kvs : List (Int × Value)}, kvs.map (·.1) = l.map (·.1) -> RelL C X h (l.map (·.2)) (kvs.map (·.2)) -> RelI C X h l kvs
 | [], kvs, e, _ => by simp at e; subst e; rfl
 | (k, d) :: l, [], e, _ => by simp at e
 | (k, d) :: l, (k', v) :: kvs, e, r => by
  simp only [List.map_cons, List.cons.injEq] at e
  obtain ⟨rfl, e⟩ := e
  obtain ⟨v', r', e', r1, r2⟩ := r
  cases e'
  exact ⟨v, kvs, rfl, r1, RelI.of_keys e r2⟩
theorem RelS.of_keys {h : Heap} : ∀ {l : List (Str × PV)} {kvs : List (Str × Value)}, kvs.map (·.1) = l.map (·.1) -> RelL C X h (l.map (·.2)) (kvs.map (·.2)) -> RelS C X h l kvs
 | [], kvs, e, _ => by simp at e; subst e; rfl
 | (k, d) :: l, [], e, _ => by simp at e
 | (k, d) :: l, (k', v) :: kvs, e, r => by
  simp only [List.map_cons, List.cons.injEq] at e
  obtain ⟨rfl, e⟩ := e
  obtain ⟨v', r', e', r1, r2⟩ := r
  cases e'
  exact ⟨v, kvs, rfl, r1, RelS.of_keys e r2⟩
theorem Qet {o : PySem.Obj} {ds : List PV} {F : Addr -> Prop} {fp wr : List Addr} {P : Nat -> Value -> Prop} {Stt : Nat -> Heap -> Prop} {V : (Addr -> Prop) -> Heap -> Prop} (st : St C s)
  (D : ItrD C s ds F s.heap.objs.size fp wr P Stt V) (h0 : Stt 0 (s.heap.push o)) (hV : V X (s.heap.push o)) (hfr : o.data ≠ .freed) (hfp : ∀ b ∈ fp, b = s.heap.objs.size ∨ ∃ o, s.heap.get? b = some o) : PostIt C X s ds F (.ref s.heap.objs.size) { s with heap := s.heap.push o } :=
 ⟨st.of_keep Qaa rfl rfl, fun b o _ e => Qaa b o e, _, fp, wr, P, Stt, V, rfl, D, h0, hV, fun b hb => (hfp b hb).elim (fun q => ⟨o, q ▸ Heap.get?_push_size _ (by cases o with | mk c d dt sl => cases dt <;> first | rfl | exact absurd rfl hfr)⟩) fun ⟨o', e⟩ => ⟨o', Qaa _ _ e⟩⟩
theorem Qbg {h : Heap} : h.get? h.objs.size = none := by
 cases e : h.get? h.objs.size with
 | none => rfl
 | some o => exact absurd (Heap.lt_size e) (Nat.lt_irrefl _)
theorem listIter_iterAt {h : Heap} {I ax : Addr} {i : Nat} (x : h.IsListIter I ax i) : IterAt h I := let ⟨o, ho, hc, hd⟩ := x; ⟨o, _, ho, hd, by rw [hc]; simp, by rw [hc]; simp⟩
theorem iter_lst {l : List PV} {a : Addr} {F : Addr -> Prop} (st : St C s) (t : Top C X s.heap (.lst l) a) (hF : F a) : wpAny (Mo C) A (pyIter (.ref a)) (PostIt C X s l F) NoE s := by
 obtain ⟨vs, m, e, r⟩ := t
 have il : s.heap.IsList a vs.toArray := ⟨_, e, rfl, _, rfl⟩
 have hlt := Heap.lt_size e
 refine wpAny_pyIter_list il (Qet (fp := [s.heap.objs.size, a]) (wr := [s.heap.objs.size]) (P := fun i v => vs.toArray[i]? = some v) (Stt := fun i h => h.IsListIter s.heap.objs.size a i /\ h.IsList a vs.toArray)
  (V := fun X h => RelL C X h l vs) st ⟨fun A hh => ?_, fun X Y h h' hX k r => r.mono hX k, fun X h i v hV hP hi => ?_, fun i h hs b hb => ?_, fun i h hs => ?_, fun b hb => ?_, fun b hb => ?_⟩ ⟨⟨_, Heap.get?_push_size _ rfl, rfl, rfl⟩, il.push _⟩ r.push (by simp) fun b hb => ?_)
 ·have := Walks.list (prog := Pr) (w := C.w) (A := A) hh s.heap.objs.size a (Nat.ne_of_lt hlt) vs.toArray
  rwa [show vs.toArray.size = l.length by simpa using r.length] at this
 ·obtain ⟨d, e1, e2⟩ := hV.get' (i := i) (v := v) (by simpa using hP)
  exact ⟨d, e1, e2⟩
 ·revert b; refine al ?_ an; exact listIter_iterAt hs.1
 ·exact (let ⟨o, ho, hc, hd⟩ := hs.1; ⟨o, _, ho, hc, by decide +kernel⟩)
 ·revert b; refine al ?_ an; exact Qbg
 ·revert b; refine al ?_ (al ?_ an)
  ·exact .inl Qbg
  ·exact .inr ⟨hF, _, e, Qbf⟩
 ·revert b; refine al ?_ (al ?_ an)
  ·exact .inl rfl
  ·exact .inr ⟨_, e⟩
theorem iter_tup {l : List PV} {a : Addr} {F : Addr -> Prop} (st : St C s) (t : Top C X s.heap (.tup l) a) (hF : F a) : wpAny (Mo C) A (pyIter (.ref a)) (PostIt C X s l F) NoE s := by
 obtain ⟨vs, m, e, r⟩ := t
 have il : s.heap.IsTuple a vs.toArray := ⟨_, e, rfl, _, rfl⟩
 have hlt := Heap.lt_size e
 refine wpAny_pyIter_tuple il (Qet (fp := [s.heap.objs.size, a]) (wr := [s.heap.objs.size]) (P := fun i v => vs.toArray[i]? = some v) (Stt := fun i h => h.IsTupleIter s.heap.objs.size a i /\ h.IsTuple a vs.toArray)
  (V := fun X h => RelL C X h l vs) st ⟨fun A hh => ?_, fun X Y h h' hX k r => r.mono hX k, fun X h i v hV hP hi => ?_, fun i h hs b hb => ?_, fun i h hs => ?_, fun b hb => ?_, fun b hb => ?_⟩ ⟨⟨_, Heap.get?_push_size _ rfl, rfl, rfl⟩, ?_⟩ r.push (by simp) fun b hb => ?_)
 ·have := Walks.tuple (prog := Pr) (w := C.w) (A := A) hh s.heap.objs.size a (Nat.ne_of_lt hlt) vs.toArray
  rwa [show vs.toArray.size = l.length by simpa using r.length] at this
 ·obtain ⟨d, e1, e2⟩ := hV.get' (i := i) (v := v) (by simpa using hP)
  exact ⟨d, e1, e2⟩
 ·revert b; refine al ?_ an; exact (let ⟨o, ho, hc, hd⟩ := hs.1; ⟨o, _, ho, hd, by rw [hc]; simp, by rw [hc]; simp⟩)
 ·exact (let ⟨o, ho, hc, hd⟩ := hs.1; ⟨o, _, ho, hc, by decide +kernel⟩)
 ·revert b; refine al ?_ an; exact Qbg
 ·revert b; refine al ?_ (al ?_ an)
  ·exact .inl Qbg
  ·exact .inr ⟨hF, _, e, Qbf⟩
 ·exact il.at fun o e => Qaa _ _ e
 ·revert b; refine al ?_ (al ?_ an)
  ·exact .inl rfl
  ·exact .inr ⟨_, e⟩
theorem iter_dct {K : Type} [DecidableEq K] {knd : KeyKind Pr C.w K} {mk : K -> PV} {kvs : List (K × Value)} {ks : List K} {a : Addr} {F : Addr -> Prop} (st : St C s) (hd : s.heap.DictOf knd a kvs) (hk : kvs.map (·.1) = ks) (hs : a ≠ sysModules)
  (hmk : ∀ k v X h, knd.is k v = true -> Rel C X h (mk k) v) (hF : F a) : wpAny (Mo C) A (pyIter (.ref a)) (PostIt C X s (ks.map mk) F) NoE s := by
 obtain ⟨ep, hat⟩ := hd.dictAt
 have hlt := hat.lt_size
 have hco : ∃ o, s.heap.get? a = some o /\ Obj.cont o := by
  obtain ⟨o, es, ep, ho, _, hdd, _⟩ := hd
  exact ⟨o, ho, .inr (.inl ⟨es, ep, hdd⟩)⟩
 refine wpAny_pyIter_dict (by simpa using hs) hat (Qet (fp := [s.heap.objs.size, a]) (wr := [s.heap.objs.size]) (P := fun i v => ∃ k x, kvs[i]? = some (k, x) /\ knd.is k v = true)
  (Stt := fun i h => h.IsKeyIter s.heap.objs.size a i kvs.length ep /\ h.DictAt knd a kvs ep)
  (V := fun X h => True) st ⟨fun A hh => ?_, fun X Y h h' hX k r => trivial, fun X h i v hV hP hi => ?_, fun i h hs b hb => ?_, fun i h hs => ?_, fun b hb => ?_, fun b hb => ?_⟩ ⟨?_, hat.push _⟩ trivial (by simp) fun b hb => ?_)
 ·have := Walks.dictKeys (knd := knd) (A := A) hh s.heap.objs.size a (Nat.ne_of_lt hlt) kvs ep
  have hl : (ks.map mk).length = kvs.length := by rw [← hk]; simp
  rw [hl]; exact this
 ·obtain ⟨k, x, e1, e2⟩ := hP
  exact ⟨mk k, by rw [← hk]; simp [e1], hmk k v X h e2⟩
 ·revert b; refine al ?_ an; exact (let ⟨o, ho, hc, hd⟩ := hs.1; ⟨o, _, ho, hd, by rw [hc]; simp, by rw [hc]; simp⟩)
 ·exact (let ⟨o, ho, hc, hd⟩ := hs.1; ⟨o, _, ho, hc, by decide +kernel⟩)
 ·revert b; refine al ?_ an; exact Qbg
 ·revert b; refine al ?_ (al ?_ an)
  ·exact .inl Qbg
  ·exact .inr ⟨hF, hco⟩
 ·exact ⟨_, Heap.get?_push_size _ rfl, rfl, rfl⟩
 ·revert b; refine al ?_ (al ?_ an)
  ·exact .inl rfl
  ·exact .inr (hco.imp fun _ h => h.1)
theorem iter_dctI {l : List (Int × PV)} {a : Addr} {F : Addr -> Prop} (st : St C s) (t : Top C X s.heap (.dctI l) a) (hF : F a) : wpAny (Mo C) A (pyIter (.ref a)) (PostIt C X s (l.map fun kv => .int kv.1) F) NoE s := by
 obtain ⟨hs, kvs, hd, r⟩ := t
 have := iter_dct (X := X) (A := A) (mk := PV.int) (ks := l.map (·.1)) (F := F) st hd.1 r.keys.1 hs (fun k v X h e => by obtain ⟨t, rfl⟩ := Value.isInt_shape e; exact Qbr) hF
 rw [List.map_map] at this; exact this
theorem iter_dctS {l : List (Str × PV)} {a : Addr} {F : Addr -> Prop} (st : St C s) (t : Top C X s.heap (.dctS l) a) (hF : F a) : wpAny (Mo C) A (pyIter (.ref a)) (PostIt C X s (l.map fun kv => .str kv.1) F) NoE s := by
 obtain ⟨hs, kvs, hd, r⟩ := t
 have := iter_dct (X := X) (A := A) (mk := PV.str) (ks := l.map (·.1)) (F := F) st hd.1 r.keys.1 hs (fun k v X h e => by obtain ⟨t, rfl⟩ := Value.isStrOf_shape e; exact Qdy) hF
 rw [List.map_map] at this; exact this
theorem iter_rng {a b c : Int} {v : Value} {F : Addr -> Prop} (st : St C s) (r : Rel C X s.heap (.rng a b c) v) (hsm : Builtin.Range.small a b c = true) :
  wpAny (Mo C) A (pyIter v) (PostIt C X s ((List.range (Builtin.Range.rangeSize a b c).toNat).map fun (i : Nat) => .int (a + i * c)) F) NoE s := by
 obtain ⟨r, t, u, w, rfl, hx, hr⟩ := r
 have h0 : 0 <= Builtin.Range.rangeSize a b c := by
  unfold Builtin.Range.rangeSize
  split
  ·split
   ·have : 0 <= (b - a - 1) / c := Int.ediv_nonneg (by lia) (by lia)
    lia
   ·lia
  ·split
   ·by_cases hc : c = 0
    ·subst hc; simp
    ·have : 0 <= (a - b - 1) / (-c) := Int.ediv_nonneg (by lia) (by lia)
     lia
   ·lia
 refine wpAny_pyIter_range hr hsm (Qet (fp := [s.heap.objs.size]) (wr := [s.heap.objs.size]) (P := fun i v => ∃ t, v = .int (a + i * c) t)
  (Stt := fun i h => IsRangeIter h s.heap.objs.size (a + (i : Nat) * c) (((Builtin.Range.rangeSize a b c).toNat : Int) - (i : Nat)) c)
  (V := fun X h => True) st ⟨fun A hh => ?_, fun X Y h h' hX k r => trivial, fun X h i v hV hP hi => ?_, fun i h hs b hb => ?_, fun i h hs => ?_, fun b hb => ?_, fun b hb => ?_⟩ ?_ trivial (by simp) fun b hb => ?_)
 ·have := Walks.range (prog := Pr) (w := C.w) (A := A) hh s.heap.objs.size a c (Builtin.Range.rangeSize a b c).toNat
  simpa using this
 ·obtain ⟨t, rfl⟩ := hP
  refine ⟨.int (a + i * c), ?_, Qbr⟩
  simp only [List.length_map, List.length_range] at hi
  simp [hi]
 ·revert b; refine al ?_ an
  unfold IsRangeIter at hs
  first
   | exact ⟨_, _, hs, rfl, by simp, by simp⟩
   | exact (let ⟨o, ho, hc, hd⟩ := hs; ⟨o, _, ho, hd, by rw [hc]; simp, by rw [hc]; simp⟩)
 ·exact ⟨_, _, hs, rfl, by decide +kernel⟩
 ·revert b; refine al ?_ an; exact Qbg
 ·revert b; refine al ?_ an; exact .inl Qbg
 ·rw [show ((Builtin.Range.rangeSize a b c).toNat : Int) = Builtin.Range.rangeSize a b c by lia]
  simp only [Int.natCast_zero, Int.zero_mul, Int.add_zero, Int.sub_zero]
  unfold IsRangeIter
  first
   | exact Heap.get?_push_size _ rfl
   | exact ⟨_, Heap.get?_push_size _ rfl, rfl, rfl⟩
 ·revert b; refine al ?_ an; exact .inl rfl
theorem iter_str {x : Str} {v : Value} {F : Addr -> Prop} (st : St C s) (r : Rel C X s.heap (.str x) v) :
  wpAny (Mo C) A (pyIter v) (PostIt C X s (x.cps.toList.map fun c => .str ⟨#[c]⟩) F) NoE s := by
 obtain ⟨t, rfl⟩ := r
 refine wpAny_pyIter_strU ?_
 by_cases ha : x.cps.all (· < 128) = true
 ·rw [show strIterType x = "str_ascii_iterator" by simp [strIterType, ha]]
  refine Qet (fp := [s.heap.objs.size]) (wr := [s.heap.objs.size]) (P := SignAt x) (Stt := fun i h => h.IsStrIter s.heap.objs.size "str_ascii_iterator" x t i)
   (V := fun X h => True) st ⟨fun A hh => ?_, fun X Y h h' hX k r => trivial, fun X h i v hV hP hi => ?_, fun i h hs b hb => ?_, fun i h hs => ?_, fun b hb => ?_, fun b hb => ?_⟩ ⟨_, Heap.get?_push_size _ rfl, rfl, rfl⟩ trivial (by simp) fun b hb => ?_
  ·have := Walks.strAscii (prog := Pr) (w := C.w) (A := A) hh s.heap.objs.size x t
   simpa using this
  ·obtain ⟨c, u, e1, e2⟩ := hP
   first
    | (subst e2; exact ⟨.str ⟨#[c]⟩, by simp [e1], Qdy⟩)
    | (subst e1; exact ⟨.str ⟨#[c]⟩, by simp [e2], Qdy⟩)
  ·revert b; refine al ?_ an; exact (let ⟨o, ho, hc, hd⟩ := hs; ⟨o, _, ho, hd, by rw [hc]; simp, by rw [hc]; simp⟩)
  ·exact (let ⟨o, ho, hc, hd⟩ := hs; ⟨o, _, ho, hc, by decide +kernel⟩)
  ·revert b; refine al ?_ an; exact Qbg
  ·revert b; refine al ?_ an; exact .inl Qbg
  ·revert b; refine al ?_ an; exact .inl rfl
 ·rw [show strIterType x = "str_iterator" by simp [strIterType, ha]]
  refine Qet (fp := [s.heap.objs.size]) (wr := [s.heap.objs.size]) (P := SignAt x) (Stt := fun i h => h.IsStrIter s.heap.objs.size "str_iterator" x t i)
   (V := fun X h => True) st ⟨fun A hh => ?_, fun X Y h h' hX k r => trivial, fun X h i v hV hP hi => ?_, fun i h hs b hb => ?_, fun i h hs => ?_, fun b hb => ?_, fun b hb => ?_⟩ ⟨_, Heap.get?_push_size _ rfl, rfl, rfl⟩ trivial (by simp) fun b hb => ?_
  ·have := Walks.strWide (prog := Pr) (w := C.w) (A := A) hh s.heap.objs.size x t
   simpa using this
  ·obtain ⟨c, u, e1, e2⟩ := hP
   first
    | (subst e2; exact ⟨.str ⟨#[c]⟩, by simp [e1], Qdy⟩)
    | (subst e1; exact ⟨.str ⟨#[c]⟩, by simp [e2], Qdy⟩)
  ·revert b; refine al ?_ an; exact (let ⟨o, ho, hc, hd⟩ := hs; ⟨o, _, ho, hd, by rw [hc]; simp, by rw [hc]; simp⟩)
  ·exact (let ⟨o, ho, hc, hd⟩ := hs; ⟨o, _, ho, hc, by decide +kernel⟩)
  ·revert b; refine al ?_ an; exact Qbg
  ·revert b; refine al ?_ an; exact .inl Qbg
  ·revert b; refine al ?_ an; exact .inl rfl
theorem Qga {d : PV} {ds : List PV} {v : Value} (st : St C s) (r : Rel C X s.heap d v) (hd : Qek d = some ds) : wpAny (Mo C) A (pyIter v) (PostIt C X s ds fun b => ¬ X b) NoE s := by
 cases d with
 | lst l =>
  obtain rfl := Option.some.inj hd
  have r' := r
  obtain ⟨a, vs, n, rfl, hx, e, rl⟩ := r'
  exact iter_lst st ⟨vs, n, e, rl⟩ hx
 | tup l =>
  obtain rfl := Option.some.inj hd
  have r' := r
  obtain ⟨a, vs, n, rfl, hx, e, rl⟩ := r'
  exact iter_tup st ⟨vs, n, e, rl⟩ hx
 | dctI l =>
  obtain rfl := Option.some.inj hd
  obtain ⟨a, kvs, rfl, hx, e, rl⟩ := r
  exact iter_dctI st ⟨hx.2, kvs, e, rl⟩ hx.1
 | dctS l =>
  obtain rfl := Option.some.inj hd
  obtain ⟨a, kvs, rfl, hx, e, rl⟩ := r
  exact iter_dctS st ⟨hx.2, kvs, e, rl⟩ hx.1
 | str x => obtain rfl := Option.some.inj hd; exact iter_str st r
 | rng a b c =>
  by_cases hs : Builtin.Range.small a b c = true
  ·obtain rfl := Option.some.inj ((items_rng hs).symm.trans hd)
   exact iter_rng st r hs
  ·exact (nos (show (none : Option (List PV)) = some ds from (if_neg hs).symm.trans hd)).elim
 | _ => exact (nos (show (none : Option (List PV)) = some ds from hd)).elim
end
section
set_option tactic.hygienic false
noncomputable def Tgt (nm : Qck) (ow : Option (Str × PV)) (b : Qbs) : Prop := ∀ p ∈ b, (Qdm nm p.1 || Qdi nm p.1) = true /\ ∀ y e, ow = some (y, e) -> y ≠ p.1
noncomputable def KeepT (C : Cfg) (env : Env) (wr : List Addr) (bs : Qbs) (s s' : Shared) : Prop :=
 ∀ b o, b ≠ env.locals -> (∀ p ∈ bs, env.cells.lookup p.1 ≠ some b) -> b ∉ wr -> s.heap.get? b = some o -> s'.heap.get? b = some o
structure Feed (C : Cfg) (X : Addr -> Prop) (tgt : Expr) (it : Value) (bs : List Qbs) (fp wr : List Addr) (J : Nat -> Shared -> Prop) : Prop where
 sub : ∀ b ∈ wr, b ∈ fp
 wrN : ∀ b ∈ wr, C.h0.get? b = none
 frame : ∀ i s s', J i s -> (∀ b ∈ fp, ∀ o, s.heap.get? b = some o -> s'.heap.get? b = some o) -> Cont X s.heap s'.heap -> J i s'
 wrs : ∀ i s, J i s -> ∀ b ∈ wr, IterAt s.heap b
 next : ∀ A n nm Xo env oa s ρ ow i b (REST : Shared -> Prop), bs[i]? = some b -> Room A n -> St C s -> EnvOK C nm Xo env oa s.heap ρ ow -> XS Xo env oa = X ->
  (∀ a ∈ fp, a ≠ env.locals /\ ∀ p ∈ b, env.cells.lookup p.1 ≠ some a) -> J i s -> Tgt nm ow b ->
  (∀ s₂, St C s₂ -> KeepT C env wr b s s₂ -> EnvOK C nm Xo env oa s₂.heap (b ++ ρ) ow -> J (i + 1) s₂ -> REST s₂) ->
  wpAny (Mo C) A (pyNext it) (fun r s₁ => ∃ v, r = some v /\ wpAny (Mo C) A (letOwnedTupleGo tgt it v) (fun _ s₁' => wpAny (Mo C) A (assign tgt env v) (fun _ s₂ => REST s₂) NoE s₁') NoE s₁) NoE s
 done : ∀ A n s (REST : Shared -> Prop), Room A n -> St C s -> J bs.length s -> (∀ s₂, St C s₂ -> (∀ b o, b ∉ wr -> s.heap.get? b = some o -> s₂.heap.get? b = some o) -> REST s₂) ->
  wpAny (Mo C) A (pyNext it) (fun r s₁ => r = none /\ REST s₁) NoE s
theorem St.but_wr {wr : List Addr} {h' : Heap} {tk : Nat} (st : St C s) (hN : ∀ b ∈ wr, C.h0.get? b = none) (hI : ∀ b ∈ wr, IterAt s.heap b) (hk : ∀ b o, b ∉ wr -> s.heap.get? b = some o -> h'.get? b = some o) (hp : 0 < tk := by k_all) : St C { s with heap := h', toks := tk } where
 pos := hp
 base := st.base
 keep := fun b o hb e => hk b o (fun q => by rw [hN b q] at e; cases e) (st.keep b o hb e)
 tab := by
  apply byc;intro kz
  obtain ⟨more, ⟨o, vs, e1, r⟩, t⟩ := st.tab
  apply kz;clear kz
  refine ⟨more, ⟨o, vs, hk _ _ (fun q => ?_) e1, r⟩, hk _ _ (fun q => (hI _ q).ne_pt st rfl) t⟩
  apply byc;intro kz
  obtain ⟨⟨o, vs, e1, _⟩, _⟩ := st.base.tab
  apply kz;clear kz
  rw [hN _ q] at e1; cases e1
 tri := st.tri_keep fun o e => hk _ _ (fun q => (hI _ q).ne_pt st rfl) e
 bare := st.bare
 os := st.os
theorem Rest.but_wr {wr : List Addr} {h' : Heap} {tk : Nat} (hI : ∀ b ∈ wr, IterAt s.heap b) (hk : ∀ b o, b ∉ wr -> s.heap.get? b = some o -> h'.get? b = some o) : Rest s { s with heap := h', toks := tk } where
 cont := fun b o hc e => hk b o (fun q => (hI b q).ne_cont e hc) e
 cell := fun b o v hd e => hk b o (fun q => (hI b q).ne_cell e hd) e
theorem Qbb {a : Addr} (st : St C s) (e : s.heap.get? a = none) : C.h0.get? a = none := by
 cases q : C.h0.get? a with
 | none => rfl
 | some o =>
  by_cases hp : a = C.PT
  ·obtain ⟨more, t⟩ := st.tab
   subst hp
   rw [t.2] at e; cases e
  ·rw [st.keep a o hp q] at e; cases e
theorem feed_name {ds : List PV} {F : Addr -> Prop} {I : Addr} {fp wr : List Addr} {P : Nat -> Value -> Prop} {Stt : Nat -> Heap -> Prop} {V : (Addr -> Prop) -> Heap -> Prop} {s0 : Shared} {x : Str} {px : Pos} (st0 : St C s0)
  (D : ItrD C s0 ds F I fp wr P Stt V) : Feed C X (.Name x px) (.ref I) (ds.map fun d => [(x, d)]) fp wr (fun i s => Stt i s.heap /\ V X s.heap) where
 sub := (D.W { handled := none } rfl).sub
 wrN := fun b hb => Qbb st0 (D.wrN b hb)
 frame := fun i s s' hJ hk hc => ⟨(D.W { handled := none } rfl).frame i _ _ hJ.1 hk, D.mono X X _ _ (fun _ _ _ e => e) hc hJ.2⟩
 wrs := fun i s hJ => D.iter i _ hJ.1
 next := by
  intro A n nm Xo env oa s ρ ow i b REST hb rm st ok hX hfp hJ ht hR
  have hi : i < ds.length := by
   rcases Nat.lt_or_ge i ds.length with h | h
   ·exact h
   ·rw [List.getElem?_eq_none (by simpa using h)] at hb; cases hb
  refine Qbj st.pos ((D.W A rm.handled).item i s _ _ hi hJ.1 fun v h' tk hP hst hk hp => ⟨v, rfl, ?_⟩)
  have hI := D.iter i _ hJ.1
  have hN : ∀ b ∈ wr, C.h0.get? b = none := fun b hb => Qbb st0 (D.wrN b hb)
  have st1 : St C { s with heap := h', toks := tk } := st.but_wr hN hI hk
  have rs : Rest s { s with heap := h', toks := tk } := .but_wr hI hk
  have hc : Cont X s.heap h' := fun b o _ hco e => rs.cont b o hco e
  have hV := D.mono X X _ _ (fun _ _ _ e => e) hc hJ.2
  obtain ⟨d, hd, rd⟩ := D.val X h' i v hV hP hi
  have hb' : b = [(x, d)] := by
   rw [List.getElem?_map, hd] at hb; simpa using hb.symm
  subst hb'
  refine wpAny_of_eq (rfl : letOwnedTupleGo (.Name x px) (.ref I) v = pure ()) ?_
  obtain ⟨hx, hw⟩ := ht (x, d) (by simp)
  subst hX
  refine wpAny_assign_Name (store (ok.rest rs) st1 hx rd hw fun s₂ st2 fr ok2 => ?_)
  refine hR s₂ st2 (fun b o h2 h3 h4 e => fr b o h2 (h3 (x, d) (by simp)) (hk b o h4 e)) ok2 ⟨?_, ?_⟩
  ·exact (D.W { handled := none } rfl).frame (i + 1) _ _ hst fun b hb o e => fr b o (hfp b hb).1 ((hfp b hb).2 (x, d) (by simp)) e
  ·refine D.mono _ _ _ _ (fun _ _ _ e => e) (fun b o hb hco e => ?_) hV
   refine fr b o (fun q => hb (.inr (.inl q))) (fun q => ?_) e
   obtain ⟨v', e1, e2⟩ := (ok.rest rs).cellAt x b q
   exact e2 o e hco
 done := by
  intro A n s REST rm st hJ hR
  have hl : ds.length = (ds.map fun d => [(x, d)]).length := by simp
  rw [← hl] at hJ
  refine Qbj st.pos ((D.W A rm.handled).done s _ _ hJ.1 fun h' tk hk hp => ⟨rfl, ?_⟩)
  have hI := D.iter _ _ hJ.1
  have hN : ∀ b ∈ wr, C.h0.get? b = none := fun b hb => Qbb st0 (D.wrN b hb)
  exact hR _ (st.but_wr hN hI hk) hk
theorem letGo_noop {tgt : Expr} {I : Addr} {v : Value} {o : PySem.Obj} {T : String} (ho : s.heap.get? I = some o) (hc : o.cls = .type T) (hT : ownTypes.contains T = false) {Q : Unit -> Shared -> Prop} (h : Q () s) :
  wpAny (Mo C) A (letOwnedTupleGo tgt (.ref I) v) Q E s := by
 unfold letOwnedTupleGo
 have key : ∀ a, wpAny (Mo C) A (do
   let o ← load I
   match o.cls, o.data with
   | .type n, .fields vs =>
    if ["enumerate", "zip", "dict_itemiterator", "dict_reverseitemiterator", "odict_iterator", "itertools.zip_longest", "itertools.pairwise"].contains n && vs[0]? == some (rawInt a) then
     rule "for.unpacks-the-owned-tuple"
     updateField I 0 .none
   | _, _ => pure () : Sem Unit) Q E s := by
  intro a
  refine wpAny_bind (wpAny_load ho ?_)
  rw [hc]
  cases hd : o.data with
  | fields vs =>
   dsimp only
   rw [show ["enumerate", "zip", "dict_itemiterator", "dict_reverseitemiterator", "odict_iterator", "itertools.zip_longest", "itertools.pairwise"].contains T = false from hT]
   exact wpAny_pure h
  | _ => exact wpAny_pure h
 cases tgt <;> first | exact wpAny_pure h | (cases v <;> first | exact wpAny_pure h | exact key _)
theorem feed_pair {ds : List (PV × PV)} {F : Addr -> Prop} {I : Addr} {fp wr : List Addr} {P : Nat -> Value -> Prop} {Stt : Nat -> Heap -> Prop} {V : (Addr -> Prop) -> Heap -> Prop} {s0 : Shared} {x y : Str} {px py pt : Pos} {kt : Nat} (st0 : St C s0)
  (D : ItrD C s0 (ds.map fun d => .tup [d.1, d.2]) F I fp wr P Stt V) : Feed C X (.Tuple [.Name x px, .Name y py] kt pt) (.ref I) (ds.map fun d => [(y, d.2), (x, d.1)]) fp wr (fun i s => Stt i s.heap /\ V X s.heap) where
 sub := (D.W { handled := none } rfl).sub
 wrN := fun b hb => Qbb st0 (D.wrN b hb)
 frame := fun i s s' hJ hk hc => ⟨(D.W { handled := none } rfl).frame i _ _ hJ.1 hk, D.mono X X _ _ (fun _ _ _ e => e) hc hJ.2⟩
 wrs := fun i s hJ => D.iter i _ hJ.1
 next := by
  intro A n nm Xo env oa s ρ ow i b REST hb rm st ok hX hfp hJ ht hR
  have hi : i < ds.length := by
   rcases Nat.lt_or_ge i ds.length with h | h
   ·exact h
   ·rw [List.getElem?_eq_none (by simpa using h)] at hb; cases hb
  refine Qbj st.pos ((D.W A rm.handled).item i s _ _ (by simpa using hi) hJ.1 fun v h' tk hP hst hk hp => ⟨v, rfl, ?_⟩)
  have hI := D.iter i _ hJ.1
  have hN : ∀ b ∈ wr, C.h0.get? b = none := fun b hb => Qbb st0 (D.wrN b hb)
  have st1 : St C { s with heap := h', toks := tk } := st.but_wr hN hI hk
  have rs : Rest s { s with heap := h', toks := tk } := .but_wr hI hk
  have hc : Cont X s.heap h' := fun b o _ hco e => rs.cont b o hco e
  have hV := D.mono X X _ _ (fun _ _ _ e => e) hc hJ.2
  obtain ⟨d, hd, rd⟩ := D.val X h' i v hV hP (by simpa using hi)
  have hd' : ds[i]? = some ds[i] := by simp [hi]
  rw [List.getElem?_map, hd'] at hd hb
  simp only [Option.map_some, Option.some.injEq] at hd hb
  subst hd
  subst hb
  apply byc;intro kz
  obtain ⟨o, T, ho, hcl, hT⟩ := D.cls _ _ hst
  apply kz;clear kz
  refine letGo_noop ho hcl hT ?_
  apply byc;intro kz
  obtain ⟨a, vs, m, rfl, hxa, hga, rl⟩ := rd
  obtain ⟨v1, r1, rfl, rv1, v2, r2, rfl, rv2, rfl⟩ := rl
  obtain ⟨hx, hwx⟩ := ht (x, ds[i].1) (by simp)
  obtain ⟨hy, hwy⟩ := ht (y, ds[i].2) (by simp)
  apply kz;clear kz
  subst hX
  have it : Heap.IsTuple h' a #[v1, v2] := ⟨_, hga, rfl, _, rfl⟩
  refine wpAny_assign_Tuple rm.handled it rfl rfl fun h₂ hx2 => ?_
  have k2 : ∀ b o, h'.get? b = some o -> h₂.get? b = some o := fun b o e => hx2 b o (Nat.ne_of_lt (Heap.lt_size e)) e
  have st2 : St C { s with heap := h₂, toks := tk } := st1.of_keep k2 rfl rfl
  have rs2 : Rest s { s with heap := h₂, toks := tk } := rs.trans ⟨fun b o _ e => k2 b o e, fun b o _ _ e => k2 b o e⟩
  have rv1' := (⟨fun b o _ e => k2 b o e, fun b o _ _ e => k2 b o e⟩ : Rest { s with heap := h', toks := tk } { s with heap := h₂, toks := tk }).rel rv1
  have rv2' := (⟨fun b o _ e => k2 b o e, fun b o _ _ e => k2 b o e⟩ : Rest { s with heap := h', toks := tk } { s with heap := h₂, toks := tk }).rel rv2
  show wpAny (Mo C) A (assignInOrder [assign (.Name x px) env, assign (.Name y py) env] [v1, v2]) _ _ _
  refine wpAny_bind (wpAny_holding (wpAny_assign_Name (store (ok.rest rs2) st2 hx rv1' hwx fun s₃ st3 fr3 ok3 => ?_)))
  have hc3 : Cont (XS Xo env oa) h₂ s₃.heap := fun b o hb hco e => by
   refine fr3 b o (fun q => hb (.inr (.inl q))) (fun q => ?_) e
   obtain ⟨v', e1, e2⟩ := (ok.rest rs2).cellAt x b q
   exact e2 o e hco
  refine wpAny_bind (wpAny_holding (wpAny_assign_Name (store ok3 st3 hy (rv2'.mono (fun _ _ _ e => e) hc3) hwy fun s₄ st4 fr4 ok4 => ?_)))
  refine wpAny_pure ?_
  have fr : ∀ b o, b ≠ env.locals -> (∀ p ∈ [(y, ds[i].2), (x, ds[i].1)], env.cells.lookup p.1 ≠ some b) -> h'.get? b = some o -> s₄.heap.get? b = some o := fun b o h1 h2 e => fr4 b o h1 (h2 (y, _) (by simp)) (fr3 b o h1 (h2 (x, _) (by simp)) (k2 b o e))
  refine hR s₄ st4 (fun b o h2 h3 h4 e => fr b o h2 h3 (hk b o h4 e)) ok4 ⟨?_, ?_⟩
  ·exact (D.W { handled := none } rfl).frame (i + 1) _ _ hst fun b hb o e => fr b o (hfp b hb).1 (hfp b hb).2 e
  ·refine D.mono _ _ _ _ (fun _ _ _ e => e) (fun b o hb hco e => ?_) hV
   refine fr b o (fun q => hb (.inr (.inl q))) (fun z hz q => ?_) e
   obtain ⟨v', e1, e2⟩ := (ok.rest rs).cellAt z.1 b q
   exact e2 o e hco
 done := by
  intro A n s REST rm st hJ hR
  have hl : (ds.map fun d => [(y, d.2), (x, d.1)]).length = (ds.map fun d => PV.tup [d.1, d.2]).length := by simp
  rw [hl] at hJ
  refine Qbj st.pos ((D.W A rm.handled).done s _ _ hJ.1 fun h' tk hk hp => ⟨rfl, ?_⟩)
  have hI := D.iter _ _ hJ.1
  have hN : ∀ b ∈ wr, C.h0.get? b = none := fun b hb => Qbb st0 (D.wrN b hb)
  exact hR _ (st.but_wr hN hI hk) hk
end
section
set_option tactic.hygienic false
noncomputable def Qdw (nm : Qck) (x : Str) : Bool := match nm.lookup x with | some .free => true | _ => false
theorem freeB_iff {x : Str} : Qdw nm x = true ↔ nm.lookup x = some .free := by
 unfold Qdw; cases nm.lookup x with
 | none => simp
 | some k => cases k <;> simp
theorem celB_iff {x : Str} : Qdi nm x = true ↔ nm.lookup x = some .cell ∨ nm.lookup x = some .free := by
 unfold Qdi; cases nm.lookup x with
 | none => simp
 | some k => cases k <;> simp
theorem gloB_iff {x : Str} : gloB nm x = true ↔ nm.lookup x = some .globalImplicit := by
 unfold gloB; cases nm.lookup x with
 | none => simp
 | some k => cases k <;> simp
noncomputable def Qer (names : Qck) (ρ : Qbs) : Qbs := ρ.filter fun p => Qdw names p.1
theorem Qeb {names : Qck} {x : Str} {d : PV} : ∀ {ρ : Qbs}, (Qer names ρ).lookup x = some d -> ρ.lookup x = some d /\ Qdw names x = true
 | [], h => by simp [Qer] at h
 | (y, e) :: ρ, h => by
  unfold Qer at h
  rw [List.filter_cons] at h
  by_cases hy : Qdw names y = true
  ·rw [if_pos hy, List.lookup_cons] at h
   rw [List.lookup_cons]
   by_cases hx : x = y
   ·subst hx; simp at h ⊢; exact ⟨h, hy⟩
   ·have hb : (x == y) = false := beq_eq_false_iff_ne.mpr hx
    rw [hb] at h ⊢
    exact Qeb h
  ·rw [if_neg hy] at h
   rw [List.lookup_cons]
   obtain ⟨h1, h2⟩ := Qeb (ρ := ρ) h
   by_cases hx : x = y
   ·subst hx; exact absurd h2 hy
   ·have hb : (x == y) = false := beq_eq_false_iff_ne.mpr hx
    rw [hb]
    exact ⟨h1, h2⟩
noncomputable def kindOK (nm : Qck) (p : Str × NameKind) : Bool := match p.2 with | .local | .cell | .globalImplicit => true | .free => Qdi nm p.1 | _ => false
noncomputable def isFunction : ScopeKind -> Bool | .function => true | _ => false
noncomputable def Qdn (nm : Qck) (sc : Scope) : Bool := (sc.names.lookup (".0" : Str)).isSome && (isFunction sc.kind && !sc.isCoroutine && sc.names.all fun p => decide (sc.names.lookup p.1 = some p.2) && kindOK nm p)
theorem scopeB_not3 {sc : Scope} (h : Qdn nm sc = true) (e : sc.names = (Qaf 3).names) : False := by
 unfold Qdn at h
 rw [Bool.and_eq_true] at h
 have h1 := h.1
 rw [e] at h1
 revert h1
 decide +kernel
theorem isFn {k : ScopeKind} (h : isFunction k = true) : k = .function := by
 cases k with
 | function => rfl
 | _ => exact absurd (show false = true from h) Bool.false_ne_true
theorem scopeB_parts {sc : Scope} (h : Qdn nm sc = true) : sc.kind = .function /\ sc.isCoroutine = false /\ ∀ p ∈ sc.names, sc.names.lookup p.1 = some p.2 /\ kindOK nm p = true := by
 unfold Qdn at h
 rw [Bool.and_eq_true] at h
 replace h := h.2
 simp only [Bool.and_eq_true, List.all_eq_true, decide_eq_true_eq, Bool.not_eq_true'] at h
 refine ⟨?_, h.1.2, fun p hp => h.2 p hp⟩
 exact isFn h.1.1
noncomputable def Qfu (cells : List (Str × Addr)) : Qck -> List (Str × Addr) -> List (Str × Addr)
 | [], acc => acc
 | (x, k) :: r, acc => Qfu cells r (if k == .free then (match cells.lookup x with | some a => (x, a) :: acc | none => acc) else acc)
theorem closureFor_eq {sc : Scope} (h : ∀ x, (x, NameKind.free) ∈ sc.names -> ∃ c, env.cells.lookup x = some c) : closureFor sc env = pure (Qfu env.cells sc.names []) := by
 unfold closureFor
 have key : ∀ (l : Qck) (acc : List (Str × Addr)), (∀ x, (x, NameKind.free) ∈ l -> ∃ c, env.cells.lookup x = some c) ->
   (forIn l acc (fun (p : Str × NameKind) (cs : List (Str × Addr)) => (if p.2 == NameKind.free then do pure (ForInStep.yield ((p.1, ← cellOf env p.1) :: cs)) else pure (ForInStep.yield cs) : Sem (ForInStep (List (Str × Addr))))) : Sem (List (Str × Addr))) = pure (Qfu env.cells l acc) := by
  intro l
  induction l with
  | nil => intro acc _; rfl
  | cons p r ih =>
   intro acc hl
   obtain ⟨x, k⟩ := p
   rw [List.forIn_cons]
   by_cases hk : k = .free
   ·subst hk
    obtain ⟨c, hc⟩ := hl x (by simp)
    simp only [beq_self_eq_true, if_true, Qfu, hc, cellOf]
    exact ih _ fun y hy => hl y (List.mem_cons_of_mem _ hy)
   ·have hb : (k == NameKind.free) = false := by simpa using hk
    simp only [hb, Bool.false_eq_true, if_false, Qfu]
    exact ih _ fun y hy => hl y (List.mem_cons_of_mem _ hy)
 have := key sc.names [] h
 rw [bind_pure]
 exact this
theorem Qaz {α : Type} {x y : Str} {a : α} {l : List (Str × α)} : List.lookup x ((y, a) :: l) = if x = y then some a else List.lookup x l := by
 rw [List.lookup_cons]
 by_cases h : x = y
 ·subst h; simp
 ·rw [beq_eq_false_iff_ne.mpr h, if_neg h]
theorem closL_sub {cells : List (Str × Addr)} : ∀ {l : Qck} {acc : List (Str × Addr)}, (∀ x c, acc.lookup x = some c -> cells.lookup x = some c) -> ∀ x c, (Qfu cells l acc).lookup x = some c -> cells.lookup x = some c
 | [], acc, h => h
 | (y, k) :: r, acc, h => by
  unfold Qfu
  refine closL_sub (l := r) fun x c e => ?_
  split at e
  ·cases q : cells.lookup y with
   | none => rw [q] at e; exact h x c e
   | some a =>
    rw [q] at e
    rw [Qaz] at e
    split at e
    ·rename_i hxy; subst hxy; rw [q]; exact e
    ·exact h x c e
  ·exact h x c e
theorem closL_has {cells : List (Str × Addr)} {x : Str} {c0 : Addr} (hc : cells.lookup x = some c0) : ∀ {l : Qck} {acc : List (Str × Addr)}, ((x, NameKind.free) ∈ l ∨ ∃ c, acc.lookup x = some c) -> ∃ c, (Qfu cells l acc).lookup x = some c
 | [], acc, h => h.elim (fun h => by simp at h) id
 | (y, k) :: r, acc, h => by
  unfold Qfu
  refine closL_has hc (l := r) ?_
  rcases h with h | ⟨c, h⟩
  ·rcases List.mem_cons.mp h with h | h
   ·cases h
    refine .inr ⟨c0, ?_⟩
    simp [hc, Qaz]
   ·exact .inl h
  ·refine .inr ?_
   split
   ·cases q : cells.lookup y with
    | none => exact ⟨c, h⟩
    | some a =>
     rw [Qaz]
     split
     ·exact ⟨a, rfl⟩
     ·exact ⟨c, h⟩
   ·exact ⟨c, h⟩
theorem closL_free {cells : List (Str × Addr)} {x : Str} {c : Addr} : ∀ {l : Qck} {acc : List (Str × Addr)}, (Qfu cells l acc).lookup x = some c -> acc.lookup x = some c ∨ (x, NameKind.free) ∈ l
 | [], acc, h => .inl h
 | (y, k) :: r, acc, h => by
  unfold Qfu at h
  rcases closL_free (l := r) h with h1 | h1
  ·by_cases hk : k = .free
   ·subst hk
    simp only [beq_self_eq_true, if_true] at h1
    cases q : cells.lookup y with
    | none => rw [q] at h1; exact .inl h1
    | some a =>
     rw [q] at h1
     simp only [Qaz] at h1
     split at h1
     ·rename_i hxy; subst hxy; exact .inr (by simp)
     ·exact .inl h1
   ·have hb : (k == NameKind.free) = false := by simpa using hk
    simp only [hb, Bool.false_eq_true, if_false] at h1
    exact .inl h1
  ·exact .inr (List.mem_cons_of_mem _ h1)
structure CellsGood (n0 : Nat) (acc0 : List (Str × Addr)) (h : Heap) (acc : List (Str × Addr)) : Prop where
 split : ∀ x c, acc.lookup x = some c -> (acc0.lookup x = some c /\ c < n0) ∨ (n0 <= c /\ h.IsCell c none)
 apart : ∀ x y c, acc.lookup x = some c -> acc.lookup y = some c -> x = y
 size : n0 <= h.objs.size
theorem Qfj {n0 : Nat} {acc0 : List (Str × Addr)} : ∀ (names : Qck) (h : Heap) (acc : List (Str × Addr)), CellsGood n0 acc0 h acc -> CellsGood n0 acc0 (pushCells h names) (cellsFrom h.objs.size names acc)
 | [], h, acc, g => g
 | (y, k) :: r, h, acc, g => by
  unfold pushCells cellsFrom
  split
  ·have := Qfj (n0 := n0) (acc0 := acc0) r (h.push { cls := .type "cell", data := .cell none }) ((y, h.objs.size) :: acc) ⟨fun x c e => ?_, fun x z c e1 e2 => ?_, ?_⟩
   ·rwa [Heap.size_push] at this
   ·rw [Qaz] at e
    split at e
    ·cases e
     exact .inr ⟨g.size, _, Heap.get?_push_size _ rfl, rfl⟩
    ·rcases g.split x c e with h1 | ⟨h1, o, ho, hd⟩
     ·exact .inl h1
     ·exact .inr ⟨h1, o, Qaa _ _ ho, hd⟩
   ·have hlt : ∀ z c, acc.lookup z = some c -> c ≠ h.objs.size := fun z c e => by
     rcases g.split z c e with ⟨_, h1⟩ | ⟨_, o, ho, _⟩
     ·exact Nat.ne_of_lt (Nat.lt_of_lt_of_le h1 g.size)
     ·exact Nat.ne_of_lt (Heap.lt_size ho)
    rw [Qaz] at e1 e2
    split at e1 <;> split at e2
    ·rename_i a b; rw [a, b]
    ·cases e1; exact absurd rfl (hlt z _ e2)
    ·cases e2; exact absurd rfl (hlt x _ e1)
    ·exact g.apart x z c e1 e2
   ·rw [Heap.size_push]; exact Nat.le_succ_of_le g.size
  ·exact Qfj r h acc g
theorem Qgh {n0 : Nat} {x : Str} : ∀ (names : Qck) (n : Nat) (acc : List (Str × Addr)), n0 <= n -> ((x, NameKind.cell) ∈ names ∨ ∃ c, acc.lookup x = some c /\ n0 <= c) -> ∃ c, (cellsFrom n names acc).lookup x = some c /\ n0 <= c
 | [], n, acc, hn, h => h.elim (fun h => by simp at h) id
 | (y, k) :: r, n, acc, hn, h => by
  unfold cellsFrom
  split
  ·rename_i hk
   have hk' : k = .cell := by simpa using hk
   refine Qgh r (n + 1) _ (Nat.le_succ_of_le hn) ?_
   rcases h with h | ⟨c, h, hc⟩
   ·rcases List.mem_cons.mp h with h | h
    ·cases h; exact .inr ⟨n, by simp [Qaz], hn⟩
    ·exact .inl h
   ·refine .inr ?_
    rw [Qaz]
    split
    ·exact ⟨n, rfl, hn⟩
    ·exact ⟨c, h, hc⟩
  ·rename_i hk
   refine Qgh r n acc hn (h.imp (fun h => ?_) id)
   rcases List.mem_cons.mp h with h | h
   ·cases h; simp at hk
   ·exact h
theorem Qgg {x : Str} : ∀ (names : Qck) (n : Nat) (acc : List (Str × Addr)), (x, NameKind.cell) ∉ names -> (cellsFrom n names acc).lookup x = acc.lookup x
 | [], n, acc, h => rfl
 | (y, k) :: r, n, acc, h => by
  unfold cellsFrom
  have hr : (x, NameKind.cell) ∉ r := fun q => h (List.mem_cons_of_mem _ q)
  split
  ·rename_i hk
   have hk' : k = .cell := by simpa using hk
   subst hk'
   rw [Qgg r _ _ hr, Qaz, if_neg]
   rintro rfl; exact h (by simp)
  ·exact Qgg r n acc hr
theorem lookup_relabel {names : Qck} {x : Str} {g : Str -> NameKind -> NameKind} : (names.map fun p => (p.1, g p.1 p.2)).lookup x = (names.lookup x).map (g x) := by
 induction names with
 | nil => rfl
 | cons p r ih =>
  obtain ⟨y, k⟩ := p
  rw [List.map_cons, Qaz, Qaz]
  split
  ·rename_i h; subst h; rfl
  ·exact ih
noncomputable def relKind (env : Env) (x : Str) (k : NameKind) : NameKind := if (k == .free && env.scope.kind == .function && env.kindOf x == some .cell) then .cell else k
theorem relabel_names {sc : Scope} : (relabel sc env).names = sc.names.map fun p => (p.1, relKind env p.1 p.2) := by
 unfold relabel relKind
 refine List.map_congr_left fun p _ => ?_
 obtain ⟨x, k⟩ := p
 dsimp only
 split <;> rfl
theorem EnvOK.avoidR {D : Addr} (x : EnvOK C nm Xo env oa s.heap ρ ow) (hn : s.heap.get? D = none) (k : Rest s s') (hD : ∃ o, s'.heap.get? D = some o /\ Obj.cont o) :
  EnvOK C nm (fun b => Xo b ∨ b = D) env oa s'.heap ρ ow := by
 have ne : ∀ {b o}, s.heap.get? b = some o -> b ≠ D := fun e q => by subst q; rw [hn] at e; cases e
 have hX : ∀ (a : Addr) (o : PySem.Obj), s.heap.get? a = some o -> XS (fun b => Xo b ∨ b = D) env oa a -> XS Xo env oa a := fun a o e q => by
  rcases q with (q | q) | q
  ·exact .inl q
  ·exact absurd q (ne e)
  ·exact .inr q
 have hc : Cont (XS Xo env oa) s.heap s'.heap := fun b o _ hc e => k.cont b o hc e
 refine { x with loc := ?_, cel := ?_, celO := ?_, cst := ?_, low := ?_, xoL := ?_, own := ?_, all := fun y c q => let ⟨v, e⟩ := x.all y c q; ⟨v, k.isCell e⟩ }
 ·apply byc;intro kz
  obtain ⟨m, hm, h1, h2⟩ := x.loc
  apply kz;clear kz
  exact ⟨m, k.ns hm, fun y d e q => let ⟨v, a, b⟩ := h1 y d e q; ⟨v, a, b.mono hX hc⟩, h2⟩
 ·intro y d e q
  apply byc;intro kz
  obtain ⟨c, v, h1, h2, h3⟩ := x.cel y d e q
  apply kz;clear kz
  exact ⟨c, v, h1, k.isCell h2, h3.mono hX hc⟩
 ·intro y d e q
  apply byc;intro kz
  obtain ⟨c, a, h1, h2, h3⟩ := x.celO y d e q
  apply kz;clear kz
  exact ⟨c, a, h1, k.isCell h2, h3⟩
 ·intro y q
  apply byc;intro kz
  obtain ⟨c, v, h1, h2⟩ := x.cst y q
  apply kz;clear kz
  exact ⟨c, v, h1, k.isCell h2⟩
 ·intro a q
  rcases q with (q | q) | q
  ·obtain ⟨o, ho, hco⟩ := x.low a (.inl q); exact ⟨o, k.cont _ _ hco ho, hco⟩
  ·subst q; exact hD
  ·obtain ⟨o, ho, hco⟩ := x.low a (.inr q); exact ⟨o, k.cont _ _ hco ho, hco⟩
 ·rintro (q | q)
  ·exact x.xoL q
  ·obtain ⟨m, ⟨o, es, ep, ho, _⟩, _⟩ := x.loc; exact ne ho q
 ·intro y d e
  apply byc;intro kz
  obtain ⟨h1, a, h2, h3, h4, h5⟩ := x.own y d e
  apply kz;clear kz
  refine ⟨h1, a, h2, ?_, h4, h5.mono hX hc fun o hc ho => k.cont _ _ hc ho⟩
  rintro (q | q)
  ·exact h3 q
  ·obtain ⟨o, ho, _⟩ := x.low a (.inr (.inr h2)); exact ne ho q
theorem EnvOK.avoid {D : Addr} (x : EnvOK C nm Xo env oa s.heap ρ ow) (hn : s.heap.get? D = none) (keep : ∀ b o, s.heap.get? b = some o -> s'.heap.get? b = some o) (hD : ∃ o, s'.heap.get? D = some o /\ Obj.cont o) :
  EnvOK C nm (fun b => Xo b ∨ b = D) env oa s'.heap ρ ow := x.avoidR hn ⟨fun b o _ e => keep b o e, fun b o _ _ e => keep b o e⟩ hD
theorem comp_env {sc : Scope} (ok : EnvOK C nm Xo env oa s.heap ρ ow) (st : St C s) (hsc : Qdn nm sc = true) {Q : Env -> Shared -> Prop}
  (h : ∀ cenv s', St C s' -> (∀ b o, s.heap.get? b = some o -> s'.heap.get? b = some o) -> cenv.locals = s.heap.objs.size -> s'.heap.Ns cenv.locals (fun _ => none) ->
   EnvOK C sc.names (XS Xo env oa) { cenv with scope := relabel sc env } none s'.heap (Qer sc.names ρ) none ->
   (∀ x c, cenv.cells.lookup x = some c -> (Qdw sc.names x = true /\ env.cells.lookup x = some c) ∨ s.heap.get? c = none) -> Q cenv s') {E : Value -> Shared -> Prop} :
  wpAny (Mo C) A (newFunctionEnv sc env.globals (Qfu env.cells sc.names []) [] env.qual none .none (some env)) Q E s := by
 obtain ⟨hk, hco, hnm⟩ := scopeB_parts hsc
 simp only [newFunctionEnv, Option.isSome_some, if_true]
 refine wpAny_bind (wpAny_alloc ?_)
 refine wpAny_bind (wpAny_layCells _ (fun name kind cells => by cases hkc : kind == NameKind.cell <;> simp [hkc]) _ _ _ _ ?_)
 simp only [List.forIn_nil]
 refine wpAny_bind (wpAny_pure (wpAny_pure ?_))
 have sub := closL_sub (cells := env.cells) (l := sc.names) (acc := []) (fun x c e => by simp at e)
 have hlow : ∀ x c, env.cells.lookup x = some c -> c < s.heap.objs.size := fun x c e => let ⟨v, q⟩ := ok.all x c e; q.lt
 have good := Qfj (n0 := s.heap.objs.size) (acc0 := Qfu env.cells sc.names []) sc.names (s.heap.push { cls := .type "dict", data := .dict #[] }) (Qfu env.cells sc.names [])
  ⟨fun x c e => .inl ⟨e, hlow x c (sub x c e)⟩, fun x y c e1 e2 => ok.apart x y c (sub x c e1) (sub y c e2), by rw [Heap.size_push]; exact Nat.le_succ _⟩
 have keep : ∀ b o, s.heap.get? b = some o -> (pushCells (s.heap.push { cls := .type "dict", data := .dict #[] }) sc.names).get? b = some o := fun b o e => pushCells_keeps _ _ b o (Qaa _ _ e)
 have st' : St C { s with heap := pushCells (s.heap.push { cls := .type "dict", data := .dict #[] }) sc.names } := st.of_keep keep rfl rfl
 have hns : (pushCells (s.heap.push { cls := .type "dict", data := .dict #[] }) sc.names).Ns s.heap.objs.size (fun _ => none) := (Heap.Ns.new s.heap (.type "dict")).keeps (pushCells_keeps _ _)
 have cellsNew : ∀ x c, (cellsFrom (s.heap.push { cls := .type "dict", data := .dict #[] }).objs.size sc.names (Qfu env.cells sc.names [])).lookup x = some c -> (Qdw sc.names x = true /\ env.cells.lookup x = some c) ∨ s.heap.get? c = none := by
  intro x c e
  rcases good.split x c e with ⟨h1, _⟩ | ⟨h1, _⟩
  ·refine .inl ⟨?_, sub x c h1⟩
   rcases closL_free h1 with q | q
   ·simp at q
   ·exact freeB_iff.mpr (hnm _ q).1
  ·refine .inr ?_
   cases q : s.heap.get? c with
   | none => rfl
   | some o => exact absurd (Heap.lt_size q) (Nat.not_lt.mpr h1)
 have memOf : ∀ {x k}, sc.names.lookup x = some k -> (x, k) ∈ sc.names := fun e => mem_of_lookup e
 have freeCell : ∀ {x}, sc.names.lookup x = some .free -> ∃ c, env.cells.lookup x = some c /\ (cellsFrom (s.heap.push { cls := .type "dict", data := .dict #[] }).objs.size sc.names (Qfu env.cells sc.names [])).lookup x = some c := by
  intro x e
  have hm := memOf e
  have hcel : Qdi nm x = true := by
   have := (hnm _ hm).2
   simpa [kindOK] using this
  apply byc;intro kz
  obtain ⟨c, v, e1, _⟩ := ok.cst x hcel
  obtain ⟨c', e2⟩ := closL_has e1 (l := sc.names) (acc := []) (.inl hm)
  apply kz;clear kz
  have e3 := sub x c' e2
  rw [e1] at e3; cases e3
  refine ⟨c, e1, ?_⟩
  rw [Qgg]
  ·exact e2
  ·intro q
   have := (hnm _ q).1
   rw [e] at this; cases this
 refine h _ _ st' keep rfl hns ?_ cellsNew
 have hkind : ∀ x, Env.kindOf { scope := relabel sc env, locals := s.heap.objs.size, globals := env.globals, cells := cellsFrom (s.heap.push { cls := .type "dict", data := .dict #[] }).objs.size sc.names (Qfu env.cells sc.names []), qual := env.qual, func := none, code := env.code, frame := env.frame, builtins := env.builtins } x = (sc.names.lookup x).map (relKind env x) := by
  intro x
  show (relabel sc env).names.lookup x = _
  rw [relabel_names]
  exact lookup_relabel
 have hX : ∀ (a : Addr) (o : PySem.Obj), s.heap.get? a = some o -> XS (XS Xo env oa) { scope := relabel sc env, locals := s.heap.objs.size, globals := env.globals, cells := cellsFrom (s.heap.push { cls := .type "dict", data := .dict #[] }).objs.size sc.names (Qfu env.cells sc.names []), qual := env.qual, func := none, code := env.code, frame := env.frame, builtins := env.builtins } none a -> XS Xo env oa a := by
  intro a o e q
  rcases q with q | q | q
  ·exact q
  ·have e1 := Heap.lt_size e
   have q' : a = s.heap.objs.size := q
   rw [q'] at e1
   exact absurd e1 (Nat.lt_irrefl _)
  ·cases q
 have hc : Cont (XS Xo env oa) s.heap (pushCells (s.heap.push { cls := .type "dict", data := .dict #[] }) sc.names) := fun b o _ _ e => keep b o e
 have ic : ∀ {a v}, s.heap.IsCell a v -> (pushCells (s.heap.push { cls := .type "dict", data := .dict #[] }) sc.names).IsCell a v := fun h => let ⟨o, ho, hd⟩ := h; ⟨o, keep _ _ ho, hd⟩
 refine { kind := hk, code := (fun e => (scopeB_not3 hsc e).elim), coro := hco, kindL := fun x hx => ?_, kindC := fun x hx => ?_, kindG := fun x hx => ?_, glob := ok.glob, blt := ok.blt, loc := ⟨_, hns, fun x d e q => ?_, fun y d e => (nomatch e)⟩,
           cel := fun x d e q => ?_, celO := fun y d e => (nomatch e), cst := fun x q => ?_, all := fun x c e => ?_, apart := good.apart, low := fun a q => ?_, newL := Qbb st Qbg, newC := fun x c e => ?_, newO := fun a e => (nomatch e), xoL := ?_, own := fun y d e => (nomatch e) }
 ·rw [hkind, locB_iff.mp hx]; rfl
 ·rw [hkind]
  rcases celB_iff.mp hx with e | e
  ·rw [e]; exact .inl rfl
  ·rw [e]
   simp only [Option.map_some, relKind]
   split
   ·exact .inl rfl
   ·exact .inr rfl
 ·rw [hkind, gloB_iff.mp hx]; rfl
 ·obtain ⟨_, h2⟩ := Qeb e
  have := freeB_iff.mp h2
  rw [locB_iff.mp q] at this; cases this
 ·apply byc;intro kz
  obtain ⟨h1, h2⟩ := Qeb e
  obtain ⟨c, e1, e2⟩ := freeCell (freeB_iff.mp h2)
  apply kz;clear kz
  have hcel : Qdi nm x = true := by
   have := (hnm _ (memOf (freeB_iff.mp h2))).2
   simpa [kindOK] using this
  apply byc;intro kz
  obtain ⟨c', v, f1, f2, f3⟩ := ok.cel x d h1 hcel
  apply kz;clear kz
  rw [e1] at f1; cases f1
  exact ⟨c, v, e2, ic f2, f3.mono hX hc⟩
 ·rcases celB_iff.mp q with e | e
  ·obtain ⟨c, e1, e2⟩ := Qgh (n0 := s.heap.objs.size) sc.names (s.heap.push { cls := .type "dict", data := .dict #[] }).objs.size (Qfu env.cells sc.names []) (by rw [Heap.size_push]; exact Nat.le_succ _) (.inl (memOf e))
   rcases good.split x c e1 with ⟨h1, h2⟩ | ⟨_, h2⟩
   ·exact absurd h2 (Nat.not_lt.mpr e2)
   ·exact ⟨c, _, e1, h2⟩
  ·apply byc;intro kz
   obtain ⟨c, e1, e2⟩ := freeCell e
   obtain ⟨v, h2⟩ := ok.all x c e1
   apply kz;clear kz
   exact ⟨c, v, e2, ic h2⟩
 ·rcases good.split x c e with ⟨h1, _⟩ | ⟨_, h2⟩
  ·obtain ⟨v, h2⟩ := ok.all x c (sub x c h1)
   exact ⟨v, ic h2⟩
  ·exact ⟨_, h2⟩
 ·rcases q with q | q | q
  ·obtain ⟨o, ho, hco⟩ := ok.low a q
   exact ⟨o, keep _ _ ho, hco⟩
  ·apply byc;intro kz
   obtain ⟨o, es, ep, ho, hd, _⟩ := hns
   apply kz;clear kz
   have q' : a = s.heap.objs.size := q
   exact ⟨o, q' ▸ ho, .inr (.inl ⟨es, ep, hd⟩)⟩
  ·cases q
 ·rcases cellsNew x c e with ⟨_, h1⟩ | h1
  ·exact ok.newC x c h1
  ·exact Qbb st h1
 ·intro q
  obtain ⟨o, ho, _⟩ := ok.low _ q
  exact absurd (Heap.lt_size ho) (Nat.lt_irrefl _)
end
section
set_option tactic.hygienic false
noncomputable def TestsV (C : Cfg) (n : Nat) (nm : Qck) (ρ : Qbs) (ifs : List Expr) (b : Bool) : Prop :=
 ∀ A Xo env oa s, Room A n -> St C s -> EnvOK C nm Xo env oa s.heap ρ none ->
  wpAny (Mo C) A (forIn ifs true fun c r => if r = true then do let ok ← isTrue c env (eval c env); pure (ForInStep.yield ok) else pure (ForInStep.yield r)) (PostB C s b) NoE s
theorem Qbe : TestsV C n nm ρ [] true := fun A Xo env oa s rm st ok => wpAny_tests_nil ⟨st, Kp.refl, rfl⟩
theorem Qcl {c : Expr} {b : Bool} (h : Tv C n nm ρ none c b) : TestsV C n nm ρ [c] b := fun A Xo env oa s rm st ok => wpAny_tests_one (h A Xo env oa s rm st ok)
noncomputable def EvIt (C : Cfg) (n : Nat) (nm : Qck) (ρ : Qbs) (ow : Option (Str × PV)) (e : Expr) (ds : List PV) : Prop :=
 ∀ A Xo env oa s, Room A n -> St C s -> EnvOK C nm Xo env oa s.heap ρ ow -> wpAny (Mo C) A (eval e env) (fun v s₁ => St C s₁ /\ Kp C s s₁ /\ wpAny (Mo C) A (pyIter v) (PostIt C (XS Xo env oa) s₁ ds fun _ => True) NoE s₁) NoE s
theorem PostIt.weak {ds : List PV} {F G : Addr -> Prop} (h : ∀ a, F a -> G a) {v : Value} (p : PostIt C X s ds F v s') : PostIt C X s ds G v s' := by
 apply byc;intro kz
 obtain ⟨a, b, I, fp, wr, P, Stt, V, e, D, r1, r2, r3⟩ := p
 apply kz;clear kz
 exact ⟨a, b, I, fp, wr, P, Stt, V, e, { D with fpK := fun b hb => (D.fpK b hb).imp id fun h' => ⟨h b h'.1, h'.2⟩ }, r1, r2, r3⟩
theorem Ev.it {e : Expr} {d : PV} {ds : List PV} (h : Ev C n nm ρ ow e d) (hd : Qek d = some ds) : EvIt C n nm ρ ow e ds := fun A Xo env oa s rm st ok =>
 wpAny_mono (h A Xo env oa s rm st ok) (fun v s₁ ⟨st1, k1, r⟩ => ⟨st1, k1, wpAny_mono (Qga st1 r hd) (fun it s₂ p => p.weak fun _ _ => trivial) nof⟩) nof
theorem EvT.it {e : Expr} {l : List PV} (h : EvT C n nm ρ ow e (.lst l)) : EvIt C n nm ρ ow e l := fun A Xo env oa s rm st ok =>
 wpAny_mono (h A Xo env oa s rm st ok) (fun v s₁ ⟨st1, k1, a, e, t⟩ => ⟨st1, k1, by subst e; exact iter_lst st1 t trivial⟩) nof
noncomputable def Qdc (C : Cfg) {α : Type} (target : Expr) (pv : α -> PV) (bd : α -> Qbs) : Prop :=
 ∀ (X : Addr -> Prop) (s0 : Shared) (l : List α) F I fp wr P Stt V, St C s0 -> ItrD C s0 (l.map pv) F I fp wr P Stt V -> Feed C X target (.ref I) (l.map bd) fp wr (fun i s => Stt i s.heap /\ V X s.heap)
theorem Qac {α : Type} {pv : α -> PV} {x : Str} {px : Pos} : Qdc C (.Name x px) pv (fun a => [(x, pv a)]) := fun X s0 l F I fp wr P Stt V st D => by
 have := feed_name (X := X) (x := x) (px := px) st D
 rwa [List.map_map] at this
theorem feedFor_pair {α : Type} {p1 p2 : α -> PV} {x y : Str} {px py pt : Pos} {kt : Nat} : Qdc C (.Tuple [.Name x px, .Name y py] kt pt) (fun a => PV.tup [p1 a, p2 a]) (fun a => [(y, p2 a), (x, p1 a)]) :=
 fun X s0 l F I fp wr P Stt V st D => by
 have := feed_pair (X := X) (x := x) (y := y) (px := px) (py := py) (pt := pt) (kt := kt) (ds := l.map fun a => (p1 a, p2 a)) st (by rw [List.map_map]; exact D)
 rwa [List.map_map] at this
section
variable {R : Result -> Shared -> Prop}
theorem compLoop_list {elt target iter : Expr} {ifs : List Expr} {scope : Scope} {pos : Pos} {it acc : Value} {env : Env} (I : Nat -> Shared -> Prop)
  (turn : ∀ n s, I n s -> wpAny (Mo C) A (pyNext it) (fun r s₁ => (r = none /\ R (.ok .next) s₁) ∨ ∃ v, r = some v /\
    wpAny (Mo C) A (letOwnedTupleGo target it v) (fun _ s₁' => wpAny (Mo C) A (assign target env v) (fun _ s₂ =>
     wpAny (Mo C) A (forIn ifs true fun c r => if r = true then do let ok ← isTrue c env (eval c env); pure (ForInStep.yield ok) else pure (ForInStep.yield r)) (fun ok s₃ =>
      if ok = true then wpAny (Mo C) A (eval elt env) (fun x s₄ => wpAny (Mo C) A (call (.builtin "list.append") [acc, x]) (fun _ s₅ => ∃ m, m < n /\ I m s₅) NoE s₄) NoE s₃
      else ∃ m, m < n /\ I m s₃) NoE s₂) NoE s₁') NoE s₁) NoE s)
  (n : Nat) (h : I n s) : codeAny (Mo C) A (.compLoop (.ListComp elt [⟨target, iter, ifs, 0⟩] scope pos) 0 it acc env) R s := by
 refine codeAny_loop rfl I (fun n s hI => ?_) n h
 show wpAny _ A ((compTurn (.ListComp elt [⟨target, iter, ifs, 0⟩] scope pos) 0 it acc env).onRaise (fun x => do noteFrame x env; theTreesLotGoes x)) _ _ s
 refine wpAny_noted ?_
 rw [compTurn_list]
 refine wpAny_bind (wpAny_standAt (wpAny_bind (wpAny_mono (turn n s hI) (fun r s₁ h₁ => ?_) nof)))
 rcases h₁ with ⟨rfl, h₁⟩ | ⟨v, rfl, h₁⟩
 ·exact wpAny_pure h₁
 ·refine wpAny_bind (wpAny_mono h₁ (fun _ s₁' h₁' => wpAny_bind (wpAny_mono h₁' (fun _ s₂ h₂ => wpAny_bind (wpAny_mono h₂ (fun ok s₃ h₃ => ?_) nof)) nof)) nof)
  cases ok with
  | false => exact wpAny_pure ⟨rfl, h₃⟩
  | true => exact wpAny_bind (wpAny_bind (wpAny_mono h₃ (fun x s₄ h₄ => wpAny_bind (wpAny_mono h₄ (fun _ s₅ h₅ => wpAny_pure (wpAny_pure ⟨rfl, h₅⟩)) nof)) nof))
theorem compLoop_dict {kx vx target iter : Expr} {ifs : List Expr} {scope : Scope} {pos : Pos} {it : Value} {D : Addr} {env : Env} (I : Nat -> Shared -> Prop)
  (turn : ∀ n s, I n s -> wpAny (Mo C) A (pyNext it) (fun r s₁ => (r = none /\ R (.ok .next) s₁) ∨ ∃ v, r = some v /\
    wpAny (Mo C) A (letOwnedTupleGo target it v) (fun _ s₁' => wpAny (Mo C) A (assign target env v) (fun _ s₂ =>
     wpAny (Mo C) A (forIn ifs true fun c r => if r = true then do let ok ← isTrue c env (eval c env); pure (ForInStep.yield ok) else pure (ForInStep.yield r)) (fun ok s₃ =>
      if ok = true then wpAny (Mo C) A (eval kx env) (fun kv s₄ => wpAny (Mo C) A (eval vx env) (fun vv s₅ => wpAny (Mo C) A (dictSet D kv vv) (fun _ s₆ => ∃ m, m < n /\ I m s₆) NoE s₅) NoE s₄) NoE s₃
      else ∃ m, m < n /\ I m s₃) NoE s₂) NoE s₁') NoE s₁) NoE s)
  (n : Nat) (h : I n s) : codeAny (Mo C) A (.compLoop (.DictComp kx vx [⟨target, iter, ifs, 0⟩] scope pos) 0 it (.ref D) env) R s := by
 refine codeAny_loop rfl I (fun n s hI => ?_) n h
 show wpAny _ A ((compTurn (.DictComp kx vx [⟨target, iter, ifs, 0⟩] scope pos) 0 it (.ref D) env).onRaise (fun x => do noteFrame x env; theTreesLotGoes x)) _ _ s
 refine wpAny_noted ?_
 rw [compTurn_dict]
 refine wpAny_bind (wpAny_standAt (wpAny_bind (wpAny_mono (turn n s hI) (fun r s₁ h₁ => ?_) nof)))
 rcases h₁ with ⟨rfl, h₁⟩ | ⟨v, rfl, h₁⟩
 ·exact wpAny_pure h₁
 ·refine wpAny_bind (wpAny_mono h₁ (fun _ s₁' h₁' => wpAny_bind (wpAny_mono h₁' (fun _ s₂ h₂ => wpAny_bind (wpAny_mono h₂ (fun ok s₃ h₃ => ?_) nof)) nof)) nof)
  cases ok with
  | false => exact wpAny_pure ⟨rfl, h₃⟩
  | true => exact wpAny_bind (wpAny_bind (wpAny_mono h₃ (fun kv s₄ h₄ => wpAny_bind (wpAny_holding (wpAny_mono h₄ (fun vv s₅ h₅ => wpAny_bind (wpAny_standAt (wpAny_holding (wpAny_mono h₅ (fun _ s₆ h₆ => wpAny_pure ⟨rfl, h₆⟩) nof)))) nof))) nof))
end
structure CompEnd (C : Cfg) (X : Addr -> Prop) (s : Shared) (L D : Addr) (s' : Shared) : Prop where
 st : St C s'
 kp : ∀ b o, b ≠ C.PT -> s.heap.get? b = some o -> s'.heap.get? b = some o
 ns : ∃ m, s'.heap.Ns L m
 newL : s.heap.get? L = none
 newD : s.heap.get? D = none
 ne : D ≠ L
 h0 : C.h0.get? L = none
theorem Cont.trans {X : Addr -> Prop} {h h' h'' : Heap} (x : Cont X h h') (y : Cont X h' h'') : Cont X h h'' := fun b o hb hc e => y b o hb hc (x b o hb hc e)
theorem Qel {α β : Type} {l : List α} {p : α -> Bool} {f : α -> β} {i : Nat} {a : α} (h : l[i]? = some a) :
  (((l.take (i + 1)).filter p).map f) = ((l.take i).filter p).map f ++ (if p a then [f a] else []) := by
 rw [take_succ_filter p l i a h, List.map_append]
 cases p a <;> simp
theorem EnvOK.turn {D : Addr} (x : EnvOK C nm Xo env oa s.heap ρ ow) (hX : Xo D) (hs : Heap.SameBut D s.heap s'.heap) (hD : ∃ o, s'.heap.get? D = some o /\ Obj.cont o) (hD0 : ∃ o, s.heap.get? D = some o /\ Obj.cont o) : EnvOK C nm Xo env oa s'.heap ρ ow := by
 have hc : Cont (XS Xo env oa) s.heap s'.heap := fun b o hb _ e => (hs.2 b (fun q => hb (.inl (q ▸ hX)))).trans e
 have hi : ∀ (a : Addr) (o : PySem.Obj), s.heap.get? a = some o -> XS Xo env oa a -> XS Xo env oa a := fun _ _ _ e => e
 have ne : env.locals ≠ D := fun q => x.xoL (q ▸ hX)
 have ic : ∀ {a v}, s.heap.IsCell a v -> s'.heap.IsCell a v := fun {a v} h => h.sameBut hs (fun q => by
  apply byc;intro kz
  obtain ⟨o, ho, hd⟩ := h
  obtain ⟨o', ho', hc'⟩ := hD0
  apply kz;clear kz
  subst q
  rw [ho] at ho'; cases ho'
  rcases hc' with ⟨_, _, z⟩ | ⟨_, _, z⟩ | z | ⟨_, _, z⟩ <;> (rw [hd] at z; cases z))
 refine { x with loc := ?_, cel := ?_, celO := ?_, cst := ?_, low := ?_, own := ?_, all := fun y c q => let ⟨v, e⟩ := x.all y c q; ⟨v, ic e⟩ }
 ·apply byc;intro kz
  obtain ⟨m, hm, h1, h2⟩ := x.loc
  apply kz;clear kz
  exact ⟨m, hm.sameBut hs ne, fun y d e q => let ⟨v, a, b⟩ := h1 y d e q; ⟨v, a, b.mono hi hc⟩, h2⟩
 ·intro y d e q
  apply byc;intro kz
  obtain ⟨c, v, h1, h2, h3⟩ := x.cel y d e q
  apply kz;clear kz
  exact ⟨c, v, h1, ic h2, h3.mono hi hc⟩
 ·intro y d e q
  apply byc;intro kz
  obtain ⟨c, a, h1, h2, h3⟩ := x.celO y d e q
  apply kz;clear kz
  exact ⟨c, a, h1, ic h2, h3⟩
 ·intro y q
  apply byc;intro kz
  obtain ⟨c, v, h1, h2⟩ := x.cst y q
  apply kz;clear kz
  exact ⟨c, v, h1, ic h2⟩
 ·intro a q
  by_cases ha : a = D
  ·exact ha ▸ hD
  ·obtain ⟨o, ho, hco⟩ := x.low a q; exact ⟨o, (hs.2 a ha).trans ho, hco⟩
 ·intro y d e
  apply byc;intro kz
  obtain ⟨h1, a, h2, h3, h4, h5⟩ := x.own y d e
  apply kz;clear kz
  exact ⟨h1, a, h2, h3, h4, h5.mono hi hc fun o _ ho => (hs.2 a (fun q => h3 (q ▸ hX))).trans ho⟩
theorem Qcw {y : Str} : ∀ {b ρ : Qbs}, (∀ p ∈ b, p.1 ≠ y) -> (b ++ ρ).lookup y = ρ.lookup y
 | [], ρ, _ => rfl
 | (x, d) :: b, ρ, h => by
  rw [List.cons_append, Qaz, if_neg (fun q => h (x, d) (by simp) q.symm)]
  exact Qcw fun p hp => h p (List.mem_cons_of_mem _ hp)
theorem EnvOK.unbind {h : Heap} {b : Qbs} {names : Qck} {ρ' : Qbs} (x : EnvOK C nm Xo env oa h (b ++ Qer names ρ') ow) (hb : ∀ p ∈ b, Qdw names p.1 = false) : EnvOK C nm Xo env oa h (Qer names ρ') ow :=
 x.weak fun y d e => by
  obtain ⟨_, h2⟩ := Qeb e
  rw [Qcw, e]
  intro p hp q
  rw [← q, hb p hp] at h2; cases h2
noncomputable def TgtC (nm : Qck) (b : Qbs) : Prop := ∀ p ∈ b, (Qdm nm p.1 || Qdi nm p.1) = true /\ Qdw nm p.1 = false
theorem TgtC.tgt {b : Qbs} (h : TgtC nm b) : Tgt nm none b := fun p hp => ⟨(h p hp).1, fun y e q => nomatch q⟩
theorem comp_start {e : Expr} {g : Comprehension} {gs : List Comprehension} {sc : Scope} {pos : Pos} {newAcc first : Sem Value} {use : Option (Value -> Sem Unit)} {Q : Value -> Shared -> Prop} {o0 : PySem.Obj} {pvs : List PV}
  (hcl : clausesOf e = g :: gs) (hs : ∀ x, foldedSetIterable g.iter env x = pure x) (hsc : Qdn nm sc = true) (st : St C s) (ok : EnvOK C nm Xo env oa s.heap ρ ow)
  (hf : wpAny (Mo C) A first (fun v s₁ => St C s₁ /\ Kp C s s₁ /\ wpAny (Mo C) A (pyIter v) (PostIt C (XS Xo env oa) s₁ pvs fun _ => True) NoE s₁) NoE s)
  (hnew : ∀ (s₂ : Shared) (K : Value -> Shared -> Prop), K (.ref s₂.heap.objs.size) { s₂ with heap := s₂.heap.push o0 } -> wpAny (Mo C) A newAcc K NoE s₂)
  (ho : Obj.cont o0) (hal : ∀ h : Heap, (h.push o0).get? h.objs.size = some o0)
  (h : ∀ (s₁ s₂ s₄ : Shared) (D : Addr) (cenv : Env) (I : Addr) (fp wr : List Addr) (P : Nat -> Value -> Prop) (Stt : Nat -> Heap -> Prop) (V : (Addr -> Prop) -> Heap -> Prop), St C s₁ -> Kp C s s₁ -> St C s₂ -> Kp C s₁ s₂ -> ItrD C s₁ pvs (fun _ => True) I fp wr P Stt V -> (∀ b ∈ fp, ∃ o, s₂.heap.get? b = some o) -> (∀ a, XS Xo env oa a -> ∃ o, s₂.heap.get? a = some o /\ Obj.cont o) -> s₂.heap.get? D = none -> s₂.heap.get? cenv.locals = none -> D ≠ cenv.locals -> (∀ b o, s₂.heap.get? b = some o -> s₄.heap.get? b = some o) -> (∀ {a}, s₂.heap.get? a = none -> s.heap.get? a = none) -> (XS (XS (fun b => Xo b ∨ b = D) env oa) { cenv with scope := relabel sc env } none = fun b => ((XS Xo env oa b ∨ b = D) ∨ b = cenv.locals)) -> Stt 0 s₄.heap /\ V (fun b => ((XS Xo env oa b ∨ b = D) ∨ b = cenv.locals)) s₄.heap -> (∀ x, cenv.cells.lookup x ≠ some D) -> (∀ b ∈ fp, b ≠ D) -> (∀ {b o}, s₂.heap.get? b = some o -> ∀ x, Qdw sc.names x = false -> cenv.cells.lookup x ≠ some b) -> (∀ b ∈ fp, b ≠ cenv.locals) -> (∀ b ∈ fp, b ≠ C.PT) -> St C s₄ -> EnvOK C sc.names (XS (fun b => Xo b ∨ b = D) env oa) { cenv with scope := relabel sc env } none s₄.heap (Qer sc.names ρ) none -> s₄.heap.get? D = some o0 -> codeAny (Mo C) A (.compStart e 0 (.ref I) (.ref D) { cenv with scope := relabel sc env }) (compPost (Mo C) A NoE use Q (.ref D) cenv.locals) s₄) :
  wpAny (Mo C) A (comprehension e sc env pos newAcc false first use) Q NoE s := by
 obtain ⟨hk, hco, hnm⟩ := scopeB_parts hsc
 refine wpAny_comprehension_free (cl := Qfu env.cells sc.names []) hcl hs (closureFor_eq fun x hx => ?_) hk (fun x hx hl => by rw [(hnm x hx).1, hl]) ?_
 ·have := (hnm _ hx).2
  apply byc;intro kz
  obtain ⟨c, v, e, _⟩ := ok.cst x (by simpa [kindOK] using this)
  apply kz;clear kz
  exact ⟨c, e⟩
 refine wpAny_mono hf (fun x s₁ ⟨st1, k1, h1⟩ => wpAny_mono h1 (fun it s₂ hz => ?_) nof) nof
 apply byc;intro kz
 obtain ⟨st2, k2, I, fp, wr, P, Stt, V, e, ID, h0, hV, hlt⟩ := hz
 apply kz;clear kz
 subst e
 have ok2 := (ok.kp st st1 k1).kp st1 st2 k2
 refine hnew _ _ ?_
 have st3 : St C { s₂ with heap := s₂.heap.push o0 } := st2.of_keep Qaa rfl rfl
 have ok3 : EnvOK C nm (fun b => Xo b ∨ b = s₂.heap.objs.size) env oa (s₂.heap.push o0) ρ ow :=
  ok2.avoid (s' := { s₂ with heap := s₂.heap.push o0 }) Qbg Qaa ⟨_, hal _, ho⟩
 refine comp_env (s := { s₂ with heap := s₂.heap.push o0 }) ok3 st3 hsc fun cenv s₄ st4 keep4 hL hns4 ok4 hcells => ?_
 have hDobj := hal s₂.heap
 generalize hD : s₂.heap.objs.size = D at *
 have hDn2 : s₂.heap.get? D = none := hD ▸ Qbg
 have hLn3 : (s₂.heap.push o0 : Heap).get? cenv.locals = none := hL ▸ Qbg
 have hLn2 : s₂.heap.get? cenv.locals = none := by
  cases q : s₂.heap.get? cenv.locals with
  | none => rfl
  | some o => rw [Qaa _ _ q] at hLn3; cases hLn3
 have keep24 : ∀ b o, s₂.heap.get? b = some o -> s₄.heap.get? b = some o := fun b o e => keep4 b o (Qaa b o e)
 have own0 : ∀ {b o}, s₂.heap.get? b = some o -> ∀ x, Qdw sc.names x = false -> cenv.cells.lookup x ≠ some b := fun {b o} e x hx h => by
  rcases hcells x b h with ⟨h1, _⟩ | h1
  ·rw [hx] at h1; cases h1
  ·rw [Qaa _ _ e] at h1; cases h1
 refine h s₁ s₂ s₄ D cenv I fp wr P Stt V st1 k1 st2 k2 ID hlt ok2.low hDn2 hLn2 (fun q => by rw [← q, hDobj] at hLn3; cases hLn3) keep24 (fun {a} q => ?_) ?_ ?_ (fun x q => ?_) (fun b hb q => ?_) own0 (fun b hb q => ?_) (fun b hb hp => ?_) st4 ok4 (keep4 _ _ hDobj)
 ·cases q' : s.heap.get? a with
  | none => rfl
  | some o =>
   by_cases hp : a = C.PT
   ·obtain ⟨more, t⟩ := st2.tab
    rw [hp, t.2] at q; cases q
   ·rw [k2 _ _ hp (k1 _ _ hp q')] at q; cases q
 ·funext b
  apply propext
  constructor
  ·rintro (((q | q) | q) | q | q)
   ·exact .inl (.inl (.inl q))
   ·exact .inl (.inr q)
   ·exact .inl (.inl (.inr q))
   ·exact .inr q
   ·cases q
  ·rintro (((q | q) | q) | q)
   ·exact .inl (.inl (.inl q))
   ·exact .inl (.inr q)
   ·exact .inl (.inl (.inr q))
   ·exact .inr (.inl q)
 ·refine ⟨(ID.W { handled := none } rfl).frame 0 _ _ h0 fun b hb o e => keep24 b o e, ID.mono (XS Xo env oa) _ s₂.heap _ (fun a o e q => ?_) (fun b o _ _ e => keep24 b o e) hV⟩
  rcases q with (q | q) | q
  ·exact q
  ·subst q; rw [hDn2] at e; cases e
  ·subst q; rw [hLn2] at e; cases e
 ·obtain ⟨v, e1, e2⟩ := ok4.cellAt x D q
  exact e2 _ (keep4 _ _ hDobj) ho
 ·obtain ⟨o, e⟩ := hlt b hb
  rw [q, hDn2] at e; cases e
 ·obtain ⟨o, e⟩ := hlt b hb
  rw [q, hLn2] at e; cases e
 ·rcases ID.fpK b hb with h1 | ⟨_, o1, h1, h2⟩
  ·obtain ⟨more, tt⟩ := st1.tab
   rw [hp, tt.2] at h1; cases h1
  ·exact st1.pt_cont h1 h2 hp
theorem comp_list {α : Type} {l : List α} {pv f : α -> PV} {bd : α -> Qbs} {p : α -> Bool} {elt target iter : Expr} {ifs : List Expr} {sc : Scope} {pos : Pos} {use : Option (Value -> Sem Unit)} {Q : Value -> Shared -> Prop}
  (rm : Room A n) (st : St C s) (ok : EnvOK C nm Xo env oa s.heap ρ ow)
  (hit : EvIt C n nm ρ ow iter (l.map pv)) (hfeed : Qdc C target pv bd) (hsc : Qdn nm sc = true) (htg : ∀ a, TgtC sc.names (bd a))
  (body : ∀ a ∈ l, TestsV C n sc.names (bd a ++ Qer sc.names ρ) ifs (p a) /\ (p a = true -> Ev C n sc.names (bd a ++ Qer sc.names ρ) none elt (f a))) (hsz : l.length <= sizeLine)
  (hs : ∀ env x, foldedSetIterable iter env x = pure x)
  (hQ : ∀ D L s', CompEnd C (XS Xo env oa) s L D s' -> Rel C (fun b => XS Xo env oa b ∨ b = L) s'.heap (.lst ((l.filter p).map f)) (.ref D) -> compPost (Mo C) A NoE use Q (.ref D) L (.ok .next) s') :
  wpAny (Mo C) A (comprehension (.ListComp elt [⟨target, iter, ifs, 0⟩] sc pos) sc env (firstIterPos [⟨target, iter, ifs, 0⟩] pos) (newList []) (firstAsync [⟨target, iter, ifs, 0⟩]) (firstIter [⟨target, iter, ifs, 0⟩] env) use) Q NoE s := by
 refine comp_start (o0 := { cls := .type "list", data := .seq #[] }) rfl (hs env) hsc st ok (hit A Xo env oa s rm st ok) (fun s₂ K hK => wpAny_newList hK (Nat.zero_le _)) (.inl ⟨_, _, rfl⟩) (fun h => Heap.get?_push_size _ rfl) fun s₁ s₂ s₄ D cenv I fp wr P Stt V st1 k1 st2 k2 ID hlt low2 hDn2 hLn2 hDL keep24 none_old XE J0 hDc hfp2 own0 fpL fpPT st4 ok4 hD4s => ?_
 have feed := hfeed (fun b => ((XS Xo env oa b ∨ b = D) ∨ b = cenv.locals)) s₁ l _ I fp wr P Stt V st1 ID
 have own2 : ∀ {a b o}, s₂.heap.get? b = some o -> ∀ q ∈ bd a, cenv.cells.lookup q.1 ≠ some b := fun e q hq => own0 e q.1 (htg _ q hq).2
 have hfpC : ∀ a, ∀ b ∈ fp, b ≠ cenv.locals /\ ∀ q ∈ bd a, cenv.cells.lookup q.1 ≠ some b := fun a b hb => ⟨fpL b hb, let ⟨_, e⟩ := hlt b hb; own2 e⟩
 have hwrD : ∀ b ∈ wr, b ≠ D := fun b hb => hfp2 b (feed.sub b hb)
 have loop : codeAny (Mo C) A (.compLoop (.ListComp elt [⟨target, iter, ifs, 0⟩] sc pos) 0 (.ref I) (.ref D) { cenv with scope := relabel sc env }) (compPost (Mo C) A NoE use Q (.ref D) cenv.locals) s₄ := by
  refine compLoop_list (fun k t => ∃ i vs m, i <= l.length /\ k = l.length + 1 - i /\ St C t /\ (∀ b o, b ≠ C.PT -> b ∉ wr -> s₂.heap.get? b = some o -> t.heap.get? b = some o) /\
   EnvOK C sc.names (XS (fun b => Xo b ∨ b = D) env oa) { cenv with scope := relabel sc env } none t.heap (Qer sc.names ρ) none /\
   (Stt i t.heap /\ V (fun b => ((XS Xo env oa b ∨ b = D) ∨ b = cenv.locals)) t.heap) /\ t.heap.get? D = some (Qay "list" vs m) /\
   RelL C (fun b => ((XS Xo env oa b ∨ b = D) ∨ b = cenv.locals)) t.heap (((l.take i).filter p).map f) vs) ?_ (l.length + 1)
   ⟨0, [], 0, Nat.zero_le _, rfl, st4, fun b o _ _ e => keep24 b o e, ok4, J0, hD4s, Qbw⟩
  intro k t hz
  apply byc;intro kz
  obtain ⟨i, vs, m, hi, rfl, stt, kt, okt, Jt, hDt, hr⟩ := hz
  apply kz;clear kz
  rcases Nat.lt_or_ge i l.length with hlt' | hge
  ·have ha : l[i]? = some l[i] := by simp [hlt']
   obtain ⟨b1, b2⟩ := body l[i] (by simp)
   refine wpAny_mono (feed.next A n sc.names _ { cenv with scope := relabel sc env } none t (Qer sc.names ρ) none i (bd l[i]) _ (by simp [hlt']) rm stt okt XE (hfpC _) Jt (htg _).tgt fun t2 st2' kt2 okt2 Jt2 => ?_) (fun r s₁ h => .inr h) nof
   have hD2 : t2.heap.get? D = some (Qay "list" vs m) := kt2 D _ hDL (fun q _ => hDc q.1) (fun q => hwrD D q rfl) hDt
   have cont2 : Cont (fun b => ((XS Xo env oa b ∨ b = D) ∨ b = cenv.locals)) t.heap t2.heap := fun b o hb hco e =>
    kt2 b o (fun q => hb (.inr q)) (fun z _ q => by obtain ⟨v, e1, e2⟩ := okt.cellAt z.1 b q; exact e2 o e hco) (fun q => (feed.wrs i t Jt b q).ne_cont e hco) e
   have hr2 := hr.mono (fun _ _ _ e => e) cont2
   refine wpAny_mono (b1 A _ _ _ t2 rm st2' okt2) (fun okb t3 hz => ?_) nof
   apply byc;intro kz
   obtain ⟨st3', k3, e3⟩ := hz
   apply kz;clear kz
   have okt3 := okt2.kp st2' st3' k3
   have hD3 : t3.heap.get? D = some (Qay "list" vs m) := k3 D _ (st2'.pt_cont hD2 Qbf) hD2
   have Jt3 := feed.frame (i + 1) t2 t3 Jt2 (fun b hb o e => k3 b o (fpPT b hb) e) (k3.cont st2' _)
   have kt3 : ∀ b o, b ≠ C.PT -> b ∉ wr -> s₂.heap.get? b = some o -> t3.heap.get? b = some o := fun b o hp hw e => by
    have e1 := kt b o hp hw e
    exact k3 b o hp (kt2 b o (fun q => (by rw [q, hLn2] at e; cases e)) (own2 e) hw e1)
   have hstep : ∀ (t4 : Shared) (vs' : List Value) (m' : Nat), True := fun _ _ _ => trivial
   cases hp : p l[i] with
   | false =>
    simp only [e3, hp, Bool.false_eq_true, if_false]
    refine ⟨l.length + 1 - (i + 1), by lia, i + 1, vs, m, hlt', rfl, st3', kt3, okt3.unbind (fun q hq => (htg _ q hq).2), Jt3, hD3, ?_⟩
    rw [Qel ha, hp]
    simpa using hr2.kp st2' k3
   | true =>
    simp only [e3, hp, if_true]
    refine wpAny_mono (b2 hp A _ _ _ t3 rm st3' okt3) (fun x t4 hz => ?_) nof
    apply byc;intro kz
    obtain ⟨st4', k4, r4⟩ := hz
    apply kz;clear kz
    have hD4 : t4.heap.get? D = some (Qay "list" vs m) := k4 D _ (st3'.pt_cont hD3 Qbf) hD3
    have okt4 := okt3.kp st3' st4' k4
    have hlen : vs.length <= sizeLine := by
     rw [hr.length, List.length_map]
     refine Nat.le_trans (List.length_filter_le _ _) (Nat.le_trans ?_ hsz)
     rw [List.length_take]; lia
    refine wpAny_list_append_plain (items := vs.toArray) ⟨m, hD4⟩ (fun h5 ⟨m5, hp5⟩ hs5 => ?_) (by simpa using hlen)
    have hD5 : h5.get? D = some (Qay "list" (vs ++ [x]) m5) := by rw [hp5]; simp [Qay]
    have st5 : St C { t4 with heap := h5 } := st4'.same_but (tk := t4.toks) hs5 (Qbb st2 hDn2) (st4'.pt_cont hD4 Qbf)
    have cont5 : Cont (fun b => ((XS Xo env oa b ∨ b = D) ∨ b = cenv.locals)) t4.heap h5 := fun b o hb hco e => (hs5.2 b (fun q => hb (.inl (.inr q)))).trans e
    have okt5 := okt4.turn (s' := { t4 with heap := h5 }) (.inl (.inr rfl)) hs5 ⟨_, hD5, Qbf⟩ ⟨_, hD4, Qbf⟩
    refine ⟨l.length + 1 - (i + 1), by lia, i + 1, vs ++ [x], m5, hlt', rfl, st5, fun b o hp hw e => ?_, okt5.unbind (fun q hq => (htg _ q hq).2), ?_, hD5, ?_⟩
    ·exact (hs5.2 b (fun q => by rw [q, hDn2] at e; cases e)).trans (k4 b o hp (kt3 b o hp hw e))
    ·refine feed.frame (i + 1) t3 _ Jt3 (fun b hb o e => (hs5.2 b (hfp2 b hb)).trans (k4 b o ?_ e)) ((k4.cont st3' _).trans cont5)
     exact fpPT b hb
    ·rw [Qel ha, hp]
     exact RelL.append (((hr2.kp st2' k3).kp st3' k4).mono (fun _ _ _ e => e) cont5) (Qbc ((XE ▸ r4).mono (fun _ _ _ e => e) cont5) Qbw)
  ·have hil : i = l.length := by lia
   subst hil
   refine wpAny_mono (feed.done A n t _ rm stt (by simpa using Jt) fun t2 st2' hk2 => ?_) (fun r s₁ h => .inl h) nof
   have wI := feed.wrs _ t Jt
   have hD2 : t2.heap.get? D = some (Qay "list" vs m) := hk2 D _ (fun q => hwrD D q rfl) hDt
   have rs2 : Rest t t2 := ⟨fun b o hc e => hk2 b o (fun q => (wI b q).ne_cont e hc) e, fun b o v hd e => hk2 b o (fun q => (wI b q).ne_cell e hd) e⟩
   obtain ⟨mL, hmL, _⟩ := okt.loc
   refine hQ D cenv.locals t2 ⟨st2', fun b o hp e => ?_, ⟨mL, rs2.ns hmL⟩, none_old hLn2, none_old hDn2, hDL, Qbb st2 hLn2⟩ ?_
   ·have e2 := k2 b o hp (k1 b o hp e)
    have hw : b ∉ wr := fun q => by
     have := ID.wrN b q
     rw [k1 b o hp e] at this; cases this
    exact hk2 b o hw (kt b o hp hw e2)
   ·have hr2 := rs2.relL hr
    simp only [List.take_length] at hr2
    refine ⟨D, vs, m, rfl, ?_, hD2, hr2.mono (fun a o e q => q.elim (fun q => .inl (.inl q)) .inr) fun _ _ _ _ e => e⟩
    rintro (q | q)
    ·obtain ⟨o, ho, _⟩ := low2 D q
     rw [hDn2] at ho; cases ho
    ·exact hDL q
 refine codeAny_compStart_list loop ((ID.W A rm.handled).self 0 _ _ _ J0.1 loop)
end
section
set_option tactic.hygienic false
noncomputable def Qdb {K β : Type} [DecidableEq K] (l : List (K × β)) (k : K) (v : β) : List (K × β) :=
 if l.any (fun kv => kv.1 = k) then l.map (fun kv => if kv.1 = k then (kv.1, v) else kv) else l ++ [(k, v)]
noncomputable def Qcm {K β : Type} [DecidableEq K] (l : List (K × β)) (k : K) : Option β := (l.find? fun kv => kv.1 = k).map (·.2)
noncomputable def RelKv (C : Cfg) (X : Addr -> Prop) (h : Heap) {K : Type} (l : List (K × PV)) (kvs : List (K × Value)) : Prop := kvs.map (·.1) = l.map (·.1) /\ RelL C X h (l.map (·.2)) (kvs.map (·.2))
theorem RelKv.mono {Y : Addr -> Prop} {h h' : Heap} {K : Type} {l : List (K × PV)} {kvs : List (K × Value)} (hX : ∀ a o, h.get? a = some o -> Y a -> X a) (k : Cont X h h') (r : RelKv C X h l kvs) : RelKv C Y h' l kvs := ⟨r.1, r.2.mono hX k⟩
theorem RelKv.nil {h : Heap} {K : Type} : RelKv C X h ([] : List (K × PV)) [] := ⟨rfl, Qbw⟩
theorem RelKv.cons {h : Heap} {K : Type} {k : K} {d : PV} {v : Value} {l : List (K × PV)} {kvs : List (K × Value)} (r : Rel C X h d v) (rs : RelKv C X h l kvs) : RelKv C X h ((k, d) :: l) ((k, v) :: kvs) :=
 ⟨by simp [rs.1], Qbc r rs.2⟩
theorem RelKv.uncons {h : Heap} {K : Type} {k : K} {d : PV} {l : List (K × PV)} {kvs : List (K × Value)} (r : RelKv C X h ((k, d) :: l) kvs) : ∃ v kvs', kvs = (k, v) :: kvs' /\ Rel C X h d v /\ RelKv C X h l kvs' := by
 obtain ⟨e, r⟩ := r
 cases kvs with
 | nil => simp at e
 | cons kv kvs =>
  obtain ⟨k', v⟩ := kv
  simp only [List.map_cons, List.cons.injEq] at e
  obtain ⟨rfl, e⟩ := e
  apply byc;intro kz
  obtain ⟨v', r', e', r1, r2⟩ := r
  apply kz;clear kz
  cases e'
  exact ⟨v, kvs, rfl, r1, e, r2⟩
theorem RelKv.unnil {h : Heap} {K : Type} {kvs : List (K × Value)} (r : RelKv C X h ([] : List (K × PV)) kvs) : kvs = [] := by
 obtain ⟨e, _⟩ := r; simpa using e
theorem RelI.kv {h : Heap} {l : List (Int × PV)} {kvs : List (Int × Value)} (r : RelI C X h l kvs) : RelKv C X h l kvs := r.keys
theorem RelS.kv {h : Heap} {l : List (Str × PV)} {kvs : List (Str × Value)} (r : RelS C X h l kvs) : RelKv C X h l kvs := r.keys
theorem RelKv.toI {h : Heap} {l : List (Int × PV)} {kvs : List (Int × Value)} (r : RelKv C X h l kvs) : RelI C X h l kvs := RelI.of_keys r.1 r.2
theorem RelKv.toS {h : Heap} {l : List (Str × PV)} {kvs : List (Str × Value)} (r : RelKv C X h l kvs) : RelS C X h l kvs := RelS.of_keys r.1 r.2
theorem RelKv.any {h : Heap} {K : Type} [DecidableEq K] {k : K} : ∀ {l : List (K × PV)} {kvs : List (K × Value)}, RelKv C X h l kvs -> kvs.any (fun kv => kv.1 = k) = l.any (fun kv => kv.1 = k)
 | [], kvs, r => by rw [r.unnil]; rfl
 | (k', d) :: l, kvs, r => by
  apply byc;intro kz
  obtain ⟨v, kvs', rfl, _, r2⟩ := r.uncons
  apply kz;clear kz
  simp [RelKv.any r2]
theorem RelKv.append {h : Heap} {K : Type} : ∀ {l l' : List (K × PV)} {kvs kvs' : List (K × Value)}, RelKv C X h l kvs -> RelKv C X h l' kvs' -> RelKv C X h (l ++ l') (kvs ++ kvs')
 | [], l', kvs, kvs', r, r' => by rw [r.unnil]; exact r'
 | (k', d) :: l, l', kvs, kvs', r, r' => by
  apply byc;intro kz
  obtain ⟨v, kvs'', rfl, r1, r2⟩ := r.uncons
  apply kz;clear kz
  exact .cons r1 (RelKv.append r2 r')
theorem RelKv.put {h : Heap} {K : Type} [DecidableEq K] {k : K} {d : PV} {v : Value} (rv : Rel C X h d v) : ∀ {l : List (K × PV)} {kvs : List (K × Value)}, RelKv C X h l kvs ->
  RelKv C X h (l.map fun kv => if kv.1 = k then (kv.1, d) else kv) (kvs.map fun kv => if kv.1 = k then (kv.1, v) else kv)
 | [], kvs, r => by rw [r.unnil]; exact .nil
 | (k', e) :: l, kvs, r => by
  apply byc;intro kz
  obtain ⟨u, kvs', rfl, r1, r2⟩ := r.uncons
  apply kz;clear kz
  simp only [List.map_cons]
  by_cases hk : k' = k
  ·subst hk; simp only [if_true]; exact .cons rv (RelKv.put rv r2)
  ·simp only [hk, if_false]; exact .cons r1 (RelKv.put rv r2)
theorem RelKv.set {h : Heap} {K : Type} [DecidableEq K] {k : K} {d : PV} {v : Value} {l : List (K × PV)} {kvs : List (K × Value)} (r : RelKv C X h l kvs) (rv : Rel C X h d v) : RelKv C X h (Qdb l k d) (stored kvs k v) := by
 unfold Qdb stored
 rw [r.any]
 split
 ·exact r.put rv
 ·exact r.append (.cons rv .nil)
theorem RelKv.length {h : Heap} {K : Type} {l : List (K × PV)} {kvs : List (K × Value)} (r : RelKv C X h l kvs) : kvs.length = l.length := by
 have := congrArg List.length r.1; simpa using this
theorem RelKv.get {h : Heap} {K : Type} [DecidableEq K] {k : K} {d : PV} : ∀ {l : List (K × PV)} {kvs : List (K × Value)}, RelKv C X h l kvs -> Qcm l k = some d -> ∃ v, valueAt kvs k = some v /\ Rel C X h d v
 | [], kvs, r, e => by simp [Qcm] at e
 | (k', e) :: l, kvs, r, h => by
  apply byc;intro kz
  obtain ⟨u, kvs', rfl, r1, r2⟩ := r.uncons
  apply kz;clear kz
  unfold Qcm at h
  unfold valueAt
  rw [List.find?_cons] at h ⊢
  by_cases hk : k' = k
  ·simp only [hk, decide_true] at h ⊢
   simp only [Option.map_some, Option.some.injEq] at h
   subst h
   exact ⟨u, rfl, r1⟩
  ·simp only [hk, decide_false] at h ⊢
   exact RelKv.get r2 h
theorem RelKv.get_none {h : Heap} {K : Type} [DecidableEq K] {k : K} : ∀ {l : List (K × PV)} {kvs : List (K × Value)}, RelKv C X h l kvs -> (valueAt kvs k).isSome = (Qcm l k).isSome
 | [], kvs, r => by rw [r.unnil]; rfl
 | (k', e) :: l, kvs, r => by
  apply byc;intro kz
  obtain ⟨u, kvs', rfl, r1, r2⟩ := r.uncons
  apply kz;clear kz
  unfold Qcm valueAt
  rw [List.find?_cons, List.find?_cons]
  by_cases hk : k' = k
  ·simp [hk]
  ·simp only [hk, decide_false]
   exact RelKv.get_none r2
theorem dset_length {K β : Type} [DecidableEq K] (l : List (K × β)) (k : K) (v : β) : (Qdb l k v).length <= l.length + 1 := by
 unfold Qdb; split <;> simp
noncomputable def Qcv {α K β : Type} [DecidableEq K] (k : α -> K) (f : α -> β) (l : List α) : List (K × β) := l.foldl (fun acc a => Qdb acc (k a) (f a)) []
theorem dfold_snoc {α K β : Type} [DecidableEq K] (k : α -> K) (f : α -> β) (l : List α) (a : α) : Qcv k f (l ++ [a]) = Qdb (Qcv k f l) (k a) (f a) := by simp [Qcv]
theorem dfold_length {α K β : Type} [DecidableEq K] (k : α -> K) (f : α -> β) (l : List α) : (Qcv k f l).length <= l.length := by
 have : ∀ (l : List α) (acc : List (K × β)), (l.foldl (fun acc a => Qdb acc (k a) (f a)) acc).length <= acc.length + l.length := by
  intro l
  induction l with
  | nil => intro acc; simp
  | cons a l ih => intro acc; rw [List.foldl_cons]; refine Nat.le_trans (ih _) ?_; have := dset_length acc (k a) (f a); simp; lia
 simpa [Qcv] using this l []
theorem new_ne_sys {X0 : Addr} (st : St C s) (h : s.heap.get? X0 = none) : X0 ≠ sysModules := by
 rintro rfl
 obtain ⟨o, e, hd⟩ := st.base.sys
 rw [st.h0 e hd] at h; cases h
theorem dictSetN {K : Type} [DecidableEq K] {knd : KeyKind Pr C.w K} {d : Addr} {kvs : List (K × Value)} {k : K} {key v : Value} {Q : Unit -> Shared -> Prop} (hkey : knd.is k key = true) (hm : Qep s.heap knd d kvs)
  (hQ : ∀ h', Qep h' knd d (stored kvs k v) -> Heap.SameBut d s.heap h' -> Q () { s with heap := h', toks := s.toks + 1 })
  (hsz : kvs.length <= sizeLine) :
  wpAny (Mo C) A (dictSet d key v) Q E s := by
 apply byc;intro kz
 obtain ⟨⟨o, es, ep, ho, hc, hd, hk, hp, hn⟩, o', ho', hnd⟩ := hm
 apply kz;clear kz
 rw [ho] at ho'; cases ho'
 have hes : es.size <= sizeLine := by
  have e1 := hp.length
  have e2 : es.toList.length = es.size := by simp
  lia
 unfold dictSet
 try with_reducible refine wpAny_holding ?_
 refine wpAny_bind (knd.pyHash hkey ?_)
 unfold dictSetHashed
 try with_reducible refine wpAny_holding ?_
 refine wpAny_bind (wpAny_dictFind_of (s := { s with toks := s.toks + 1 }) hkey ho hd hk ?_)
 have hidx : (es.findIdx? fun e => knd.is k e.key) = kvs.findIdx? fun kv => decide (kv.1 = k) := by
  rw [← hp.findIdx k]; obtain ⟨l⟩ := es; simp
 cases hi : es.findIdx? fun e => knd.is k e.key with
 | some i =>
  refine wpAny_bind (wpAny_rule (wpAny_bind (wpAny_updateDict (s := { s with toks := s.toks + 1 }) ho hd (wpAny_point (hQ _ ⟨⟨_, _, ep, Heap.get?_update_self _ ho (Obj.isFreed_of_dict (Obj.data_mapDict hd _)),
   hc.mapDict _, Obj.data_mapDict hd _, hk.modify _ _, ?_, ?_⟩, _, Heap.get?_update_self _ ho (Obj.isFreed_of_dict (Obj.data_mapDict hd _)), ?_⟩ (Heap.SameBut.update ..))))))
  ·rw [stored, if_pos (any_of_findIdx_some (hidx ▸ hi))]
   have hl : (es.toList.findIdx? fun e => knd.is k e.key) = some i := by rw [← hi]; obtain ⟨l⟩ := es; simp
   have := hp.modify hn hl v
   obtain ⟨l⟩ := es
   simpa using this
  ·rw [stored, if_pos (any_of_findIdx_some (hidx ▸ hi)), keys_map_store]; exact hn
  ·apply byc;intro kz
   obtain ⟨c, dd, da, sl⟩ := o
   apply kz;clear kz
   dsimp only at hd hnd
   subst hd
   exact hnd
 | none =>
  have hnot : k ∉ kvs.map (·.1) := not_mem_of_findIdx_none (hidx ▸ hi)
  have hany : ¬ (kvs.any fun kv => decide (kv.1 = k)) = true := by
   rw [List.any_eq_true]; rintro ⟨kv, hkv, he⟩
   exact hnot (List.mem_map.mpr ⟨kv, hkv, of_decide_eq_true he⟩)
  refine wpAny_bind (wpAny_rule (wpAny_updateDictKeys (hz := hes) (s := { s with toks := s.toks + 1 }) ho hd (hQ _ ⟨⟨_, _, ep + 1, Heap.get?_update_self _ ho (Obj.isFreed_of_dict (Obj.data_mapDictKeys hd _)),
   hc.mapDictKeys _, Obj.data_mapDictKeys hd _, hk.push hkey _, ?_, ?_⟩, _, Heap.get?_update_self _ ho (Obj.isFreed_of_dict (Obj.data_mapDictKeys hd _)), ?_⟩ (Heap.SameBut.update ..))))
  ·rw [stored, if_neg hany]
   have := hp.append hkey (knd.hash k) v
   obtain ⟨l⟩ := es
   simpa using this
  ·rw [stored, if_neg hany, List.map_append, List.nodup_append]
   refine ⟨hn, by simp, ?_⟩
   intro a ha b hb
   simp only [List.map_cons, List.map_nil, List.mem_singleton] at hb
   subst hb
   exact fun e => hnot (e ▸ ha)
  ·apply byc;intro kz
   obtain ⟨c, dd, da, sl⟩ := o
   apply kz;clear kz
   dsimp only at hd hnd
   subst hd
   exact hnd
theorem comp_dict {α K : Type} [DecidableEq K] {knd : KeyKind Pr C.w K} {mk : K -> PV} {l : List α} {pv f : α -> PV} {ky : α -> K} {bd : α -> Qbs} {p : α -> Bool} {kx vx target iter : Expr} {ifs : List Expr} {sc : Scope} {pos : Pos} {use : Option (Value -> Sem Unit)} {Q : Value -> Shared -> Prop}
  (hmk : ∀ X h k v, Rel C X h (mk k) v -> knd.is k v = true)
  (rm : Room A n) (st : St C s) (ok : EnvOK C nm Xo env oa s.heap ρ ow)
  (hit : EvIt C n nm ρ ow iter (l.map pv)) (hfeed : Qdc C target pv bd) (hsc : Qdn nm sc = true) (htg : ∀ a, TgtC sc.names (bd a))
  (body : ∀ a ∈ l, TestsV C n sc.names (bd a ++ Qer sc.names ρ) ifs (p a) /\ (p a = true -> Ev C n sc.names (bd a ++ Qer sc.names ρ) none kx (mk (ky a)) /\ Ev C n sc.names (bd a ++ Qer sc.names ρ) none vx (f a))) (hsz : l.length <= sizeLine)
  (hs : ∀ env x, foldedSetIterable iter env x = pure x)
  (hQ : ∀ D L s', CompEnd C (XS Xo env oa) s L D s' -> ¬ XS Xo env oa D -> D ≠ sysModules -> (∃ kvs, Qep s'.heap knd D kvs /\ RelKv C (fun b => XS Xo env oa b ∨ b = L) s'.heap (Qcv ky f (l.filter p)) kvs) -> compPost (Mo C) A NoE use Q (.ref D) L (.ok .next) s') :
  wpAny (Mo C) A (comprehension (.DictComp kx vx [⟨target, iter, ifs, 0⟩] sc pos) sc env (firstIterPos [⟨target, iter, ifs, 0⟩] pos) newDict (firstAsync [⟨target, iter, ifs, 0⟩]) (firstIter [⟨target, iter, ifs, 0⟩] env) use) Q NoE s := by
 refine comp_start (o0 := { cls := .type "dict", data := .dict #[] }) rfl (hs env) hsc st ok (hit A Xo env oa s rm st ok) (fun s₂ K hK => by unfold newDict; exact wpAny_newObj_type hK (by simp [sizeOk])) (.inr (.inl ⟨_, _, rfl⟩)) (fun h => Heap.get?_push_size _ rfl) fun s₁ s₂ s₄ D cenv I fp wr P Stt V st1 k1 st2 k2 ID hlt low2 hDn2 hLn2 hDL keep24 none_old XE J0 hDc hfp2 own0 fpL fpPT st4 ok4 hD4s => ?_
 have feed := hfeed (fun b => ((XS Xo env oa b ∨ b = D) ∨ b = cenv.locals)) s₁ l _ I fp wr P Stt V st1 ID
 have own2 : ∀ {a b o}, s₂.heap.get? b = some o -> ∀ q ∈ bd a, cenv.cells.lookup q.1 ≠ some b := fun e q hq => own0 e q.1 (htg _ q hq).2
 have hfpC : ∀ a, ∀ b ∈ fp, b ≠ cenv.locals /\ ∀ q ∈ bd a, cenv.cells.lookup q.1 ≠ some b := fun a b hb => ⟨fpL b hb, let ⟨_, e⟩ := hlt b hb; own2 e⟩
 have hwrD : ∀ b ∈ wr, b ≠ D := fun b hb => hfp2 b (feed.sub b hb)
 have dob : ∀ {h : Heap} {kvs : List (K × Value)}, Qep h knd D kvs -> ∃ o, h.get? D = some o /\ Obj.cont o := fun x => by
  apply byc;intro kz
  obtain ⟨⟨o, es, ep, ho, _, hd, _⟩, _⟩ := x
  apply kz;clear kz
  exact ⟨o, ho, .inr (.inl ⟨es, ep, hd⟩)⟩
 have datK : ∀ {h h' : Heap} {kvs : List (K × Value)}, Qep h knd D kvs -> (∀ o, Obj.cont o -> h.get? D = some o -> h'.get? D = some o) -> Qep h' knd D kvs := fun x k => dictN_at x k
 have loop : codeAny (Mo C) A (.compLoop (.DictComp kx vx [⟨target, iter, ifs, 0⟩] sc pos) 0 (.ref I) (.ref D) { cenv with scope := relabel sc env }) (compPost (Mo C) A NoE use Q (.ref D) cenv.locals) s₄ := by
  refine compLoop_dict (fun k t => ∃ i kvs, i <= l.length /\ k = l.length + 1 - i /\ St C t /\ (∀ b o, b ≠ C.PT -> b ∉ wr -> s₂.heap.get? b = some o -> t.heap.get? b = some o) /\
   EnvOK C sc.names (XS (fun b => Xo b ∨ b = D) env oa) { cenv with scope := relabel sc env } none t.heap (Qer sc.names ρ) none /\
   (Stt i t.heap /\ V (fun b => ((XS Xo env oa b ∨ b = D) ∨ b = cenv.locals)) t.heap) /\ Qep t.heap knd D kvs /\
   RelKv C (fun b => ((XS Xo env oa b ∨ b = D) ∨ b = cenv.locals)) t.heap (Qcv ky f ((l.take i).filter p)) kvs) ?_ (l.length + 1)
   ⟨0, [], Nat.zero_le _, rfl, st4, fun b o _ _ e => keep24 b o e, ok4, J0, ⟨⟨_, _, _, hD4s, ⟨rfl, rfl, rfl⟩, rfl, (fun e he => by simp at he), .nil, .nil⟩, _, hD4s, rfl⟩, .nil⟩
  intro k t hz
  apply byc;intro kz
  obtain ⟨i, kvs, hi, rfl, stt, kt, okt, Jt, hDt, hr⟩ := hz
  apply kz;clear kz
  rcases Nat.lt_or_ge i l.length with hlt' | hge
  ·have ha : l[i]? = some l[i] := by simp [hlt']
   obtain ⟨b1, b2⟩ := body l[i] (by simp)
   refine wpAny_mono (feed.next A n sc.names _ { cenv with scope := relabel sc env } none t (Qer sc.names ρ) none i (bd l[i]) _ (by simp [hlt']) rm stt okt XE (hfpC _) Jt (htg _).tgt fun t2 st2' kt2 okt2 Jt2 => ?_) (fun r s₁ h => .inr h) nof
   have hD2 : Qep t2.heap knd D kvs := datK hDt fun o _ e => kt2 D _ hDL (fun q _ => hDc q.1) (fun q => hwrD D q rfl) e
   have cont2 : Cont (fun b => ((XS Xo env oa b ∨ b = D) ∨ b = cenv.locals)) t.heap t2.heap := fun b o hb hco e =>
    kt2 b o (fun q => hb (.inr q)) (fun z _ q => by obtain ⟨v, e1, e2⟩ := okt.cellAt z.1 b q; exact e2 o e hco) (fun q => (feed.wrs i t Jt b q).ne_cont e hco) e
   have hr2 := hr.mono (fun _ _ _ e => e) cont2
   refine wpAny_mono (b1 A _ _ _ t2 rm st2' okt2) (fun okb t3 hz => ?_) nof
   apply byc;intro kz
   obtain ⟨st3', k3, e3⟩ := hz
   apply kz;clear kz
   have okt3 := okt2.kp st2' st3' k3
   have hD3 : Qep t3.heap knd D kvs := datK hD2 fun o hc e => k3 D _ (st2'.pt_cont e hc) e
   have Jt3 := feed.frame (i + 1) t2 t3 Jt2 (fun b hb o e => k3 b o (fpPT b hb) e) (k3.cont st2' _)
   have kt3 : ∀ b o, b ≠ C.PT -> b ∉ wr -> s₂.heap.get? b = some o -> t3.heap.get? b = some o := fun b o hp hw e => by
    have e1 := kt b o hp hw e
    exact k3 b o hp (kt2 b o (fun q => (by rw [q, hLn2] at e; cases e)) (own2 e) hw e1)
   have hsnoc : (l.take (i + 1)).filter p = (l.take i).filter p ++ (if p l[i] then [l[i]] else []) := take_succ_filter p l i _ ha
   cases hp : p l[i] with
   | false =>
    simp only [e3, hp, Bool.false_eq_true, if_false]
    refine ⟨l.length + 1 - (i + 1), by lia, i + 1, kvs, hlt', rfl, st3', kt3, okt3.unbind (fun q hq => (htg _ q hq).2), Jt3, hD3, ?_⟩
    rw [hsnoc, hp]
    simp only [Bool.false_eq_true, if_false, List.append_nil]
    exact hr2.mono (fun _ _ _ e => e) (k3.cont st2' _)
   | true =>
    simp only [e3, hp, if_true]
    obtain ⟨bk, bv⟩ := b2 hp
    refine wpAny_mono (bk A _ _ _ t3 rm st3' okt3) (fun kv t4 hz => ?_) nof
    apply byc;intro kz
    obtain ⟨st4', k4, r4⟩ := hz
    apply kz;clear kz
    have okt4 := okt3.kp st3' st4' k4
    refine wpAny_mono (bv A _ _ _ t4 rm st4' okt4) (fun vv t5 hz => ?_) nof
    apply byc;intro kz
    obtain ⟨st5', k5, r5⟩ := hz
    apply kz;clear kz
    have okt5 := okt4.kp st4' st5' k5
    have hD5 : Qep t5.heap knd D kvs := datK (datK hD3 fun o hc e => k4 D _ (st3'.pt_cont e hc) e) fun o hc e => k5 D _ (st4'.pt_cont e hc) e
    have hlen : kvs.length <= sizeLine := by
     rw [hr.length]
     refine Nat.le_trans (dfold_length _ _ _) (Nat.le_trans (List.length_filter_le _ _) (Nat.le_trans ?_ hsz))
     rw [List.length_take]; lia
    refine dictSetN (hmk _ _ _ _ r4) hD5 (fun h6 hp6 hs6 => ?_) hlen
    obtain ⟨o5, ho5, hc5⟩ := dob hD5
    have st6 : St C { t5 with heap := h6, toks := t5.toks + 1 } := st5'.same_but hs6 (Qbb st2 hDn2) (st5'.pt_cont ho5 hc5)
    have cont6 : Cont (fun b => ((XS Xo env oa b ∨ b = D) ∨ b = cenv.locals)) t5.heap h6 := fun b o hb hco e => (hs6.2 b (fun q => hb (.inl (.inr q)))).trans e
    have okt6 := okt5.turn (s' := { t5 with heap := h6, toks := t5.toks + 1 }) (.inl (.inr rfl)) hs6 (dob hp6) (dob hD5)
    refine ⟨l.length + 1 - (i + 1), by lia, i + 1, _, hlt', rfl, st6, fun b o hp hw e => ?_, okt6.unbind (fun q hq => (htg _ q hq).2), ?_, hp6, ?_⟩
    ·exact (hs6.2 b (fun q => by rw [q, hDn2] at e; cases e)).trans (k5 b o hp (k4 b o hp (kt3 b o hp hw e)))
    ·refine feed.frame (i + 1) t3 _ Jt3 (fun b hb o e => (hs6.2 b (hfp2 b hb)).trans (k5 b o (fpPT b hb) (k4 b o (fpPT b hb) e))) (((k4.cont st3' _).trans (k5.cont st4' _)).trans cont6)
    ·rw [hsnoc, hp]
     simp only [if_true]
     rw [dfold_snoc]
     exact ((((hr2.mono (fun _ _ _ e => e) (k3.cont st2' _)).mono (fun _ _ _ e => e) (k4.cont st3' _)).mono (fun _ _ _ e => e) (k5.cont st4' _)).set (XE ▸ r5)).mono (fun _ _ _ e => e) cont6
  ·have hil : i = l.length := by lia
   subst hil
   refine wpAny_mono (feed.done A n t _ rm stt (by simpa using Jt) fun t2 st2' hk2 => ?_) (fun r s₁ h => .inl h) nof
   have wI := feed.wrs _ t Jt
   have hD2 : Qep t2.heap knd D kvs := datK hDt fun o _ e => hk2 D _ (fun q => hwrD D q rfl) e
   have rs2 : Rest t t2 := ⟨fun b o hc e => hk2 b o (fun q => (wI b q).ne_cont e hc) e, fun b o v hd e => hk2 b o (fun q => (wI b q).ne_cell e hd) e⟩
   obtain ⟨mL, hmL, _⟩ := okt.loc
   refine hQ D cenv.locals t2 ⟨st2', fun b o hp e => ?_, ⟨mL, rs2.ns hmL⟩, none_old hLn2, none_old hDn2, hDL, Qbb st2 hLn2⟩ ?_ (new_ne_sys st2 hDn2) ⟨kvs, hD2, ?_⟩
   ·have e2 := k2 b o hp (k1 b o hp e)
    have hw : b ∉ wr := fun q => by
     have := ID.wrN b q
     rw [k1 b o hp e] at this; cases this
    exact hk2 b o hw (kt b o hp hw e2)
   ·intro q
    obtain ⟨o, ho, _⟩ := low2 D q
    rw [hDn2] at ho; cases ho
   ·have hr2 := hr.mono (fun _ _ _ e => e) (fun b o _ hc e => rs2.cont b o hc e)
    simp only [List.take_length] at hr2
    exact hr2.mono (fun a o e q => q.elim (fun q => .inl (.inl q)) .inr) fun _ _ _ _ e => e
 refine codeAny_compStart_dict loop ((ID.W A rm.handled).self 0 _ _ _ J0.1 loop)
end
section
set_option tactic.hygienic false
theorem CompEnd.post {L D : Addr} (e : CompEnd C X s L D s') {h' : Heap} (hs : Heap.SameBut L s'.heap h') {d : PV} {v : Value} (r : Rel C (fun b => X b ∨ b = L) s'.heap d v) : Post C X s d v { s' with heap := h' } := by
 obtain ⟨m, hm⟩ := e.ns
 refine ⟨e.st.same_but (tk := s'.toks) hs e.h0 (ns_ne_pt e.st hm) e.st.pos, fun b o hp q => (hs.2 b (fun z => by subst z; rw [e.newL] at q; cases q)).trans (e.kp b o hp q), ?_⟩
 exact r.mono (fun a o _ q => .inl q) fun b o hb _ q => (hs.2 b (fun z => hb (.inr z))).trans q
theorem Qas {α : Type} {l : List α} {pv f : α -> PV} {bd : α -> Qbs} {p : α -> Bool} {elt target iter : Expr} {ifs : List Expr} {sc : Scope} {pos : Pos}
  (hit : EvIt C n nm ρ ow iter (l.map pv)) (hfeed : Qdc C target pv bd) (hsc : Qdn nm sc = true) (htg : ∀ a, TgtC sc.names (bd a))
  (body : ∀ a ∈ l, TestsV C n sc.names (bd a ++ Qer sc.names ρ) ifs (p a) /\ (p a = true -> Ev C n sc.names (bd a ++ Qer sc.names ρ) none elt (f a))) (hsz : l.length <= sizeLine)
  (hs : ∀ env x, foldedSetIterable iter env x = pure x := by k_all) :
  Ev C n nm ρ ow (.ListComp elt [⟨target, iter, ifs, 0⟩] sc pos) (.lst ((l.filter p).map f)) := by
 intro A Xo env oa s rm st ok
 rw [arm_eval_ListComp]
 exact comp_list rm st ok hit hfeed hsc htg body hsz hs fun D L s' e r => let ⟨m, hm⟩ := e.ns; ⟨m, hm, fun h' hs' => e.post hs' r⟩
theorem Qeh {α : Type} {l : List α} {pv f : α -> PV} {ky : α -> Int} {bd : α -> Qbs} {p : α -> Bool} {kx vx target iter : Expr} {ifs : List Expr} {sc : Scope} {pos : Pos}
  (hit : EvIt C n nm ρ ow iter (l.map pv)) (hfeed : Qdc C target pv bd) (hsc : Qdn nm sc = true) (htg : ∀ a, TgtC sc.names (bd a))
  (body : ∀ a ∈ l, TestsV C n sc.names (bd a ++ Qer sc.names ρ) ifs (p a) /\ (p a = true -> Ev C n sc.names (bd a ++ Qer sc.names ρ) none kx (.int (ky a)) /\ Ev C n sc.names (bd a ++ Qer sc.names ρ) none vx (f a))) (hsz : l.length <= sizeLine)
  (hs : ∀ env x, foldedSetIterable iter env x = pure x := by k_all) :
  Ev C n nm ρ ow (.DictComp kx vx [⟨target, iter, ifs, 0⟩] sc pos) (.dctI (Qcv ky f (l.filter p))) := by
 intro A Xo env oa s rm st ok
 rw [arm_eval_DictComp]
 refine comp_dict (knd := IK C) (mk := PV.int) (fun X h k v r => by obtain ⟨t, rfl⟩ := r; simp [PySem.intKind, Value.isInt]) rm st ok hit hfeed hsc htg body hsz hs
  fun D L s' e hx hsys ⟨kvs, hd, hr⟩ => let ⟨m, hm⟩ := e.ns; ⟨m, hm, fun h' hs' => e.post hs' ?_⟩
 exact ⟨D, kvs, rfl, ⟨fun q => q.elim hx fun q => e.ne q, hsys⟩, hd, hr.toI⟩
theorem ev_dictcompS {α : Type} {l : List α} {pv f : α -> PV} {ky : α -> Str} {bd : α -> Qbs} {p : α -> Bool} {kx vx target iter : Expr} {ifs : List Expr} {sc : Scope} {pos : Pos}
  (hit : EvIt C n nm ρ ow iter (l.map pv)) (hfeed : Qdc C target pv bd) (hsc : Qdn nm sc = true) (htg : ∀ a, TgtC sc.names (bd a))
  (body : ∀ a ∈ l, TestsV C n sc.names (bd a ++ Qer sc.names ρ) ifs (p a) /\ (p a = true -> Ev C n sc.names (bd a ++ Qer sc.names ρ) none kx (.str (ky a)) /\ Ev C n sc.names (bd a ++ Qer sc.names ρ) none vx (f a))) (hsz : l.length <= sizeLine)
  (hs : ∀ env x, foldedSetIterable iter env x = pure x := by k_all) :
  Ev C n nm ρ ow (.DictComp kx vx [⟨target, iter, ifs, 0⟩] sc pos) (.dctS (Qcv ky f (l.filter p))) := by
 intro A Xo env oa s rm st ok
 rw [arm_eval_DictComp]
 refine comp_dict (knd := SK C) (mk := PV.str) (fun X h k v r => by obtain ⟨t, rfl⟩ := r; simp [PySem.strKind, Value.isStrOf]) rm st ok hit hfeed hsc htg body hsz hs
  fun D L s' e hx hsys ⟨kvs, hd, hr⟩ => let ⟨m, hm⟩ := e.ns; ⟨m, hm, fun h' hs' => e.post hs' ?_⟩
 exact ⟨D, kvs, rfl, ⟨fun q => q.elim hx fun q => e.ne q, hsys⟩, hd, hr.toS⟩
structure PostS (C : Cfg) (nm : Qck) (Xo : Addr -> Prop) (env : Env) (oa : Option Addr) (s : Shared) (N : Qbs -> Option (Str × PV) -> Prop) (R : PV -> Prop) (f : Flow) (s' : Shared) : Prop where
 st : St C s'
 fr : FrS C env oa s s'
 res : match f with
  | .next => ∃ ρ' ow' oa', EnvOK C nm Xo env oa' s'.heap ρ' ow' /\ Fresh oa oa' s /\ N ρ' ow'
  | .ret v => ∃ d, Rel C Xo s'.heap d v /\ R d
  | _ => False
noncomputable def Ex (C : Cfg) (n : Nat) (nm : Qck) (body : List Stmt) (ρ : Qbs) (ow : Option (Str × PV)) (N : Qbs -> Option (Str × PV) -> Prop) (R : PV -> Prop) : Prop :=
 ∀ A Xo env oa s, Room A n -> St C s -> EnvOK C nm Xo env oa s.heap ρ ow -> wpAny (Mo C) A (execs body env) (PostS C nm Xo env oa s N R) NoE s
noncomputable def ExS (C : Cfg) (n : Nat) (nm : Qck) (st : Stmt) (ρ : Qbs) (ow : Option (Str × PV)) (N : Qbs -> Option (Str × PV) -> Prop) (R : PV -> Prop) : Prop :=
 ∀ A Xo env oa s, Room A n -> St C s -> EnvOK C nm Xo env oa s.heap ρ ow -> wpAny (Mo C) A (exec st env) (PostS C nm Xo env oa s N R) NoE s
theorem FrS.refl : FrS C env oa s s := fun _ _ _ _ _ _ e => e
theorem Fresh.trans {oa' oa'' : Option Addr} {s₁ : Shared} {ρ' : Qbs} {ow' : Option (Str × PV)} (f : Fresh oa oa' s) (fr : FrS C env oa s s₁) (st1 : St C s₁) (ok1 : EnvOK C nm Xo env oa' s₁.heap ρ' ow') (g : Fresh oa' oa'' s₁) : Fresh oa oa'' s := fun a e => by
 rcases g a e with h | h
 ·exact f a h
 ·by_cases ha : oa = some a
  ·exact .inl ha
  ·refine .inr ?_
   cases q : s.heap.get? a with
   | none => rfl
   | some o =>
    exfalso
    have none_some : ∀ {o' : PySem.Obj}, s₁.heap.get? a = some o' -> False := fun e' => by rw [h] at e'; cases e'
    by_cases hp : a = C.PT
    ·obtain ⟨more, t⟩ := st1.tab; exact none_some (hp ▸ t.2)
    by_cases hl : a = env.locals
    ·obtain ⟨m, ⟨o', _, _, ho', _⟩, _⟩ := ok1.loc; exact none_some (hl ▸ ho')
    by_cases hc : ∃ x, env.cells.lookup x = some a
    ·obtain ⟨x, hx⟩ := hc; obtain ⟨v, o', ho', _⟩ := ok1.all x a hx; exact none_some ho'
    ·exact none_some (fr a o hp hl (fun x hx => hc ⟨x, hx⟩) ha q)
theorem Qcb {N : Qbs -> Option (Str × PV) -> Prop} {R : PV -> Prop} (h : N ρ ow) : Ex C n nm [] ρ ow N R := fun A Xo env oa s rm st ok =>
 wpAny_execs_nil ⟨st, FrS.refl, ρ, ow, oa, ok, Fresh.refl, h⟩
theorem Qbi {st : Stmt} {rest : List Stmt} {N1 N : Qbs -> Option (Str × PV) -> Prop} {R : PV -> Prop} (h1 : ExS C n nm st ρ ow N1 R) (h2 : ∀ ρ' ow', N1 ρ' ow' -> Ex C n nm rest ρ' ow' N R) : Ex C n nm (st :: rest) ρ ow N R := by
 intro A Xo env oa s rm st ok
 refine wpAny_execs_cons (wpAny_mono (h1 A Xo env oa s rm st ok) (fun f s₁ hz => ?_) nof)
 apply byc;intro kz
 obtain ⟨st1, fr1, h⟩ := hz
 apply kz;clear kz
 cases f with
 | next =>
  apply byc;intro kz
  obtain ⟨ρ', ow', oa', ok', fo, hN⟩ := h
  apply kz;clear kz
  refine wpAny_mono (h2 ρ' ow' hN A Xo env oa' s₁ rm st1 ok') (fun f s₂ ⟨st2, fr2, h⟩ => ⟨st2, fr1.trans fo fr2, ?_⟩) nof
  cases f with
  | next =>
   apply byc;intro kz
   obtain ⟨ρ'', ow'', oa'', ok'', fo', hN'⟩ := h
   apply kz;clear kz
   exact ⟨ρ'', ow'', oa'', ok'', fo.trans fr1 st1 ok' fo', hN'⟩
  | ret v => exact h
  | brk => exact h.elim
  | cont => exact h.elim
 | ret v => exact ⟨st1, fr1, h⟩
 | brk => exact h.elim
 | cont => exact h.elim
theorem Qai {st : Stmt} {rest : List Stmt} {ρ' : Qbs} {ow' : Option (Str × PV)} {N : Qbs -> Option (Str × PV) -> Prop} {R : PV -> Prop} (h1 : ExS C n nm st ρ ow (fun a b => a = ρ' /\ b = ow') (fun _ => False)) (h2 : Ex C n nm rest ρ' ow' N R) : Ex C n nm (st :: rest) ρ ow N R := by
 refine Qbi (N1 := fun a b => a = ρ' /\ b = ow') ?_ fun a b e => by obtain ⟨rfl, rfl⟩ := e; exact h2
 intro A Xo env oa s rm st ok
 refine wpAny_mono (h1 A Xo env oa s rm st ok) (fun f s₁ ⟨st1, fr1, h⟩ => ⟨st1, fr1, ?_⟩) nof
 cases f with
 | next => exact h
 | ret v => obtain ⟨d, _, q⟩ := h; exact q.elim
 | brk => exact h.elim
 | cont => exact h.elim
noncomputable def NotOw (ow : Option (Str × PV)) (x : Str) : Prop := ∀ y e, ow = some (y, e) -> y ≠ x
theorem Qad {x : Str} : NotOw none x := fun _ _ e => nomatch e
theorem Qba {x y : Str} {d : PV} (h : (y == x) = false) : NotOw (some (y, d)) x := fun y' e q => by cases q; exact beq_eq_false_iff_ne.mp h
theorem postS_store {x : Str} {d : PV} {s₁ s₂ : Shared} (k1 : Kp C s s₁) (st2 : St C s₂) (fr : FrN env x s₁ s₂) (ok2 : EnvOK C nm Xo env oa s₂.heap ((x, d) :: ρ) ow) {R : PV -> Prop} :
  PostS C nm Xo env oa s (fun a b => a = (x, d) :: ρ /\ b = ow) R .next s₂ :=
 ⟨st2, fun b o h1 h2 h3 h4 e => fr b o h2 (h3 x) (k1 b o h1 e), _, _, oa, ok2, Fresh.refl, rfl, rfl⟩
theorem Qak {x : Str} {px pos : Pos} {e : Expr} {d : PV} {R : PV -> Prop} (h : Ev C n nm ρ ow e d) (hx : (Qdm nm x || Qdi nm x) = true) (hw : NotOw ow x)
  (hs : ∀ env, swapsWith e (some (.Name x px)) pos.line env = pure false := by k_all) : ExS C n nm (.Assign [.Name x px] e pos) ρ ow (fun a b => a = (x, d) :: ρ /\ b = ow) R := by
 intro A Xo env oa s rm st ok
 refine wpAny_Assign_Name (wpAny_mono (h A Xo env oa s rm st ok) (fun v s₁ hz => ?_) nof) (hs env)
 apply byc;intro kz
 obtain ⟨st1, k1, r⟩ := hz
 apply kz;clear kz
 exact store (ok.kp st st1 k1) st1 hx r hw fun s₂ st2 fr ok2 => postS_store k1 st2 fr ok2
theorem swaps_list {elt : Expr} {gens : List Comprehension} {sc : Scope} {pos p : Pos} {x : Str} {line : Nat} {env : Env} : ∃ b, swapsWith (.ListComp elt gens sc pos) (some (.Name x p)) line env = pure b := ⟨_, rfl⟩
theorem swaps_dict {k v : Expr} {gens : List Comprehension} {sc : Scope} {pos p : Pos} {x : Str} {line : Nat} {env : Env} : ∃ b, swapsWith (.DictComp k v gens sc pos) (some (.Name x p)) line env = pure b := ⟨_, rfl⟩
theorem EnvOK.turnOut {L : Addr} {h h' : Heap} (x : EnvOK C nm (fun b => Xo b ∨ b = L) env oa h ρ ow) (hL : ¬ XS Xo env oa L) (hs : Heap.SameBut L h h') : EnvOK C nm Xo env oa h' ρ ow := by
 have up : ∀ a, XS Xo env oa a -> XS (fun b => Xo b ∨ b = L) env oa a := fun a q => q.elim (fun q => .inl (.inl q)) .inr
 have hc : Cont (XS (fun b => Xo b ∨ b = L) env oa) h h' := fun b o hb _ e => (hs.2 b (fun q => hb (.inl (.inr q)))).trans e
 have hi : ∀ (a : Addr) (o : PySem.Obj), h.get? a = some o -> XS Xo env oa a -> XS (fun b => Xo b ∨ b = L) env oa a := fun a _ _ q => up a q
 obtain ⟨oL, hoL, hcL⟩ := x.low L (.inl (.inr rfl))
 have ne : env.locals ≠ L := fun q => hL (.inr (.inl q.symm))
 have ic : ∀ {a v}, h.IsCell a v -> h'.IsCell a v := fun {a v} q => q.sameBut hs (fun z => by
  obtain ⟨o, ho, hd⟩ := q
  subst z
  rw [hoL] at ho; cases ho
  rcases hcL with ⟨_, _, z⟩ | ⟨_, _, z⟩ | z | ⟨_, _, z⟩ <;> (rw [hd] at z; cases z))
 refine { x with loc := ?_, cel := ?_, celO := ?_, cst := ?_, low := ?_, own := ?_, xoL := fun q => x.xoL (.inl q), all := fun y c q => let ⟨v, e⟩ := x.all y c q; ⟨v, ic e⟩ }
 ·apply byc;intro kz
  obtain ⟨m, hm, h1, h2⟩ := x.loc
  apply kz;clear kz
  exact ⟨m, hm.sameBut hs ne, fun y d e q => let ⟨v, a, b⟩ := h1 y d e q; ⟨v, a, b.mono hi hc⟩, h2⟩
 ·intro y d e q
  apply byc;intro kz
  obtain ⟨c, v, h1, h2, h3⟩ := x.cel y d e q
  apply kz;clear kz
  exact ⟨c, v, h1, ic h2, h3.mono hi hc⟩
 ·intro y d e q
  apply byc;intro kz
  obtain ⟨c, a, h1, h2, h3⟩ := x.celO y d e q
  apply kz;clear kz
  exact ⟨c, a, h1, ic h2, h3⟩
 ·intro y q
  apply byc;intro kz
  obtain ⟨c, v, h1, h2⟩ := x.cst y q
  apply kz;clear kz
  exact ⟨c, v, h1, ic h2⟩
 ·intro a q
  obtain ⟨o, ho, hco⟩ := x.low a (up a q)
  exact ⟨o, (hs.2 a (fun z => hL (z ▸ q))).trans ho, hco⟩
 ·intro y d e
  apply byc;intro kz
  obtain ⟨h1, a, h2, h3, h4, h5⟩ := x.own y d e
  apply kz;clear kz
  have na : a ≠ L := fun z => h3 (.inr z)
  exact ⟨h1, a, h2, fun q => h3 (.inl q), h4, h5.mono hi hc fun o _ ho => (hs.2 a na).trans ho⟩
theorem comp_store {x : Str} {p : Pos} {d : PV} {L D : Addr} {v : Value} (ok : EnvOK C nm Xo env oa s.heap ρ ow) (st : St C s) (e : CompEnd C (XS Xo env oa) s L D s') (r : Rel C (fun b => XS Xo env oa b ∨ b = L) s'.heap d v)
  (hx : (Qdm nm x || Qdi nm x) = true) (hw : NotOw ow x) {R : PV -> Prop} :
  wpAny (Mo C) A (assignAll v ((assignEach [.Name x p] env).map (·.2))) (fun _ s'' => ∃ m, s''.heap.Ns L m /\ ∀ h', Heap.SameBut L s''.heap h' -> PostS C nm Xo env oa s (fun a b => a = (x, d) :: ρ /\ b = ow) R .next { s'' with heap := h' }) NoE s' := by
 obtain ⟨m, hm⟩ := e.ns
 have hLo : ∃ o, s'.heap.get? L = some o /\ Obj.cont o := by
  apply byc;intro kz
  obtain ⟨o, es, ep, ho, hd, _⟩ := hm
  apply kz;clear kz
  exact ⟨o, ho, .inr (.inl ⟨es, ep, hd⟩)⟩
 have ok1 := ok.avoidR (s' := s') e.newL (.of_kp st e.kp) hLo
 have r' : Rel C (XS (fun b => Xo b ∨ b = L) env oa) s'.heap d v := r.mono (fun a o _ q => by
  rcases q with (q | q) | q
  ·exact .inl (.inl q)
  ·exact .inr q
  ·exact .inl (.inr q)) fun _ _ _ _ e => e
 have hL : ¬ XS Xo env oa L := fun q => by
  obtain ⟨o, ho, _⟩ := ok.low L q
  rw [e.newL] at ho; cases ho
 show wpAny (Mo C) A (assign (.Name x p) env v) _ NoE s'
 refine wpAny_assign_Name (store ok1 e.st hx r' hw fun s₂ st2 fr ok2 => ?_)
 have Lne : L ≠ env.locals := fun q => hL (.inr (.inl q))
 have Lnc : env.cells.lookup x ≠ some L := fun q => by
  apply byc;intro kz
  obtain ⟨v', _, e2⟩ := ok1.cellAt x L q
  obtain ⟨o, ho, hc⟩ := hLo
  apply kz;clear kz
  exact e2 o ho hc
 have hm2 : s₂.heap.Ns L m := hm.at' fun o q => fr L o Lne Lnc q
 refine ⟨m, hm2, fun h' hs' => ⟨st2.same_but (tk := s₂.toks) hs' e.h0 (ns_ne_pt st2 hm2), fun b o h1 h2 h3 h4 q => ?_, _, _, oa, ok2.turnOut hL hs', Fresh.refl, rfl, rfl⟩⟩
 have bL : b ≠ L := fun z => by subst z; rw [e.newL] at q; cases q
 exact (hs'.2 b bL).trans (fr b o h2 (h3 x) (e.kp b o h1 q))
noncomputable def EvU (C : Cfg) (n : Nat) (nm : Qck) (ρ : Qbs) (ow : Option (Str × PV)) (e : Expr) (d : PV) : Prop :=
 ∀ A Xo env oa s, Room A n -> St C s -> EnvOK C nm Xo env oa s.heap ρ ow -> ∀ (use : Value -> Sem Unit) (Q : Unit -> Shared -> Prop),
  (∀ D L s', CompEnd C (XS Xo env oa) s L D s' -> Rel C (fun b => XS Xo env oa b ∨ b = L) s'.heap d (.ref D) ->
   wpAny (Mo C) A (use (.ref D)) (fun _ s'' => ∃ m, s''.heap.Ns L m /\ ∀ h', Heap.SameBut L s''.heap h' -> Q () { s'' with heap := h' }) NoE s') ->
  wpAny (Mo C) A (evalThenUse e env use) Q NoE s
theorem exs_assign_comp {x : Str} {px pos : Pos} {e : Expr} {d : PV} {R : PV -> Prop} (h : Ev C n nm ρ ow e d) (hu : EvU C n nm ρ ow e d) (hx : (Qdm nm x || Qdi nm x) = true) (hw : NotOw ow x)
  (hs : ∀ line env, ∃ b, swapsWith e (some (.Name x px)) line env = pure b) (hss : ∀ env, swappedStores [.Name x px] e env = pure none := by k_all) :
  ExS C n nm (.Assign [.Name x px] e pos) ρ ow (fun a b => a = (x, d) :: ρ /\ b = ow) R := by
 intro A Xo env oa s rm st ok
 obtain ⟨b, hb⟩ := hs pos.line env
 cases b with
 | false =>
  refine wpAny_Assign_Name (wpAny_mono (h A Xo env oa s rm st ok) (fun v s₁ hz => ?_) nof) hb
  apply byc;intro kz
  obtain ⟨st1, k1, r⟩ := hz
  apply kz;clear kz
  exact store (ok.kp st st1 k1) st1 hx r hw fun s₂ st2 fr ok2 => postS_store k1 st2 fr ok2
 | true =>
  rw [exec_Assign_arm]
  refine wpAny_bind (wpAny_standAt ?_)
  rw [show swapsWithSole [.Name x px] e pos.line env = pure true from hb]
  refine wpAny_bind (wpAny_pure ?_)
  rw [if_pos rfl]
  refine wpAny_bind (hu A Xo env oa s rm st ok _ _ fun D L s' ce r => ?_)
  refine wpAny_mono (comp_store ok st ce r hx hw) (fun _ s'' ⟨m, hm, h'⟩ => ⟨m, hm, fun h'' hs'' => wpAny_pure (h' h'' hs'')⟩) nof
theorem evU_listcomp {α : Type} {l : List α} {pv f : α -> PV} {bd : α -> Qbs} {p : α -> Bool} {elt target iter : Expr} {ifs : List Expr} {sc : Scope} {pos : Pos}
  (hit : EvIt C n nm ρ ow iter (l.map pv)) (hfeed : Qdc C target pv bd) (hsc : Qdn nm sc = true) (htg : ∀ a, TgtC sc.names (bd a))
  (body : ∀ a ∈ l, TestsV C n sc.names (bd a ++ Qer sc.names ρ) ifs (p a) /\ (p a = true -> Ev C n sc.names (bd a ++ Qer sc.names ρ) none elt (f a))) (hsz : l.length <= sizeLine)
  (hs : ∀ env x, foldedSetIterable iter env x = pure x := by k_all) :
  EvU C n nm ρ ow (.ListComp elt [⟨target, iter, ifs, 0⟩] sc pos) (.lst ((l.filter p).map f)) := by
 intro A Xo env oa s rm st ok use Q hQ
 rw [arm_evalThenUse_ListComp]
 exact wpAny_bind (comp_list rm st ok hit hfeed hsc htg body hsz hs fun D L s' e r => wpAny_mono (hQ D L s' e r) (fun _ s'' ⟨m, hm, h'⟩ => ⟨m, hm, fun h'' hs'' => wpAny_pure (h' h'' hs'')⟩) nof)
theorem evU_dictcompI {α : Type} {l : List α} {pv f : α -> PV} {ky : α -> Int} {bd : α -> Qbs} {p : α -> Bool} {kx vx target iter : Expr} {ifs : List Expr} {sc : Scope} {pos : Pos}
  (hit : EvIt C n nm ρ ow iter (l.map pv)) (hfeed : Qdc C target pv bd) (hsc : Qdn nm sc = true) (htg : ∀ a, TgtC sc.names (bd a))
  (body : ∀ a ∈ l, TestsV C n sc.names (bd a ++ Qer sc.names ρ) ifs (p a) /\ (p a = true -> Ev C n sc.names (bd a ++ Qer sc.names ρ) none kx (.int (ky a)) /\ Ev C n sc.names (bd a ++ Qer sc.names ρ) none vx (f a))) (hsz : l.length <= sizeLine)
  (hs : ∀ env x, foldedSetIterable iter env x = pure x := by k_all) :
  EvU C n nm ρ ow (.DictComp kx vx [⟨target, iter, ifs, 0⟩] sc pos) (.dctI (Qcv ky f (l.filter p))) := by
 intro A Xo env oa s rm st ok use Q hQ
 rw [arm_evalThenUse_DictComp]
 refine wpAny_bind (comp_dict (knd := IK C) (mk := PV.int) (fun X h k v r => by obtain ⟨t, rfl⟩ := r; simp [PySem.intKind, Value.isInt]) rm st ok hit hfeed hsc htg body hsz hs
  fun D L s' e hx hsys ⟨kvs, hd, hr⟩ => wpAny_mono (hQ D L s' e (by
   exact ⟨D, kvs, rfl, ⟨fun q => q.elim hx fun q => e.ne q, hsys⟩, hd, hr.toI⟩)) (fun _ s'' ⟨m, hm, h'⟩ => ⟨m, hm, fun h'' hs'' => wpAny_pure (h' h'' hs'')⟩) nof)
theorem Qcu {α : Type} {l : List α} {pv f : α -> PV} {bd : α -> Qbs} {p : α -> Bool} {elt target iter : Expr} {ifs : List Expr} {sc : Scope} {pos pos' px : Pos} {x : Str} {R : PV -> Prop}
  (hx : (Qdm nm x || Qdi nm x) = true) (hw : NotOw ow x)
  (hit : EvIt C n nm ρ ow iter (l.map pv)) (hfeed : Qdc C target pv bd) (hsc : Qdn nm sc = true) (htg : ∀ a, TgtC sc.names (bd a))
  (body : ∀ a ∈ l, TestsV C n sc.names (bd a ++ Qer sc.names ρ) ifs (p a) /\ (p a = true -> Ev C n sc.names (bd a ++ Qer sc.names ρ) none elt (f a))) (hsz : l.length <= sizeLine)
  (hs : ∀ env x, foldedSetIterable iter env x = pure x := by k_all) :
  ExS C n nm (.Assign [.Name x px] (.ListComp elt [⟨target, iter, ifs, 0⟩] sc pos) pos') ρ ow (fun a b => a = (x, .lst ((l.filter p).map f)) :: ρ /\ b = ow) R :=
 exs_assign_comp (Qas hit hfeed hsc htg body hsz hs) (evU_listcomp hit hfeed hsc htg body hsz hs) hx hw fun _ _ => swaps_list
theorem exs_dictcompI {α : Type} {l : List α} {pv f : α -> PV} {ky : α -> Int} {bd : α -> Qbs} {p : α -> Bool} {kx vx target iter : Expr} {ifs : List Expr} {sc : Scope} {pos pos' px : Pos} {x : Str} {R : PV -> Prop}
  (hx : (Qdm nm x || Qdi nm x) = true) (hw : NotOw ow x)
  (hit : EvIt C n nm ρ ow iter (l.map pv)) (hfeed : Qdc C target pv bd) (hsc : Qdn nm sc = true) (htg : ∀ a, TgtC sc.names (bd a))
  (body : ∀ a ∈ l, TestsV C n sc.names (bd a ++ Qer sc.names ρ) ifs (p a) /\ (p a = true -> Ev C n sc.names (bd a ++ Qer sc.names ρ) none kx (.int (ky a)) /\ Ev C n sc.names (bd a ++ Qer sc.names ρ) none vx (f a))) (hsz : l.length <= sizeLine)
  (hs : ∀ env x, foldedSetIterable iter env x = pure x := by k_all) :
  ExS C n nm (.Assign [.Name x px] (.DictComp kx vx [⟨target, iter, ifs, 0⟩] sc pos) pos') ρ ow (fun a b => a = (x, .dctI (Qcv ky f (l.filter p))) :: ρ /\ b = ow) R :=
 exs_assign_comp (Qeh hit hfeed hsc htg body hsz hs) (evU_dictcompI hit hfeed hsc htg body hsz hs) hx hw fun _ _ => swaps_dict
end
section
set_option tactic.hygienic false
theorem Top.cont {h : Heap} {d : PV} {a : Addr} (t : Top C X h d a) : ∃ o, h.get? a = some o /\ Obj.cont o := by
 cases d with
 | tup l => obtain ⟨vs, n, e, _⟩ := t; exact ⟨_, e, Qbf⟩
 | lst l => obtain ⟨vs, n, e, _⟩ := t; exact ⟨_, e, Qbf⟩
 | dctI l => obtain ⟨_, kvs, ⟨⟨o, es, ep, ho, _, hd, _⟩, _⟩, _⟩ := t; exact ⟨o, ho, .inr (.inl ⟨es, ep, hd⟩)⟩
 | dctS l => obtain ⟨_, kvs, ⟨⟨o, es, ep, ho, _, hd, _⟩, _⟩, _⟩ := t; exact ⟨o, ho, .inr (.inl ⟨es, ep, hd⟩)⟩
 | _ => exact t.elim
theorem EnvOK.turnOwn {h h' : Heap} {y : Str} {d d' : PV} {a : Addr} (x : EnvOK C nm Xo env oa h ρ (some (y, d))) (ha : oa = some a) (hs : Heap.SameBut a h h') (ht : Top C (XS Xo env oa) h' d' a) : EnvOK C nm Xo env oa h' ρ (some (y, d')) := by
 have hc : Cont (XS Xo env oa) h h' := fun b o hb _ e => (hs.2 b (fun q => hb (.inr (.inr (q ▸ ha))))).trans e
 have hi : ∀ (b : Addr) (o : PySem.Obj), h.get? b = some o -> XS Xo env oa b -> XS Xo env oa b := fun _ _ _ q => q
 apply byc;intro kz
 obtain ⟨hy, a', ha', hxo, hl, ht0⟩ := x.own y d rfl
 apply kz;clear kz
 rw [ha] at ha'; cases ha'
 apply byc;intro kz
 obtain ⟨o0, ho0, hc0⟩ := ht0.cont
 obtain ⟨o1, ho1, hc1⟩ := ht.cont
 apply kz;clear kz
 have ic : ∀ {b v}, h.IsCell b v -> h'.IsCell b v := fun {b v} q => q.sameBut hs (fun z => by
  obtain ⟨o, ho, hd⟩ := q
  subst z
  rw [ho0] at ho; cases ho
  rcases hc0 with ⟨_, _, z⟩ | ⟨_, _, z⟩ | z | ⟨_, _, z⟩ <;> (rw [hd] at z; cases z))
 refine { x with loc := ?_, cel := ?_, celO := ?_, cst := ?_, low := ?_, own := ?_, all := fun y c q => let ⟨v, e⟩ := x.all y c q; ⟨v, ic e⟩ }
 ·apply byc;intro kz
  obtain ⟨m, hm, h1, h2⟩ := x.loc
  apply kz;clear kz
  exact ⟨m, hm.sameBut hs (Ne.symm hl), fun y d e q => let ⟨v, a, b⟩ := h1 y d e q; ⟨v, a, b.mono hi hc⟩, fun y' e q hz => by cases q; exact h2 y d rfl hz⟩
 ·intro y d e q
  apply byc;intro kz
  obtain ⟨c, v, h1, h2, h3⟩ := x.cel y d e q
  apply kz;clear kz
  exact ⟨c, v, h1, ic h2, h3.mono hi hc⟩
 ·intro y' e q hz
  cases q
  apply byc;intro kz
  obtain ⟨c, b, h1, h2, h3⟩ := x.celO y d rfl hz
  apply kz;clear kz
  exact ⟨c, b, h1, ic h2, h3⟩
 ·intro y q
  apply byc;intro kz
  obtain ⟨c, v, h1, h2⟩ := x.cst y q
  apply kz;clear kz
  exact ⟨c, v, h1, ic h2⟩
 ·intro b q
  by_cases hb : b = a
  ·subst hb; exact ⟨o1, ho1, hc1⟩
  ·obtain ⟨o, ho, hco⟩ := x.low b q
   exact ⟨o, (hs.2 b hb).trans ho, hco⟩
 ·intro y' e q
  cases q
  exact ⟨hy, a, ha, hxo, hl, ht⟩
noncomputable def rem (x : Str) (ρ : Qbs) : Qbs := ρ.filter fun p => !(p.1 == x)
theorem Qeu {x : Str} : ∀ {ρ : Qbs}, (rem x ρ).lookup x = none
 | [] => rfl
 | (y, d) :: ρ => by
  unfold rem
  rw [List.filter_cons]
  by_cases h : y == x
  ·simp only [h, Bool.not_true, Bool.false_eq_true, if_false]; exact Qeu (ρ := ρ)
  ·simp only [h, Bool.not_false, if_true]
   rw [List.lookup_cons]
   have : (x == y) = false := by
    rw [Bool.eq_false_iff]; intro q; rw [beq_iff_eq] at q; subst q; simp at h
   rw [this]
   exact Qeu (ρ := ρ)
theorem lookup_rem {x y : Str} {d : PV} : ∀ {ρ : Qbs}, (rem x ρ).lookup y = some d -> y ≠ x /\ ρ.lookup y = some d
 | [], h => by simp [rem] at h
 | (z, e) :: ρ, h => by
  unfold rem at h
  rw [List.filter_cons] at h
  by_cases hz : z == x
  ·simp only [hz, Bool.not_true, Bool.false_eq_true, if_false] at h
   obtain ⟨h1, h2⟩ := lookup_rem (ρ := ρ) h
   refine ⟨h1, ?_⟩
   rw [beq_iff_eq] at hz
   subst hz
   rw [Qbm h1]; exact h2
  ·simp only [hz, Bool.not_false, if_true] at h
   rw [List.lookup_cons] at h ⊢
   by_cases hy : y == z
   ·simp only [hy] at h ⊢
    rw [beq_iff_eq] at hy
    subst hy
    exact ⟨by simpa using hz, h⟩
   ·simp only [hy] at h ⊢
    exact lookup_rem (ρ := ρ) h
theorem XS_own {a : Addr} : XS (fun b => Xo b ∨ b = a) env none = XS Xo env (some a) := by
 funext b
 apply propext
 constructor
 ·rintro ((q | q) | q | q)
  ·exact .inl q
  ·exact .inr (.inr (q ▸ rfl))
  ·exact .inr (.inl q)
  ·cases q
 ·rintro (q | q | q)
  ·exact .inl (.inl q)
  ·exact .inr (.inl q)
  ·cases q; exact .inl (.inr rfl)
theorem EnvOK.take {h : Heap} {x : Str} {d : PV} {a : Addr} (ok : EnvOK C nm (fun b => Xo b ∨ b = a) env none h ((x, .raw (.ref a)) :: ρ) none) (ha : ¬ Xo a) (hl : a ≠ env.locals) (h0 : C.h0.get? a = none)
  (ht : Top C (XS Xo env (some a)) h d a) : EnvOK C nm Xo env (some a) h (rem x ρ) (some (x, d)) := by
 have e0 : ∀ {b}, XS Xo env (some a) b ↔ XS (fun b => Xo b ∨ b = a) env none b := fun {b} => by rw [XS_own]
 have rel : ∀ {d v}, Rel C (XS (fun b => Xo b ∨ b = a) env none) h d v -> Rel C (XS Xo env (some a)) h d v := fun r => by rw [← XS_own]; exact r
 have lk : ∀ {y d}, (rem x ρ).lookup y = some d -> List.lookup y ((x, PV.raw (.ref a)) :: ρ) = some d := fun q => by
  obtain ⟨h1, h2⟩ := lookup_rem q
  rw [Qbm h1]; exact h2
 refine { ok with loc := ?_, cel := ?_, celO := ?_, low := fun b q => ok.low b (e0.mp q), newO := fun b q => (by cases q; exact h0), xoL := fun q => ok.xoL (.inl q), own := ?_ }
 ·apply byc;intro kz
  obtain ⟨m, hm, h1, h2⟩ := ok.loc
  apply kz;clear kz
  refine ⟨m, hm, fun y d e q => let ⟨v, a, b⟩ := h1 y d (lk e) q; ⟨v, a, rel b⟩, fun y e q hy => ?_⟩
  cases q
  obtain ⟨v, e1, e2⟩ := h1 x _ Qbx hy
  exact ⟨a, rfl, e2 ▸ e1⟩
 ·intro y d e q
  apply byc;intro kz
  obtain ⟨c, v, h1, h2, h3⟩ := ok.cel y d (lk e) q
  apply kz;clear kz
  exact ⟨c, v, h1, h2, rel h3⟩
 ·intro y e q hy
  cases q
  apply byc;intro kz
  obtain ⟨c, v, e1, e2, e3⟩ := ok.cel x _ Qbx hy
  apply kz;clear kz
  subst e3
  exact ⟨c, a, e1, e2, rfl⟩
 ·intro y e q
  cases q
  exact ⟨Qeu, a, rfl, ha, hl, ht⟩
theorem store_new {x : Str} {d : PV} {o : PySem.Obj} (ok : EnvOK C nm Xo env oa s.heap ρ none) (st : St C s) (hx : (Qdm nm x || Qdi nm x) = true)
  (hco : Obj.cont o) (hal : o.isFreed = false) (ht : ∀ h, h.get? s.heap.objs.size = some o -> Top C (XS Xo env (some s.heap.objs.size)) h d s.heap.objs.size) {R : PV -> Prop} :
  wpAny (Mo C) A (storeName env x (.ref s.heap.objs.size)) (fun _ => PostS C nm Xo env oa s (fun a b => a = rem x ρ /\ b = some (x, d)) R .next) NoE { s with heap := s.heap.push o } := by
 have hn : s.heap.get? s.heap.objs.size = none := Qbg
 have ok0 : EnvOK C nm Xo env none s.heap ρ none :=
  {ok with
   loc := by
    apply byc;intro kz
    obtain ⟨m, hm, h1, h2⟩ := ok.loc
    apply kz;clear kz
    exact ⟨m, hm, fun y d e q => let ⟨v, a, b⟩ := h1 y d e q; ⟨v, a, b.mono (fun a _ _ q => XS.none_le a q) fun _ _ _ _ e => e⟩, fun y d e => nomatch e⟩
   cel := fun y d e q => let ⟨c, v, h1, h2, h3⟩ := ok.cel y d e q; ⟨c, v, h1, h2, h3.mono (fun a _ _ q => XS.none_le a q) fun _ _ _ _ e => e⟩
   celO := fun y d e => nomatch e
   low := fun a q => ok.low a (XS.none_le a q)
   newO := fun a q => nomatch q
   own := fun y d e => nomatch e }
 have ok1 := ok0.avoid (s' := { s with heap := s.heap.push o }) hn Qaa ⟨o, Heap.get?_push_size _ hal, hco⟩
 have st1 : St C { s with heap := s.heap.push o } := st.of_keep Qaa rfl rfl
 refine store ok1 st1 hx (d := .raw (.ref s.heap.objs.size)) rel_raw (fun _ _ e => nomatch e) fun s₂ st2 fr ok2 => ?_
 have hnl : s.heap.objs.size ≠ env.locals := fun q => by
  apply byc;intro kz
  obtain ⟨m, ⟨o', _, _, ho, _⟩, _⟩ := ok.loc
  apply kz;clear kz
  rw [← q, hn] at ho; cases ho
 have hnc : env.cells.lookup x ≠ some s.heap.objs.size := fun q => by
  apply byc;intro kz
  obtain ⟨v, o', ho, _⟩ := ok.all x _ q
  apply kz;clear kz
  rw [hn] at ho; cases ho
 have h2 : s₂.heap.get? s.heap.objs.size = some o := fr _ _ hnl hnc (Heap.get?_push_size _ hal)
 refine ⟨st2, fun b o' h1 h2 h3 h4 e => fr b o' h2 (h3 x) (Qaa b o' e), _, _, some s.heap.objs.size, EnvOK.take ok2 (fun q => ?_) hnl ?_ (ht _ h2), fun a e => .inr (by cases e; exact hn), rfl, rfl⟩
 ·obtain ⟨o', ho, _⟩ := ok.low _ (.inl q)
  rw [hn] at ho; cases ho
 ·exact Qbb st hn
theorem exs_new_list {x : Str} {px pl pos : Pos} {R : PV -> Prop} (hx : (Qdm nm x || Qdi nm x) = true) : ExS C n nm (.Assign [.Name x px] (.List [] pl) pos) ρ none (fun a b => a = rem x ρ /\ b = some (x, .lst [])) R := by
 intro A Xo env oa s rm st ok
 refine wpAny_Assign_Name (wpAny_List (wpAny_items_nil ⟨Nat.zero_le _, ?_⟩)) rfl
 exact store_new (d := .lst []) (o := Qay "list" [] 0) ok st hx Qbf rfl fun h e => ⟨[], 0, e, Qbw⟩
theorem exs_new_dict {x : Str} {px pl pos : Pos} {R : PV -> Prop} (hx : (Qdm nm x || Qdi nm x) = true) : ExS C n nm (.Assign [.Name x px] (.Dict [] [] pl) pos) ρ none (fun a b => a = rem x ρ /\ b = some (x, .dctI [])) R := by
 intro A Xo env oa s rm st ok
 refine wpAny_Assign_Name (wpAny_Dict_empty ?_) rfl
 refine store_new (d := .dctI []) (o := { cls := .type "dict", data := .dict #[] }) ok st hx (.inr (.inl ⟨_, _, rfl⟩)) rfl fun h e => ⟨new_ne_sys st Qbg, [], ⟨⟨_, #[], 0, e, ⟨rfl, rfl, rfl⟩, rfl, fun _ he => by simp at he, Pairs.nil, List.nodup_nil⟩, _, e, rfl⟩, rfl⟩
theorem ex_freeze {body : List Stmt} {y : Str} {d : PV} {N : Qbs -> Option (Str × PV) -> Prop} {R : PV -> Prop} (h : Ex C n nm body ((y, d) :: ρ) none N R) : Ex C n nm body ρ (some (y, d)) N R := by
 intro A Xo env oa s rm st ok
 refine wpAny_mono (h A Xo env none s rm st ok.freeze) (fun f s₁ ⟨st1, fr, h⟩ => ⟨st1, fun b o h1 h2 h3 h4 e => fr b o h1 h2 h3 (fun q => nomatch q) e, ?_⟩) nof
 cases f with
 | next =>
  apply byc;intro kz
  obtain ⟨ρ', ow', oa', ok', fo, hN⟩ := h
  apply kz;clear kz
  exact ⟨ρ', ow', oa', ok', fun a e => (fo a e).elim (fun q => nomatch q) .inr, hN⟩
 | ret v => exact h
 | brk => exact h
 | cont => exact h
theorem call_meth {o : Expr} {name : Str} {apos pos : Pos} {args : List Expr} {Q : Value -> Shared -> Prop}
  (h : wpAny (Mo C) A (eval o env) (fun ov s₁ => ∃ T id, s₁.TypeIs ov T /\ PlainAttrs T /\ Slot T name id /\ typeOf (.builtin id) = pure (.type "method_descriptor") /\ (∀ a, ov = .ref a -> ∃ o, s₁.heap.get? a = some o /\ o.dict = none) /\
   wpAny (Mo C) A (spliced (backTo pos (starEach args env))) (fun vs s₂ => wpAny (Mo C) A (call (.builtin id) (ov :: vs)) Q NoE s₂) NoE s₁) NoE s)
  (hbase : attributeBase o name env (eval o env) = eval o env)
  (hform : methodCallForm (args.length + 0) (backTo pos (starEach args env)) [] = true)
  (hline : (apos.endLine == pos.line) = true)
  (hargs : backTo pos (starEach args env) = [] ∨ ∃ x r, backTo pos (starEach args env) = (false, x) :: r) (hplain : (backTo pos (starEach args env)).any (·.1) = false) :
  wpAny (Mo C) A (eval (.Call (.Attribute o name apos) args [] pos) env) Q NoE s := by
 rw [arm_eval_Call, hbase]
 refine wpAny_bind (wpAny_mono h (fun ov s₁ h₁ => ?_) nof)
 apply byc;intro kz
 obtain ⟨T, id, hT, pa, slot, hty, hd, hcall⟩ := h₁
 apply kz;clear kz
 refine wpAny_bind (wpAny_standAt ?_)
 have hk : backToKw pos (keywordEach [] env) = [] := rfl
 rw [hk]
 unfold methodCall
 rw [show methodCallForm (args.length + ([] : List Keyword).length) (backTo pos (starEach args env)) [] = true from hform]
 refine wpAny_bind (wpAny_holding ?_)
 unfold calleeOf
 simp only [if_true]
 refine getMethod_builtin hT pa slot hty hd ?_
 have hpos : methodCallPos true o env apos pos = pure pos := by unfold methodCallPos; simp [hline]
 refine wpAny_bind (wpAny_of_eq hpos ?_)
 refine Calls.callWith_builtin hplain ?_
 rcases hargs with e | ⟨x, r, e⟩
 ·rw [e] at hcall ⊢
  unfold evalArgs
  show wpAny _ _ (spliced [] >>= _) _ _ _
  refine wpAny_bind (wpAny_mono hcall (fun vs s₂ h₂ => wpAny_bind (wpAny_pure ?_)) nof)
  refine wpAny_holding ?_
  exact wpAny_bind (wpAny_pure (wpAny_bind (wpAny_pure (wpAny_pure h₂))))
 ·rw [e] at hcall ⊢
  exact Calls.evalArgs_plain hcall
end
section
set_option tactic.hygienic false
theorem postS_of {oa' : Option Addr} {s₁ : Shared} {ρ' : Qbs} {ow' : Option (Str × PV)} {N : Qbs -> Option (Str × PV) -> Prop} {R : PV -> Prop} {f : Flow} {s₂ : Shared}
  (fr : FrS C env oa s s₁) (fo : Fresh oa oa' s) (st1 : St C s₁) (ok1 : EnvOK C nm Xo env oa' s₁.heap ρ' ow') (p : PostS C nm Xo env oa' s₁ N R f s₂) : PostS C nm Xo env oa s N R f s₂ := by
 obtain ⟨st2, fr2, h⟩ := p
 refine ⟨st2, fr.trans fo fr2, ?_⟩
 cases f with
 | next =>
  apply byc;intro kz
  obtain ⟨ρ'', ow'', oa'', ok'', fo', hN'⟩ := h
  apply kz;clear kz
  exact ⟨ρ'', ow'', oa'', ok'', fo.trans fr st1 ok1 fo', hN'⟩
 | ret v => exact h
 | brk => exact h
 | cont => exact h
theorem Qey {test : Expr} {b : Bool} {body orelse : List Stmt} {pos : Pos} {N : Qbs -> Option (Str × PV) -> Prop} {R : PV -> Prop} (ht : Tv C n nm ρ ow test b)
  (h1 : b = true -> Ex C n nm body ρ ow N R) (h2 : b = false -> Ex C n nm orelse ρ ow N R) : ExS C n nm (.If test body orelse pos) ρ ow N R := by
 intro A Xo env oa s rm st ok
 refine wpAny_If (wpAny_mono (ht A Xo env oa s rm st ok) (fun v s₁ hz => ?_) nof)
 apply byc;intro kz
 obtain ⟨st1, k1, e⟩ := hz
 apply kz;clear kz
 subst e
 have ok1 := ok.kp st st1 k1
 cases v with
 | true => exact wpAny_mono (h1 rfl A Xo env oa s₁ rm st1 ok1) (fun f s₂ p => postS_of (.of_kp k1) .refl st1 ok1 p) nof
 | false => exact wpAny_mono (h2 rfl A Xo env oa s₁ rm st1 ok1) (fun f s₂ p => postS_of (.of_kp k1) .refl st1 ok1 p) nof
theorem exs_ret {e : Expr} {d : PV} {pos : Pos} {N : Qbs -> Option (Str × PV) -> Prop} {R : PV -> Prop} (h : Ev C n nm ρ ow e d) (hR : R d) : ExS C n nm (.Return (some e) pos) ρ ow N R := by
 intro A Xo env oa s rm st ok
 refine wpAny_Return_some (wpAny_mono (h A Xo env oa s rm st ok) (fun v s₁ ⟨st1, k1, r⟩ => ⟨st1, .of_kp k1, d, r.mono (fun a _ _ q => .inl q) (fun _ _ _ _ e => e), hR⟩) nof)
theorem Qef {e : Expr} {d : PV} {pos : Pos} {rest : List Stmt} {N : Qbs -> Option (Str × PV) -> Prop} {R : PV -> Prop} (h : Ev C n nm ρ ow e d) (hR : R d) : Ex C n nm (.Return (some e) pos :: rest) ρ ow N R :=
 Qbi (N1 := fun _ _ => False) (exs_ret h hR) fun _ _ q => q.elim
theorem exs_aug {x : Str} {px pos : Pos} {op : Operator} {e : Expr} {d1 d2 d : PV} {R : PV -> Prop} (hx : (Qdm nm x || Qdi nm x) = true) (hv : ρ.lookup x = some d1) (h : Ev C n nm ρ ow e d2) (ho : OpI C n op d1 d2 d) (hw : NotOw ow x)
  (hc : (x == ("__classdict__" : Str)) = false := by k_all) :
  ExS C n nm (.AugAssign (.Name x px) op e pos) ρ ow (fun a b => a = (x, d) :: ρ /\ b = ow) R := by
 intro A Xo env oa s rm st ok
 have name : ∃ v, Rel C (XS Xo env oa) s.heap d1 v /\ ∀ Q : Value -> Shared -> Prop, Q v s -> wpAny (Mo C) A (loadName env x) Q NoE s := by
  by_cases hl : Qdm nm x = true
  ·apply byc;intro kz
   obtain ⟨m, hm, h1, _⟩ := ok.loc
   obtain ⟨v, e1, e2⟩ := h1 x d1 hv hl
   apply kz;clear kz
   exact ⟨v, e2, fun Q hQ => wpAny_loadName_local ok.kind (ok.kindL x hl) hm e1 hQ⟩
  ·have hx' : Qdi nm x = true := by simpa [hl] using hx
   apply byc;intro kz
   obtain ⟨c, v, e1, e2, e3⟩ := ok.cel x d1 hv hx'
   apply kz;clear kz
   refine ⟨v, e3, fun Q hQ => ?_⟩
   rcases ok.kindC x hx' with hk | hk
   ·exact wpAny_loadName_cell ok.kind hk e1 e2 hQ
   ·exact wpAny_loadName_free ok.kind hk e1 e2 hQ hc
 obtain ⟨v, rv, hname⟩ := name
 refine wpAny_AugAssign_Name (hname _ ?_)
 refine wpAny_mono (h A Xo env oa s rm st ok) (fun v2 s₁ hz => ?_) nof
 apply byc;intro kz
 obtain ⟨st1, k1, r2⟩ := hz
 apply kz;clear kz
 have ok1 := ok.kp st st1 k1
 refine wpAny_mono (ho A _ s₁ v v2 rm st1 ok1.lowX (rv.kp st k1) r2) (fun v3 s₂ hz => ?_) nof
 apply byc;intro kz
 obtain ⟨st2, k2, r3⟩ := hz
 apply kz;clear kz
 exact store (ok1.kp st1 st2 k2) st2 hx r3 hw fun s₃ st3 fr ok3 => postS_store (k1.trans k2) st3 fr ok3
theorem FrS.cont (fr : FrS C env oa s s') (st : St C s) (ok : EnvOK C nm Xo env oa s.heap ρ ow) : Cont (XS Xo env oa) s.heap s'.heap := fun b o hb hc e =>
 fr b o (st.pt_cont e hc) (fun q => hb (.inr (.inl q))) (fun x q => by obtain ⟨v, _, e2⟩ := ok.cellAt x b q; exact e2 o e hc) (fun q => hb (.inr (.inr q))) e
noncomputable def EvItF (C : Cfg) (n : Nat) (nm : Qck) (ρ : Qbs) (ow : Option (Str × PV)) (e : Expr) (ds : List PV) : Prop :=
 ∀ A Xo env oa s, Room A n -> St C s -> EnvOK C nm Xo env oa s.heap ρ ow -> wpAny (Mo C) A (eval e env) (fun v s₁ => St C s₁ /\ Kp C s s₁ /\ wpAny (Mo C) A (pyIter v) (PostIt C (XS Xo env oa) s₁ ds fun a => ¬ XS Xo env oa a) NoE s₁) NoE s
theorem Ev.itF {e : Expr} {d : PV} {ds : List PV} (h : Ev C n nm ρ ow e d) (hd : Qek d = some ds) : EvItF C n nm ρ ow e ds := fun A Xo env oa s rm st ok =>
 wpAny_mono (h A Xo env oa s rm st ok) (fun v s₁ ⟨st1, k1, r⟩ => ⟨st1, k1, Qga st1 r hd⟩) nof
structure FeedM (C : Cfg) (s0 : Shared) (tgt : Expr) (it : Value) (bs : List Qbs) (F : Addr -> Prop) (fp wr : List Addr) (J : (Addr -> Prop) -> Nat -> Shared -> Prop) : Prop where
 feed : ∀ X, Feed C X tgt it bs fp wr (J X)
 mv : ∀ X Y i s s', J X i s -> (∀ a o, s.heap.get? a = some o -> Y a -> X a) -> Cont X s.heap s'.heap -> (∀ b ∈ fp, ∀ o, s.heap.get? b = some o -> s'.heap.get? b = some o) -> J Y i s'
 wrN : ∀ b ∈ wr, s0.heap.get? b = none
 fpK : ∀ b ∈ fp, s0.heap.get? b = none ∨ F b /\ ∃ o, s0.heap.get? b = some o /\ Obj.cont o
noncomputable def EvFeed (C : Cfg) (n : Nat) (nm : Qck) (ρ : Qbs) (ow : Option (Str × PV)) (iter target : Expr) (bs : List Qbs) : Prop :=
 ∀ A Xo env oa s, Room A n -> St C s -> EnvOK C nm Xo env oa s.heap ρ ow -> wpAny (Mo C) A (eval iter env) (fun v s₁ => St C s₁ /\ Kp C s s₁ /\
  wpAny (Mo C) A (pyIter v) (fun it s₂ => St C s₂ /\ Kp C s₁ s₂ /\ ∃ fp wr J, FeedM C s₁ target it bs (fun a => ¬ XS Xo env oa a) fp wr J /\ J (XS Xo env oa) 0 s₂ /\ ∀ b ∈ fp, ∃ o, s₂.heap.get? b = some o) NoE s₁) NoE s
theorem EvItF.feed {α : Type} {l : List α} {pv : α -> PV} {bd : α -> Qbs} {target iter : Expr} (hit : EvItF C n nm ρ ow iter (l.map pv)) (hfeed : Qdc C target pv bd) : EvFeed C n nm ρ ow iter target (l.map bd) := by
 intro A Xo env oa s rm st ok
 refine wpAny_mono (hit A Xo env oa s rm st ok) (fun x s₁ ⟨st1, k1, h1⟩ => ⟨st1, k1, wpAny_mono h1 (fun it s₂ hz => ?_) nof⟩) nof
 apply byc;intro kz
 obtain ⟨st2, k2, Ia, fp, wr, P, Stt, V, e, ID, hS0, hV, hlt⟩ := hz
 apply kz;clear kz
 subst e
 refine ⟨st2, k2, fp, wr, fun X i s => Stt i s.heap /\ V X s.heap, ⟨fun X => hfeed X s₁ l _ Ia fp wr P Stt V st1 ID, fun X Y i s s' hJ hX hc hk => ?_, ID.wrN, ID.fpK⟩, ⟨hS0, hV⟩, hlt⟩
 exact ⟨(ID.W { handled := none } rfl).frame i _ _ hJ.1 hk, ID.mono _ _ _ _ hX hc hJ.2⟩
theorem exs_forF {l : List Qbs} {target iter : Expr} {body : List Stmt} {pos : Pos} {R : PV -> Prop} (I : Nat -> Qbs -> Option (Str × PV) -> Prop)
  (hit : EvFeed C n nm ρ ow iter target l) (h0 : I 0 ρ ow)
  (step : ∀ i a ρ' ow', l[i]? = some a -> I i ρ' ow' -> Tgt nm ow' a /\ Ex C n nm body (a ++ ρ') ow' (I (i + 1)) R)
  (hs : ∀ env x, foldedSetIterable iter env x = pure x := by k_all) : ExS C n nm (.For target iter body [] pos) ρ ow (I l.length) R := by
 intro A Xo env oa s rm st ok
 refine wpAny_For ?_ (hs env)
 refine wpAny_mono (hit A Xo env oa s rm st ok) (fun x s₁ ⟨st1, k1, h1⟩ => wpAny_mono h1 (fun it s₂ hz => ?_) nof) nof
 apply byc;intro kz
 obtain ⟨st2, k2, fp, wr, J, ID, hJ0, hlt⟩ := hz
 apply kz;clear kz
 have ok1 := ok.kp st st1 k1
 have ok2 := ok1.kp st1 st2 k2
 have fpL : ∀ b ∈ fp, b ≠ env.locals := fun b hb q => by
  rcases ID.fpK b hb with h1 | ⟨h1, _⟩
  ·apply byc;intro kz
   obtain ⟨m, ⟨o, es, ep, ho, _⟩, _⟩ := ok1.loc
   apply kz;clear kz
   rw [q, ho] at h1; cases h1
  ·exact h1 (.inr (.inl q))
 have fpC : ∀ b ∈ fp, ∀ x, env.cells.lookup x ≠ some b := fun b hb x q => by
  apply byc;intro kz
  obtain ⟨v, ⟨o, ho, _⟩, e2⟩ := ok1.cellAt x b q
  apply kz;clear kz
  rcases ID.fpK b hb with h1 | ⟨_, o', h1, h2⟩
  ·rw [ho] at h1; cases h1
  ·exact e2 o' h1 h2
 have fpO : ∀ b ∈ fp, oa ≠ some b := fun b hb q => by
  rcases ID.fpK b hb with h1 | ⟨h1, _⟩
  ·obtain ⟨o, ho, _⟩ := ok1.low b (.inr (.inr q))
   rw [ho] at h1; cases h1
  ·exact h1 (.inr (.inr q))
 have fpPT : ∀ b ∈ fp, b ≠ C.PT := fun b hb hp => by
  rcases ID.fpK b hb with h1 | ⟨_, o1, h1, h2⟩
  ·obtain ⟨more, tt⟩ := st1.tab
   rw [hp, tt.2] at h1; cases h1
  ·exact st1.pt_cont h1 h2 hp
 have none_old : ∀ {a}, s₁.heap.get? a = none -> s.heap.get? a = none := fun {a} q => by
  cases q' : s.heap.get? a with
  | none => rfl
  | some o =>
   by_cases hp : a = C.PT
   ·obtain ⟨more, t⟩ := st1.tab
    rw [hp, t.2] at q; cases q
   ·rw [k1 _ _ hp q'] at q; cases q
 have none2 : ∀ {a}, s₂.heap.get? a = none -> s.heap.get? a = none := fun {a} q => by
  cases q' : s.heap.get? a with
  | none => rfl
  | some o =>
   by_cases hp : a = C.PT
   ·obtain ⟨more, t⟩ := st2.tab
    rw [hp, t.2] at q; cases q
   ·rw [k2 _ _ hp (k1 _ _ hp q')] at q; cases q
 have feed := ID.feed
 let INV : Nat -> Shared -> Prop := fun k t => ∃ i ρ' ow' oa', i <= l.length /\ k = l.length + 1 - i /\ St C t /\ EnvOK C nm Xo env oa' t.heap ρ' ow' /\ I i ρ' ow' /\ (∀ a, oa' = some a -> oa = some a ∨ s₂.heap.get? a = none) /\
  (∀ b o, b ≠ C.PT -> b ≠ env.locals -> (∀ x, env.cells.lookup x ≠ some b) -> oa ≠ some b -> b ∉ wr -> s₂.heap.get? b = some o -> t.heap.get? b = some o) /\ J (XS Xo env oa') i t
 have toS : ∀ {t : Shared}, (∀ b o, b ≠ C.PT -> b ≠ env.locals -> (∀ x, env.cells.lookup x ≠ some b) -> oa ≠ some b -> b ∉ wr -> s₂.heap.get? b = some o -> t.heap.get? b = some o) -> FrS C env oa s t := fun h b o h1 h2 h3 h4 e =>
  h b o h1 h2 h3 h4 (fun q => by rw [none_old (ID.wrN b q)] at e; cases e) (k2 b o h1 (k1 b o h1 e))
 refine codeAny_forLoop_any INV (fun k t hI => ?_) (l.length + 1) ⟨0, ρ, ow, oa, Nat.zero_le _, rfl, st2, ok2, h0, fun a e => .inl e, fun _ _ _ _ _ _ _ e => e, hJ0⟩
 apply byc;intro kz
 obtain ⟨i, ρ', ow', oa', hi, rfl, stt, okt, hIi, fo, kt, hJ⟩ := hI
 apply kz;clear kz
 have fpO' : ∀ b ∈ fp, oa' ≠ some b := fun b hb q => by
  rcases fo b q with h1 | h1
  ·exact fpO b hb h1
  ·obtain ⟨o, ho⟩ := hlt b hb
   rw [ho] at h1; cases h1
 rcases Nat.lt_or_ge i l.length with hlt' | hge
 ·have ha : l[i]? = some l[i] := by simp [hlt']
  obtain ⟨htg, hb⟩ := step i l[i] ρ' ow' ha hIi
  have F := feed (XS Xo env oa')
  refine wpAny_mono (F.next A n nm Xo env oa' t ρ' ow' i l[i] (fun t2 => wpAny (Mo C) A (execs body env) (fun f t3 => match f with
    | .next | .cont => ∃ m, m < l.length + 1 - i /\ INV m t3
    | .brk => PostS C nm Xo env oa s (I l.length) R .next t3
    | .ret v => PostS C nm Xo env oa s (I l.length) R (.ret v) t3) NoE t2) (by simp [hlt']) rm stt okt rfl (fun a h => ⟨fpL a h, fun p _ => fpC a h _⟩) hJ htg fun t2 st2' kt2 okt2 Jt2 => ?_) (fun r s₃ h => ?_) nof
  ·refine wpAny_mono (hb A Xo env oa' t2 rm st2' okt2) (fun f t3 hz => ?_) nof
   apply byc;intro kz
   obtain ⟨st3, fr3, p⟩ := hz
   apply kz;clear kz
   have kt3 : ∀ b o, b ≠ C.PT -> b ≠ env.locals -> (∀ x, env.cells.lookup x ≠ some b) -> oa ≠ some b -> b ∉ wr -> s₂.heap.get? b = some o -> t3.heap.get? b = some o := fun b o h1 h2 h3 h4 h5 e =>
    fr3 b o h1 h2 h3 (fun q => (fo b q).elim h4 fun z => by rw [z] at e; cases e) (kt2 b o h2 (fun p _ => h3 _) h5 (kt b o h1 h2 h3 h4 h5 e))
   cases f with
   | next =>
    apply byc;intro kz
    obtain ⟨ρ'', ow'', oa'', ok'', fo', hN⟩ := p
    apply kz;clear kz
    refine ⟨l.length + 1 - (i + 1), by omega, i + 1, ρ'', ow'', oa'', hlt', rfl, st3, ok'', hN, fun a e => ?_, kt3, ?_⟩
    ·rcases fo' a e with h1 | h1
     ·exact fo a h1
     ·by_cases hoa : oa = some a
      ·exact .inl hoa
      refine .inr ?_
      cases q : s₂.heap.get? a with
      | none => rfl
      | some o =>
       exfalso
       have none_some : ∀ {o' : PySem.Obj}, t2.heap.get? a = some o' -> False := fun e' => by rw [h1] at e'; cases e'
       by_cases hp : a = C.PT
       ·obtain ⟨more, tt⟩ := st2'.tab; exact none_some (hp ▸ tt.2)
       by_cases hl : a = env.locals
       ·obtain ⟨m, ⟨o', _, _, ho', _⟩, _⟩ := okt2.loc; exact none_some (hl ▸ ho')
       by_cases hc : ∃ x, env.cells.lookup x = some a
       ·obtain ⟨x, hx⟩ := hc; obtain ⟨v, o', ho', _⟩ := okt2.all x a hx; exact none_some ho'
       have hc' : ∀ x, env.cells.lookup x ≠ some a := fun x hx => hc ⟨x, hx⟩
       by_cases hw : a ∈ wr
       ·obtain ⟨o', vs, ho', _⟩ := F.wrs (i + 1) t2 Jt2 a hw; exact none_some ho'
       ·exact none_some (kt2 a o hl (fun p _ => hc' _) hw (kt a o hp hl hc' hoa hw q))
    ·have hfp : ∀ b ∈ fp, ∀ o, t2.heap.get? b = some o -> t3.heap.get? b = some o := fun b hb o e => fr3 b o (fpPT b hb) (fpL b hb) (fpC b hb) (fpO' b hb) e
     refine ID.mv _ _ _ _ _ Jt2 (fun a o e q => ?_) (fr3.cont st2' okt2) hfp
     rcases q with q | q | q
     ·exact .inl q
     ·exact .inr (.inl q)
     ·rcases fo' a q with h1 | h1
      ·exact .inr (.inr h1)
      ·rw [h1] at e; cases e
   | ret v => exact ⟨st3, toS kt3, p⟩
   | brk => exact p.elim
   | cont => exact p.elim
  ·apply byc;intro kz
   obtain ⟨v, rfl, h⟩ := h
   apply kz;clear kz
   exact wpAny_mono h (fun _ s₄ h => wpAny_mono h (fun _ s₅ h => wpAny_mono h (fun f s₆ h => h) nof) nof) nof
 ·have hil : i = l.length := Nat.le_antisymm hi hge
  subst hil
  have F := feed (XS Xo env oa')
  refine wpAny_mono (F.done A n t (fun t2 => PostS C nm Xo env oa s (I l.length) R .next t2) rm stt (by simpa using hJ) fun t2 st2' kt2 => ?_) (fun r s₃ h => ?_) nof
  ·have rs : Rest t t2 := ⟨fun b o hc e => kt2 b o (fun q => (F.wrs _ t hJ b q).ne_cont e hc) e, fun b o v hd e => kt2 b o (fun q => (F.wrs _ t hJ b q).ne_cell e hd) e⟩
   refine ⟨st2', toS fun b o h1 h2 h3 h4 h5 e => kt2 b o h5 (kt b o h1 h2 h3 h4 h5 e), ρ', ow', oa', okt.rest rs, fun a e => (fo a e).imp id none2, hIi⟩
  ·obtain ⟨rfl, h⟩ := h
   exact wpAny_execs_nil h
theorem Qez {α : Type} {l : List α} {pv : α -> PV} {bd : α -> Qbs} {target iter : Expr} {body : List Stmt} {pos : Pos} {R : PV -> Prop} (I : Nat -> Qbs -> Option (Str × PV) -> Prop)
  (hit : EvItF C n nm ρ ow iter (l.map pv)) (hfeed : Qdc C target pv bd) (h0 : I 0 ρ ow)
  (step : ∀ i a ρ' ow', l[i]? = some a -> I i ρ' ow' -> Tgt nm ow' (bd a) /\ Ex C n nm body (bd a ++ ρ') ow' (I (i + 1)) R)
  (hs : ∀ env x, foldedSetIterable iter env x = pure x := by k_all) : ExS C n nm (.For target iter body [] pos) ρ ow (I l.length) R := by
 have := exs_forF (l := l.map bd) (pos := pos) I (hit.feed hfeed) h0 (fun i a ρ' ow' e hI => by
  rw [List.getElem?_map] at e
  cases q : l[i]? with
  | none => rw [q] at e; cases e
  | some x => rw [q] at e; cases e; exact step i x ρ' ow' q hI) hs
 rwa [List.length_map] at this
theorem exs_while {test : Expr} {body : List Stmt} {pos : Pos} {N : Qbs -> Option (Str × PV) -> Prop} {R : PV -> Prop} (I : Nat -> Qbs -> Option (Str × PV) -> Prop) {k0 : Nat} (h0 : I k0 ρ ow)
  (turn : ∀ k ρ' ow', I k ρ' ow' -> ∃ b, Tv C n nm ρ' ow' test b /\ (b = true -> Ex C n nm body ρ' ow' (fun ρ'' ow'' => ∃ m, m < k /\ I m ρ'' ow'') R) /\ (b = false -> N ρ' ow')) :
  ExS C n nm (.While test body [] pos) ρ ow N R := by
 intro A Xo env oa s rm st ok
 refine wpAny_While ?_
 refine codeAny_whileLoop (fun k t => ∃ ρ' ow' oa', St C t /\ EnvOK C nm Xo env oa' t.heap ρ' ow' /\ I k ρ' ow' /\ FrS C env oa s t /\ Fresh oa oa' s) (fun k t hz => ?_) k0 ⟨ρ, ow, oa, st, ok, h0, FrS.refl, Fresh.refl⟩
 apply byc;intro kz
 obtain ⟨ρ', ow', oa', stt, okt, hI, fr, fo⟩ := hz
 obtain ⟨b, ht, h1, h2⟩ := turn k ρ' ow' hI
 apply kz;clear kz
 refine wpAny_mono (ht A Xo env oa' t rm stt okt) (fun v t1 hz => ?_) nof
 apply byc;intro kz
 obtain ⟨st1, k1, e⟩ := hz
 apply kz;clear kz
 subst e
 have ok1 := okt.kp stt st1 k1
 have fr1 : FrS C env oa s t1 := fr.trans fo (.of_kp k1)
 cases v with
 | true =>
  refine wpAny_mono (h1 rfl A Xo env oa' t1 rm st1 ok1) (fun f t2 p => ?_) nof
  have p' := postS_of fr1 fo st1 ok1 p
  obtain ⟨st2, fr2, q⟩ := p'
  cases f with
  | next =>
   apply byc;intro kz
   obtain ⟨ρ'', ow'', oa'', ok'', fo', m, hm, hIm⟩ := q
   apply kz;clear kz
   exact ⟨m, hm, ρ'', ow'', oa'', st2, ok'', hIm, fr2, fo'⟩
  | ret v => exact ⟨st2, fr2, q⟩
  | brk => exact q.elim
  | cont => exact q.elim
 | false => exact wpAny_execs_nil ⟨st1, fr1, ρ', ow', oa', ok1, fo, h2 rfl⟩
end
section
set_option tactic.hygienic false
noncomputable def FrA (env : Env) (s s' : Shared) : Prop := ∀ b o, b ≠ env.locals -> (∀ x, env.cells.lookup x ≠ some b) -> s.heap.get? b = some o -> s'.heap.get? b = some o
theorem FrA.refl : FrA env s s := fun _ _ _ _ e => e
theorem store_all (F : Str -> Pos -> Value -> Sem Unit) (hF : ∀ x p v (Q : Unit -> Shared -> Prop) t, wpAny (Mo C) A (storeName env x v) Q NoE t -> wpAny (Mo C) A (F x p v) Q NoE t) :
  ∀ (ps : List ((Str × Pos) × PV)) (vs : List Value) (ρ : Qbs) (s : Shared), EnvOK C nm Xo env oa s.heap ρ ow -> St C s -> (∀ p ∈ ps, (Qdm nm p.1.1 || Qdi nm p.1.1) = true /\ NotOw ow p.1.1) -> RelL C (XS Xo env oa) s.heap (ps.map (·.2)) vs ->
   ∀ (Q : Unit -> Shared -> Prop), (∀ s', St C s' -> FrA env s s' -> EnvOK C nm Xo env oa s'.heap ((ps.map fun p => (p.1.1, p.2)).reverse ++ ρ) ow -> Q () s') ->
   wpAny (Mo C) A (assignInOrder (ps.map fun p => F p.1.1 p.1.2) vs) Q NoE s
 | [], vs, ρ, s, ok, st, _, r, Q, hQ => assignInOrder_nil (hQ s st .refl ok)
 | ((x, p), d) :: ps, vs, ρ, s, ok, st, hx, r, Q, hQ => by
  apply byc;intro kz
  obtain ⟨v, vs', rfl, r1, r2⟩ := r
  obtain ⟨h1, h2⟩ := hx ((x, p), d) (by simp)
  apply kz;clear kz
  refine assignInOrder_cons (hF _ _ _ _ _ (store ok st h1 r1 h2 fun s₁ st1 fr1 ok1 => ?_))
  have fa : FrA env s s₁ := fun b o h3 h4 e => fr1 b o h3 (h4 x) e
  have r2' : RelL C (XS Xo env oa) s₁.heap (ps.map (·.2)) vs' := r2.mono (fun _ _ _ e => e) ((FrN.fr (C := C) (oa := oa) fr1).cont st ok)
  refine store_all F hF ps vs' _ s₁ ok1 st1 (fun q hq => hx q (List.mem_cons_of_mem _ hq)) r2' Q fun s₂ st2 fr2 ok2 => ?_
  refine hQ s₂ st2 (fun b o h3 h4 e => fr2 b o h3 h4 (fa b o h3 h4 e)) ?_
  simpa using ok2
theorem relL_reverse {h : Heap} : ∀ {ds : List PV} {vs : List Value}, RelL C X h ds vs -> RelL C X h ds.reverse vs.reverse
 | [], _, r => by subst r; exact Qbw
 | d :: ds, _, r => by
  apply byc;intro kz
  obtain ⟨v, vs, rfl, r1, r⟩ := r
  apply kz;clear kz
  rw [List.reverse_cons, List.reverse_cons]
  exact (relL_reverse r).append (Qbc r1 Qbw)
theorem lookup_reverse_nodup {l : Qbs} (h : (l.map (·.1)).Nodup) (y : Str) : l.reverse.lookup y = l.lookup y := by
 induction l with
 | nil => rfl
 | cons p l ih =>
  obtain ⟨x, d⟩ := p
  simp only [List.map_cons, List.nodup_cons] at h
  rw [List.reverse_cons, List.lookup_append, ih h.2, List.lookup_cons]
  by_cases hy : y == x
  ·rw [beq_iff_eq] at hy
   subst hy
   have : l.lookup y = none := by
    cases q : l.lookup y with
    | none => rfl
    | some e =>
     exfalso; apply h.1
     rw [List.mem_map]
     exact ⟨(y, e), by
      clear ih h
      induction l with
      | nil => simp at q
      | cons p l ih =>
       obtain ⟨z, e'⟩ := p
       rw [List.lookup_cons] at q
       by_cases hz : y == z
       ·simp only [hz, Option.some.injEq] at q
        rw [beq_iff_eq] at hz; subst hz; subst q; simp
       ·simp only [hz] at q
        exact List.mem_cons_of_mem _ (ih q), rfl⟩
   simp [this]
  ·simp [List.lookup_cons, hy]
theorem lookup_app {l ρ : Qbs} (y : Str) : (l ++ ρ).lookup y = (l.lookup y).or (ρ.lookup y) := List.lookup_append
noncomputable abbrev bnds (ps : List ((Str × Pos) × PV)) : Qbs := ps.map fun p => (p.1.1, p.2)
theorem exs_tup {ps : List ((Str × Pos) × PV)} {k : Nat} {tp pos : Pos} {value : Expr} {R : PV -> Prop} {elts : List Expr}
  (h : Ev C n nm ρ ow value (.tup (ps.map (·.2)))) (hps : ∀ p ∈ ps, (Qdm nm p.1.1 || Qdi nm p.1.1) = true /\ NotOw ow p.1.1) (hnd : (ps.map (·.1.1)).Nodup)
  (hsw : ∀ env, swapsWithSole [.Tuple elts k tp] value pos.line env = pure false := by k_all)
  (hw : ∀ env, swappedStores [.Tuple elts k tp] value env = pure none ∨ swappedStores [.Tuple elts k tp] value env = pure (some (ps.map (·.1.1))))
  (he : ∀ env, assignEach elts env = ps.map fun p => (false, assign (.Name p.1.1 p.1.2) env) := by k_all) :
  ExS C n nm (.Assign [.Tuple elts k tp] value pos) ρ ow (fun a b => a = bnds ps ++ ρ /\ b = ow) R := by
 intro A Xo env oa s rm st ok
 have go : ∀ (v : Value) (s₁ : Shared), Post C (XS Xo env oa) s (.tup (ps.map (·.2))) v s₁ -> ∃ a vs m, v = .ref a /\ St C s₁ /\ Kp C s s₁ /\ EnvOK C nm Xo env oa s₁.heap ρ ow /\ IsTup s₁.heap a vs.toArray /\ RelL C (XS Xo env oa) s₁.heap (ps.map (·.2)) vs /\ s₁.heap.get? a = some (Qay "tuple" vs m) := by
  intro v s₁ hz
  apply byc;intro kz
  obtain ⟨st1, k1, r⟩ := hz
  obtain ⟨a, vs, m, rfl, _, e, r⟩ := r
  apply kz;clear kz
  exact ⟨a, vs, m, rfl, st1, k1, ok.kp st st1 k1, ⟨_, e, rfl, _, rfl⟩, r, e⟩
 have hnd' : ((bnds ps).map (·.1)).Nodup := by rw [show (bnds ps).map (·.1) = ps.map (·.1.1) from by unfold bnds; rw [List.map_map]; rfl]; exact hnd
 have fin : ∀ (s₁ : Shared) (h' : Heap) (b : Bool), St C s₁ -> Kp C s s₁ -> EnvOK C nm Xo env oa s₁.heap ρ ow -> Heap.ExtBut s₁.heap.objs.size s₁.heap h' -> ∀ s₂, St C s₂ -> FrA env { s₁ with heap := h' } s₂ ->
   (EnvOK C nm Xo env oa s₂.heap ((bnds ps).reverse ++ ρ) ow ∨ EnvOK C nm Xo env oa s₂.heap (bnds ps ++ ρ) ow) -> PostS C nm Xo env oa s (fun a b => a = bnds ps ++ ρ /\ b = ow) R .next s₂ := by
  intro s₁ h' b st1 k1 ok1 he s₂ st2 fr ok2
  refine ⟨st2, fun b o h1 h2 h3 h4 e => fr b o h2 h3 ?_, _, _, oa, ?_, Fresh.refl, rfl, rfl⟩
  ·have e1 := k1 b o h1 e
   exact he b o (Nat.ne_of_lt (Heap.lt_size e1)) e1
  ·rcases ok2 with ok2 | ok2
   ·refine ok2.weak fun y d e => ?_
    rw [lookup_app] at e ⊢
    rw [lookup_reverse_nodup hnd']; exact e
   ·exact ok2
 rcases hw env with hw | hw
 ·refine Assign_Tuple (wpAny_mono (h A Xo env oa s rm st ok) (fun v s₁ p => ?_) nof) (hsw env) hw
  apply byc;intro kz
  obtain ⟨a, vs, m, rfl, st1, k1, ok1, it, r, _⟩ := go v s₁ p
  apply kz;clear kz
  have hlen : (assignEach elts env).length = vs.toArray.size := by rw [he env]; simp [r.length]
  refine assign_Tuple_tuple rm.handled it hlen (by rw [he env]; rw [List.findIdx?_eq_none_iff]; intro x hx; rw [List.mem_map] at hx; obtain ⟨p, _, rfl⟩ := hx; rfl) fun h' hx => ?_
  have kk : ∀ b o, s₁.heap.get? b = some o -> h'.get? b = some o := fun b o e => hx b o (Nat.ne_of_lt (Heap.lt_size e)) e
  have rs : Rest s₁ { s₁ with heap := h' } := ⟨fun b o _ e => kk b o e, fun b o _ _ e => kk b o e⟩
  rw [he env, List.map_map]
  have st2 : St C { s₁ with heap := h' } := st1.of_keep (s' := { s₁ with heap := h' }) kk rfl rfl
  exact store_all (fun x p v => assign (.Name x p) env v) (fun x p v Q t h => wpAny_assign_Name h) ps vs ρ { s₁ with heap := h' } (ok1.rest rs) st2 hps (rs.relL r) _ fun s₂ st2 fr ok2 => fin s₁ h' true st1 k1 ok1 hx s₂ st2 fr (.inl ok2)
 ·refine Assign_Tuple_swapped (wpAny_mono (h A Xo env oa s rm st ok) (fun v s₁ p => ?_) nof) (hsw env) hw
  apply byc;intro kz
  obtain ⟨a, vs, m, rfl, st1, k1, ok1, it, r, _⟩ := go v s₁ p
  apply kz;clear kz
  have hlen : (ps.map (·.1.1)).length = vs.toArray.size := by simp [r.length]
  rw [hlen]
  refine unpackItems_tuple rm.handled it fun h' hx => ?_
  have kk : ∀ b o, s₁.heap.get? b = some o -> h'.get? b = some o := fun b o e => hx b o (Nat.ne_of_lt (Heap.lt_size e)) e
  have rs : Rest s₁ { s₁ with heap := h' } := ⟨fun b o _ e => kk b o e, fun b o _ _ e => kk b o e⟩
  have e1 : ((ps.map (·.1.1)).reverse.map fun n => bindName env n) = (ps.reverse.map fun p => bindName env p.1.1) := by rw [← List.map_reverse, List.map_map]; rfl
  rw [e1]
  have st2 : St C { s₁ with heap := h' } := st1.of_keep (s' := { s₁ with heap := h' }) kk rfl rfl
  have rr : RelL C (XS Xo env oa) h' (ps.reverse.map (·.2)) vs.reverse := by
   have r0 := rs.relL r
   rw [List.map_reverse]
   exact relL_reverse r0
  refine store_all (fun x p v => bindName env x v) (fun x p v Q t h => wpAny_bindName h) ps.reverse vs.reverse ρ { s₁ with heap := h' } (ok1.rest rs) st2 (fun p hp => hps p (List.mem_reverse.mp hp)) rr _ fun s₂ st2 fr ok2 => fin s₁ h' true st1 k1 ok1 hx s₂ st2 fr (.inr ?_)
  have : (List.map (fun p => (p.1.1, p.2)) ps.reverse).reverse = bnds ps := by rw [List.map_reverse, List.reverse_reverse]
  rw [this] at ok2
  exact ok2
theorem swappedN {xs : List (Str × Pos)} {tp vp : Pos} {k k' : Nat} {vs : List Expr} (hf : vs.all (constantsAlone 8) = false ∨ vs.all (foldedForSure 8) = true) (env : Env) :
  swappedStores [.Tuple (xs.map fun p => .Name p.1 p.2) k tp] (.Tuple vs k' vp) env = pure none ∨ swappedStores [.Tuple (xs.map fun p => .Name p.1 p.2) k tp] (.Tuple vs k' vp) env = pure (some (xs.map (·.1))) := by
 have hfm : ∀ (g : Expr -> Option Str) (f : Str -> Pos -> Bool) (hg : ∀ id pos, g (.Name id pos) = if f id pos = true then some id else none) (xs : List (Str × Pos)), (xs.map fun p => Expr.Name p.1 p.2).filterMap g = (xs.filter fun p => f p.1 p.2).map (·.1) := by
  intro g f hg xs
  induction xs with
  | nil => rfl
  | cons p xs ih =>
   rw [List.map_cons, List.filterMap_cons, List.filter_cons, hg]
   by_cases h : f p.1 p.2 = true
   ·simp only [h, if_true, ih, List.map_cons]
   ·simp only [h, ih]; simp
 unfold swappedStores
 dsimp only
 rw [hfm _ (fun id pos => env.kindOf id == some .local && pos.line == (Option.map (fun x => x.pos.line) (xs.map fun p => Expr.Name p.1 p.2).head?).getD 0) (fun _ _ => rfl)]
 split
 ·exact .inl rfl
 split
 ·exact .inl rfl
 split
 ·exact .inl rfl
 rename_i h
 split
 ·exact .inl rfl
 rename_i hfo
 right
 have hc : vs.all (constantsAlone 8) = false := hf.resolve_right hfo
 rw [hc]
 simp only [Bool.or_eq_true, bne_iff_ne, ne_eq, not_or, Decidable.not_not, List.length_map] at h
 have hall : xs.filter (fun p => env.kindOf p.1 == some .local && p.2.line == (Option.map (fun x => x.pos.line) (xs.map fun p => Expr.Name p.1 p.2).head?).getD 0) = xs := List.filter_eq_self.mpr (List.length_filter_eq_length_iff.mp h.1)
 rw [hall]
 rfl
end
section
set_option tactic.hygienic false
theorem Qeg {M : Model} {f : Value} {args : List (Bool × Sem Value)} {Q : Args -> Shared -> Prop} (hp : args.any (·.1) = false) (h : wpAny M A (spliced args) (fun vs s' => Q ⟨vs, []⟩ s') E s) : wpAny M A (evalArgs f true args []) Q E s := by
 cases args with
 | nil =>
  unfold evalArgs
  show wpAny _ _ (spliced [] >>= _) _ _ _
  refine wpAny_bind (wpAny_mono h (fun vs s₂ h₂ => wpAny_bind (wpAny_pure ?_)) fun _ _ x => x)
  refine wpAny_holding ?_
  exact wpAny_bind (wpAny_pure (wpAny_bind (wpAny_pure (wpAny_pure h₂))))
 | cons p r =>
  obtain ⟨b, x⟩ := p
  simp only [List.any_cons, Bool.or_eq_false_iff] at hp
  obtain ⟨hb, _⟩ := hp
  subst hb
  exact Calls.evalArgs_plain h
noncomputable def OpF (C : Cfg) (n : Nat) (f : Value) (ds : List PV) (d : PV) : Prop :=
 ∀ A X s vs, Room A n -> St C s -> LowX X s.heap -> RelL C X s.heap ds vs -> wpAny (Mo C) A (call f vs) (Post C X s d) NoE s
noncomputable def OpT (C : Cfg) (n : Nat) (f : Value) (d1 : PV) (d : PV) : Prop :=
 ∀ A X s a, Room A n -> St C s -> LowX X s.heap -> Top C X s.heap d1 a -> wpAny (Mo C) A (call f [.ref a]) (Post C X s d) NoE s
noncomputable def KeepF (C : Cfg) (f : Value) : Prop := ∀ s, St C s -> ∃ k, (k = Keeper.frame ∨ k = Keeper.machine ∨ k = Keeper.boundFrame) /\ Looks (Mo C) s.heap (keeperOf f) k
theorem Qaq {id : String} : KeepF C (.builtin id) := fun s st => ⟨.machine, .inr (.inl rfl), .of_pure rfl⟩
theorem Qcj {T : String} : KeepF C (.type T) := fun s st => ⟨.machine, .inr (.inl rfl), .of_pure rfl⟩
theorem keepF_func {a : Addr} {o : PySem.Obj} {fd : FuncData} (h : C.h0.get? a = some o) (hd : o.data = .func fd) : KeepF C (.ref a) := fun s st => by
 refine ⟨.frame, .inl rfl, ?_⟩
 intro A Q E s' hk q
 have : s'.heap.get? a = some o := hk _ _ (st.h0 h fun vs e => by subst e; cases hd)
 unfold keeperOf
 refine wpAny_bind (wpAny_load this ?_)
 rw [hd]
 exact wpAny_pure q
theorem ev_call {x : Str} {np pos : Pos} {f : Value} {args : List Expr} {ds : List PV} {d : PV} (hf : Ev C n nm ρ ow (.Name x np) (.raw f)) (hk : KeepF C f) (ha : EvL C n nm ρ ow args ds) (ho : OpF C n f ds d)
  (hp : ∀ env, (backTo pos (starEach args env)).any (·.1) = false := by k_all) : Ev C n nm ρ ow (.Call (.Name x np) args [] pos) d := by
 intro A Xo env oa s rm st ok
 refine Call_Name rfl (wpAny_mono (hf A Xo env oa s rm st ok) (fun v s₁ hz => ?_) nof)
 apply byc;intro kz
 obtain ⟨st1, k1, r1⟩ := hz
 apply kz;clear kz
 subst r1
 have ok1 := ok.kp st st1 k1
 refine callWith_of (P := fun h => ∃ t, St C t /\ t.heap = h) (by simp [hp env]) (fun h ⟨t, stt, e⟩ => e ▸ hk t stt) (Qeg (hp env) (wpAny_mono (ha A Xo env oa s₁ pos rm st1 ok1) (fun vs s₂ ⟨st2, k2, r2⟩ => ⟨⟨s₂, st2, rfl⟩, ?_⟩) nof))
 exact wpAny_mono (ho A _ s₂ vs rm st2 (ok1.kp st1 st2 k2).lowX r2) (fun v s₃ p => p.of (k1.trans k2)) nof
theorem ev_callT {x : Str} {np pos : Pos} {f : Value} {e : Expr} {d1 d : PV} (hf : Ev C n nm ρ ow (.Name x np) (.raw f)) (hk : KeepF C f) (ha : EvT C n nm ρ ow e d1) (ho : OpT C n f d1 d)
  (hp : ∀ env, starEach [e] env = [(false, eval e env)] := by k_all) : Ev C n nm ρ ow (.Call (.Name x np) [e] [] pos) d := by
 intro A Xo env oa s rm st ok
 refine Call_Name1 (wpAny_mono (hf A Xo env oa s rm st ok) (fun v s₁ hz => ?_) nof) (hp env)
 apply byc;intro kz
 obtain ⟨st1, k1, r1⟩ := hz
 apply kz;clear kz
 subst r1
 have ok1 := ok.kp st st1 k1
 refine callWith_of (P := fun h => ∃ t, St C t /\ t.heap = h) rfl (fun h ⟨t, stt, e⟩ => e ▸ hk t stt) (Qeg rfl (Calls.spliced_cons (wpAny_mono (ha A Xo env oa s₁ rm st1 ok1) (fun v s₂ ⟨st2, k2, a, e2, t2⟩ => Calls.spliced_nil ⟨⟨s₂, st2, rfl⟩, ?_⟩) nof)))
 subst e2
 exact wpAny_mono (ho A _ s₂ a rm st2 (ok1.kp st1 st2 k2).lowX t2) (fun v s₃ p => p.of (k1.trans k2)) nof
noncomputable def TyV (T : String) (s : Shared) (v : Value) : Prop := s.TypeIs v T /\ ∀ a, v = .ref a -> ∃ o, s.heap.get? a = some o /\ o.dict = none
theorem tyV_top_lst {a : Addr} {l : List PV} (t : Top C X s.heap (.lst l) a) : TyV "list" s (.ref a) := by
 apply byc;intro kz
 obtain ⟨vs, m, e, _⟩ := t
 apply kz;clear kz
 exact ⟨⟨_, e, rfl⟩, fun b q => by cases q; exact ⟨_, e, rfl⟩⟩
theorem tyV_top_dctI {a : Addr} {l : List (Int × PV)} (t : Top C X s.heap (.dctI l) a) : TyV "dict" s (.ref a) := by
 apply byc;intro kz
 obtain ⟨_, kvs, ⟨e, hn⟩, _⟩ := t
 apply kz;clear kz
 exact ⟨e.typeIs, fun b q => by cases q; exact hn⟩
theorem tyV_lst {l : List PV} {v : Value} (r : Rel C X s.heap (.lst l) v) : TyV "list" s v := by obtain ⟨a, rfl, t⟩ := top_lst _ _ _ r; exact tyV_top_lst t
theorem tyV_dctI {l : List (Int × PV)} {v : Value} (r : Rel C X s.heap (.dctI l) v) : TyV "dict" s v := by obtain ⟨a, rfl, t⟩ := top_dctI _ _ _ r; exact tyV_top_dctI t
theorem tyV_str {x : Str} {v : Value} (r : Rel C X s.heap (.str x) v) : TyV "str" s v := by obtain ⟨t, rfl⟩ := r; exact ⟨rfl, fun _ q => nomatch q⟩
theorem star_head {α : Type} {l : List (Bool × α)} (h : (l.head?.elim true fun p => !p.1) = true) : l = [] ∨ ∃ x r, l = (false, x) :: r := by
 cases l with
 | nil => exact .inl rfl
 | cons p r =>
  obtain ⟨b, x⟩ := p
  cases b with
  | false => exact .inr ⟨x, r, rfl⟩
  | true => cases h
theorem ev_meth {T id : String} {name : Str} {o : Expr} {apos pos : Pos} {args : List Expr} {d1 d : PV} {ds : List PV} (pa : PlainAttrs T) (slot : Slot T name id) (hty : typeOf (.builtin id) = pure (.type "method_descriptor"))
  (ho : Ev C n nm ρ ow o d1) (hT : ∀ X s v, Rel C X s.heap d1 v -> TyV T s v) (ha : EvL C n nm ρ ow args ds) (hop : OpF C n (.builtin id) (d1 :: ds) d)
  (hbase : ∀ env, attributeBase o name env (eval o env) = eval o env := by k_all)
  (hform : ∀ env, methodCallForm (args.length + 0) (backTo pos (starEach args env)) [] = true := by k_all)
  (hline : (apos.endLine == pos.line) = true := by k_all)
  (hargs : ∀ env, ((backTo pos (starEach args env)).head?.elim true fun p => !p.1) = true := by k_all)
  (hplain : ∀ env, (backTo pos (starEach args env)).any (·.1) = false := by k_all) : Ev C n nm ρ ow (.Call (.Attribute o name apos) args [] pos) d := by
 intro A Xo env oa s rm st ok
 refine call_meth (wpAny_mono (ho A Xo env oa s rm st ok) (fun v s₁ hz => ?_) nof) (hbase env) (hform env) hline (star_head (hargs env)) (hplain env)
 apply byc;intro kz
 obtain ⟨st1, k1, r1⟩ := hz
 obtain ⟨h1, h2⟩ := hT _ _ _ r1
 apply kz;clear kz
 have ok1 := ok.kp st st1 k1
 refine ⟨T, id, h1, pa, slot, hty, h2, wpAny_mono (ha A Xo env oa s₁ pos rm st1 ok1) (fun vs s₂ hz => ?_) nof⟩
 apply byc;intro kz
 obtain ⟨st2, k2, r2⟩ := hz
 apply kz;clear kz
 exact wpAny_mono (hop A _ s₂ (v :: vs) rm st2 (ok1.kp st1 st2 k2).lowX (Qbc (r1.kp st1 k2) r2)) (fun v s₃ p => p.of (k1.trans k2)) nof
theorem RelL.take {h : Heap} {ds : List PV} {vs : List Value} (r : RelL C X h ds vs) {i : Nat} : RelL C X h (ds.take i) (vs.take i) := by
 refine RelL.of_get (by simp [r.length]) fun j d v e1 e2 => ?_
 rw [List.getElem?_take] at e1 e2
 split at e1
 ·rename_i hj
  rw [if_pos hj] at e2
  obtain ⟨v', e3, e4⟩ := r.get e1
  rw [e3] at e2; cases e2; exact e4
 ·cases e1
theorem RelL.drop {h : Heap} {ds : List PV} {vs : List Value} (r : RelL C X h ds vs) {i : Nat} : RelL C X h (ds.drop i) (vs.drop i) := by
 refine RelL.of_get (by simp [r.length]) fun j d v e1 e2 => ?_
 rw [List.getElem?_drop] at e1 e2
 obtain ⟨v', e3, e4⟩ := r.get e1
 rw [e3] at e2; cases e2; exact e4
noncomputable def OpW (C : Cfg) (n : Nat) (f : Value) (d1 : PV) (ds : List PV) (d2 : PV) : Prop :=
 ∀ A X s a vs, Room A n -> St C s -> LowX X s.heap -> X a -> Top C X s.heap d1 a -> RelL C X s.heap ds vs ->
  wpAny (Mo C) A (call f (.ref a :: vs)) (fun v s' => ∃ h', s' = { s with heap := h', toks := s'.toks } /\ Heap.SameBut a s.heap h' /\ Top C X h' d2 a) NoE s
theorem own_post {x : Str} {d1 d2 : PV} {a : Addr} {h' : Heap} {tk : Nat} {s₁ : Shared} {R : PV -> Prop} (k1 : Kp C s s₁) (st1 : St C s₁) (ok1 : EnvOK C nm Xo env oa s₁.heap ρ (some (x, d1))) (ha : oa = some a)
  (hs : Heap.SameBut a s₁.heap h') (ht : Top C (XS Xo env oa) h' d2 a) (hp : 0 < tk) : PostS C nm Xo env oa s (fun a b => a = ρ /\ b = some (x, d2)) R .next { s₁ with heap := h', toks := tk } := by
 apply byc;intro kz
 obtain ⟨_, a', ha', _, _, ht0⟩ := ok1.own x d1 rfl
 apply kz;clear kz
 rw [ha] at ha'; cases ha'
 obtain ⟨o, ho, hc⟩ := ht0.cont
 refine ⟨st1.same_but hs (ok1.newO a ha) (st1.pt_cont ho hc), fun b o h1 h2 h3 h4 e => (hs.2 b (fun q => h4 (q ▸ ha))).trans (k1 b o h1 e), ρ, _, oa, ok1.turnOwn ha hs ht, Fresh.refl, rfl, rfl⟩
theorem ev_own {x : Str} {pos : Pos} {d : PV} (hx : (Qdm nm x || Qdi nm x) = true) (ok : EnvOK C nm Xo env oa s.heap ρ (some (x, d))) (hb : (x == ("__debug__" : Str)) = false := by k_all)
  (hc : (x == ("__classdict__" : Str)) = false := by k_all) : wpAny (Mo C) A (eval (.Name x pos) env) (fun v s' => s' = s /\ ∃ a, v = .ref a /\ oa = some a /\ Top C (XS Xo env oa) s.heap d a) NoE s := by
 apply byc;intro kz
 obtain ⟨_, a, h1, h2, h3, h4⟩ := ok.own x d rfl
 apply kz;clear kz
 by_cases hl : Qdm nm x = true
 ·apply byc;intro kz
  obtain ⟨m, hm, _, h5⟩ := ok.loc
  obtain ⟨a', e1, e2⟩ := h5 x d rfl hl
  apply kz;clear kz
  rw [h1] at e1; cases e1
  exact wpAny_Name (wpAny_loadName_local ok.kind (ok.kindL x hl) hm e2 ⟨rfl, a, rfl, h1, h4⟩) hb
 ·have hx' : Qdi nm x = true := by simpa [hl] using hx
  apply byc;intro kz
  obtain ⟨c, a', e1, e2, e3⟩ := ok.celO x d rfl hx'
  apply kz;clear kz
  rw [h1] at e3; cases e3
  rcases ok.kindC x hx' with hk | hk
  ·exact wpAny_Name (wpAny_loadName_cell ok.kind hk e1 e2 ⟨rfl, a, rfl, h1, h4⟩) hb
  ·exact wpAny_Name (wpAny_loadName_free ok.kind hk e1 e2 ⟨rfl, a, rfl, h1, h4⟩ hc) hb
theorem exs_own_meth {T id : String} {name x : Str} {px apos cpos pos : Pos} {args : List Expr} {d1 d2 : PV} {ds : List PV} {R : PV -> Prop} (hx : (Qdm nm x || Qdi nm x) = true) (pa : PlainAttrs T) (slot : Slot T name id) (hty : typeOf (.builtin id) = pure (.type "method_descriptor"))
  (hT : ∀ X s a, Top C X s.heap d1 a -> TyV T s (.ref a)) (ha : EvL C n nm ρ (some (x, d1)) args ds) (hop : OpW C n (.builtin id) d1 ds d2)
  (hb : (x == ("__debug__" : Str)) = false := by k_all) (hc : (x == ("__classdict__" : Str)) = false := by k_all)
  (hbase : ∀ env, attributeBase (.Name x px) name env (eval (.Name x px) env) = eval (.Name x px) env := by k_all)
  (hform : ∀ env, methodCallForm (args.length + 0) (backTo cpos (starEach args env)) [] = true := by k_all)
  (hline : (apos.endLine == cpos.line) = true := by k_all)
  (hargs : ∀ env, ((backTo cpos (starEach args env)).head?.elim true fun p => !p.1) = true := by k_all)
  (hplain : ∀ env, (backTo cpos (starEach args env)).any (·.1) = false := by k_all) :
  ExS C n nm (.Expr (.Call (.Attribute (.Name x px) name apos) args [] cpos) pos) ρ (some (x, d1)) (fun a b => a = ρ /\ b = some (x, d2)) R := by
 intro A Xo env oa s rm st ok
 have hint : interactive env = false := by unfold interactive; rw [ok.kind]; rfl
 refine wpAny_Expr_any ?_ hint rfl
 refine call_meth (wpAny_mono (ev_own hx ok hb hc) (fun v s₁ hz => ?_) nof) (hbase env) (hform env) hline (star_head (hargs env)) (hplain env)
 apply byc;intro kz
 obtain ⟨e1, a, e, hoa, t1⟩ := hz
 apply kz;clear kz
 subst e; subst e1
 obtain ⟨h1, h2⟩ := hT _ _ _ t1
 refine ⟨T, id, h1, pa, slot, hty, h2, wpAny_mono (ha A Xo env oa s₁ cpos rm st ok) (fun vs s₂ hz => ?_) nof⟩
 apply byc;intro kz
 obtain ⟨st2, k2, r2⟩ := hz
 apply kz;clear kz
 have ok2 := ok.kp st st2 k2
 refine Qbj st2.pos (wpAny_mono (hop A _ s₂ a vs rm st2 ok2.lowX (.inr (.inr hoa)) (t1.kp st k2) r2) (fun v s₃ ⟨h', e3, hs, ht⟩ hp => ?_) nof)
 rw [e3]
 exact own_post k2 st2 ok2 hoa hs ht hp
theorem opW_append {l : List PV} {d : PV} (hsz : l.length <= sizeLine) : OpW C n (.builtin "list.append") (.lst l) [d] (.lst (l ++ [d])) := by
 intro A X s a vs rm st lo hX t r
 apply byc;intro kz
 obtain ⟨v, _, rfl, r, rfl⟩ := r
 obtain ⟨us, m, e, rl⟩ := t
 apply kz;clear kz
 refine call_meets F.slot_list_append (T := "list") ⟨_, e, rfl⟩ F.entry_list_append (F.args_list_append_2 _ _) (PySem.AutoListH.list_append_list_val_0 a us.toArray m v (by simp [rl.length, hsz])) ⟨e, ?_⟩
 have hs := Heap.SameBut.update s.heap a (Obj.mapSeq fun xs => xs.push v)
 have hc : Cont X s.heap (s.heap.update a (Obj.mapSeq fun xs => xs.push v)) := fun b o hb _ e => (hs.2 b (fun q => hb (q ▸ hX))).trans e
 have e2 : IsL s.heap a us.toArray m := e
 have e3 := e2.update (fun xs => xs.push v)
 have e4 : us.toArray.push v = (us ++ [v]).toArray := by simp
 generalize (if (us.toArray.push v).size == us.toArray.size then m else m + 1) = m' at e3
 rw [e4] at e3
 exact ⟨_, rfl, hs, us ++ [v], m', e3, (rl.append (Qbc r Qbw)).mono (fun _ _ _ e => e) hc⟩
theorem exs_append {x : Str} {px apos cpos pos : Pos} {e : Expr} {l : List PV} {d : PV} {R : PV -> Prop} (hx : (Qdm nm x || Qdi nm x) = true) (ha : Ev C n nm ρ (some (x, .lst l)) e d) (hsz : l.length <= sizeLine)
  (hb : (x == ("__debug__" : Str)) = false := by k_all) (hc : (x == ("__classdict__" : Str)) = false := by k_all)
  (hbase : ∀ env, attributeBase (.Name x px) "append" env (eval (.Name x px) env) = eval (.Name x px) env := by k_all)
  (he : ∀ env, starEach [e] env = [(false, eval e env)] := by k_all)
  (hline : (apos.endLine == cpos.line) = true := by k_all) :
  ExS C n nm (.Expr (.Call (.Attribute (.Name x px) "append" apos) [e] [] cpos) pos) ρ (some (x, .lst l)) (fun a b => a = ρ /\ b = some (x, .lst (l ++ [d]))) R :=
 exs_own_meth hx F.plainAttrs_list F.slot_list_append F.type_list_append (fun X s a t => tyV_top_lst t) (Qao ha Qdt he) (opW_append hsz) hb hc hbase (fun env => by rw [he env]; rfl) hline (fun env => by rw [he env]; rfl) (fun env => by rw [he env]; rfl)
theorem opW_insert {l : List PV} {d : PV} {i : Nat} (hi : i <= l.length) (hsz : l.length <= sizeLine) : OpW C n (.builtin "list.insert") (.lst l) [.int i, d] (.lst (l.take i ++ [d] ++ l.drop i)) := by
 intro A X s a vs rm st lo hX t r
 apply byc;intro kz
 obtain ⟨_, _, rfl, ⟨tk, rfl⟩, v, _, rfl, r, rfl⟩ := r
 obtain ⟨us, m, e, rl⟩ := t
 apply kz;clear kz
 have hsz' : us.toArray.size <= sizeLine := by simp [rl.length, hsz]
 have hfit : ¬(!Builtin.List.listFitsIndex (i : Int)) = true := by
  have : sizeLine < 2 ^ 62 := by unfold sizeLine; lia
  have h2 : i < 2 ^ 62 := Nat.lt_of_le_of_lt (Nat.le_trans hi hsz) this
  have h3 : (i : Int) < 2 ^ 63 := by lia
  have h4 : (-(2 ^ 63) : Int) <= i := by lia
  unfold Builtin.List.listFitsIndex
  rw [show (decide (-(2 ^ 63 : Int) <= (i : Int)) && decide ((i : Int) < 2 ^ 63)) = true from by rw [decide_eq_true h4, decide_eq_true h3]; rfl]
  exact Bool.false_ne_true
 have hxn : ∃ x : Int, x = i := ⟨_, rfl⟩
 obtain ⟨x, hx⟩ := hxn
 rw [← hx] at hfit ⊢
 have h0 : ¬ (x < 0) := by lia
 have hxi : x.toNat = i := by lia
 clear hx
 have g := PySem.AutoListH.list_insert_list_int_val_1 a us.toArray m x tk v hfit hsz'
 refine call_meets F.slot_list_insert (T := "list") ⟨_, e, rfl⟩ F.entry_list_insert (F.args_list_insert_3 _ _ _) g ⟨e, ?_⟩
 have hs := Heap.SameBut.update s.heap a (Obj.mapSeq fun xs => have k := if x < 0 then (x + ((xs.size : Nat) : Int)).toNat else min x.toNat xs.size; (xs.extract 0 k).push v ++ xs.extract k)
 have hc : Cont X s.heap (s.heap.update a (Obj.mapSeq fun xs => have k := if x < 0 then (x + ((xs.size : Nat) : Int)).toNat else min x.toNat xs.size; (xs.extract 0 k).push v ++ xs.extract k)) := fun b o hb _ e => (hs.2 b (fun q => hb (q ▸ hX))).trans e
 have e2 : IsL s.heap a us.toArray m := e
 have e3 := e2.update (fun xs => have k := if x < 0 then (x + ((xs.size : Nat) : Int)).toNat else min x.toNat xs.size; (xs.extract 0 k).push v ++ xs.extract k)
 have e4 : (have k := if x < 0 then (x + ((us.toArray.size : Nat) : Int)).toNat else min x.toNat us.toArray.size; (us.toArray.extract 0 k).push v ++ us.toArray.extract k) = (us.take i ++ [v] ++ us.drop i).toArray := by
  have h1 : min i us.length = i := Nat.min_eq_left (by rw [rl.length]; exact hi)
  simp only [h0, if_false, hxi, List.size_toArray, h1]
  apply Array.toList_inj.mp
  simp [List.extract_eq_take_drop]
  try exact List.take_of_length_le (by simp)
 have h1 : RelL C X s.heap (l.take i) (us.take i) := rl.take
 have h2 : RelL C X s.heap (l.drop i) (us.drop i) := rl.drop
 rw [e4] at e3
 generalize (if (us.take i ++ [v] ++ us.drop i).toArray.size == us.toArray.size then m else m + 1) = m' at e3
 exact ⟨_, rfl, hs, us.take i ++ [v] ++ us.drop i, m', e3, ((h1.append (Qbc r Qbw)).append h2).mono (fun _ _ _ e => e) hc⟩
end
section
set_option tactic.hygienic false
theorem view_call {l : List (Int × PV)} {T id : String} {name : Str} {o : Expr} {apos pos : Pos} {cls : String} (slot : Slot "dict" name id) (hty : typeOf (.builtin id) = pure (.type "method_descriptor"))
  (hcall : ∀ (A : Around) (d : Addr) (s : Shared) (Q : Value -> Shared -> Prop), (d == sysModules) = false -> (∃ kvs, s.heap.DictOf (IK C) d kvs) -> Q (.ref s.heap.objs.size) { s with heap := s.heap.push { cls := .type cls, data := .fields #[.ref d] } } -> wpAny (Mo C) A (call (.builtin id) [.ref d]) Q NoE s)
  (ho : Ev C n nm ρ ow o (.dctI l)) (rm : Room A n) (st : St C s) (ok : EnvOK C nm Xo env oa s.heap ρ ow)
  (hbase : attributeBase o name env (eval o env) = eval o env) (hline : (apos.endLine == pos.line) = true) :
  wpAny (Mo C) A (eval (.Call (.Attribute o name apos) [] [] pos) env) (fun v s₁ => St C s₁ /\ Kp C s s₁ /\ ∃ d w, v = .ref w /\ ¬ XS Xo env oa d /\ Top C (XS Xo env oa) s₁.heap (.dctI l) d /\ s₁.heap.get? w = some { cls := .type cls, data := .fields #[.ref d] }) NoE s := by
 refine call_meth (wpAny_mono (ho A Xo env oa s rm st ok) (fun v s₁ hz => ?_) nof) hbase rfl hline (.inl rfl) rfl
 apply byc;intro kz
 obtain ⟨st1, k1, r1⟩ := hz
 obtain ⟨h1, h2⟩ := tyV_dctI r1
 apply kz;clear kz
 refine ⟨"dict", id, h1, F.plainAttrs_dict, slot, hty, h2, ?_⟩
 apply byc;intro kz
 obtain ⟨a, kvs, rfl, hx, hd, r⟩ := r1
 apply kz;clear kz
 refine Calls.spliced_nil ?_
 refine hcall A a s₁ _ (by simpa using hx.2) ⟨kvs, hd.1⟩ ?_
 refine ⟨st1.of_keep Qaa rfl rfl, fun b o h e => Qaa b o (k1 b o h e), a, _, rfl, hx.1, ⟨hx.2, kvs, ⟨?_, ?_⟩, r.mono (fun _ _ _ e => e) fun _ _ _ _ e => Qaa _ _ e⟩, Heap.get?_push_size _ rfl⟩
 ·exact (dictN_at hd fun o _ e => Qaa a o e).1
 ·exact (dictN_at hd fun o _ e => Qaa a o e).2
theorem itF_values {l : List (Int × PV)} {o : Expr} {apos pos : Pos} (ho : Ev C n nm ρ ow o (.dctI l)) (hbase : ∀ env, attributeBase o "values" env (eval o env) = eval o env := by k_all) (hline : (apos.endLine == pos.line) = true := by k_all) :
  EvItF C n nm ρ ow (.Call (.Attribute o "values" apos) [] [] pos) (l.map (·.2)) := by
 intro A Xo env oa s rm st ok
 refine wpAny_mono (view_call (T := "dict") (cls := "dict_values") F.slot_dict_values F.type_dict_values (fun A d s Q h1 h2 h3 => call_meetsIn F.slot_dict_values (let ⟨_, h⟩ := h2; h.typeIs) F.entry_dict_values (F.args_dict_values_1 _) (meets_dict_values (IK C) d h1) ⟨h2, h3⟩) ho rm st ok (hbase env) hline) (fun v s₁ ⟨st1, k1, d, w, e, hx, ⟨hsys, kvs, hd, r⟩, hw⟩ => ⟨st1, k1, ?_⟩) nof
 subst e
 obtain ⟨ep, hat⟩ := hd.1.dictAt
 have hlt := hat.lt_size
 have hco : ∃ o, s₁.heap.get? d = some o /\ Obj.cont o := by
  apply byc;intro kz
  obtain ⟨⟨o, es, ep, ho, _, hdd, _⟩, _⟩ := hd
  apply kz;clear kz
  exact ⟨o, ho, .inr (.inl ⟨es, ep, hdd⟩)⟩
 obtain ⟨rk, rl⟩ := r.keys
 refine wpAny_pyIter_values (⟨_, hw, rfl, rfl⟩ : s₁.heap.IsValuesView w d) hat (Qet (fp := [s₁.heap.objs.size, d]) (wr := [s₁.heap.objs.size]) (P := fun i v => ∃ k, kvs[i]? = some (k, v))
  (Stt := fun i h => h.IsValIter s₁.heap.objs.size d i kvs.length ep /\ h.DictAt (IK C) d kvs ep)
  (V := fun X h => RelL C X h (l.map fun p : Int × PV => p.2) (kvs.map fun p : Int × Value => p.2)) st1 ⟨fun A hh => ?_, fun X Y h h' hX k r => RelL.mono hX k _ r, fun X h i v hV hP hi => ?_, fun i h hs b hb => ?_, fun i h hs => ?_, fun b hb => ?_, fun b hb => ?_⟩ ⟨?_, hat.push _⟩ rl.push (by simp) fun b hb => ?_)
 ·have := Walks.dictValues (knd := IK C) (A := A) hh s₁.heap.objs.size d (Nat.ne_of_lt hlt) kvs ep
  have hl : (l.map (·.2)).length = kvs.length := by have := rl.length; simpa using this.symm
  rw [hl]; exact this
 ·apply byc;intro kz
  obtain ⟨k, e1⟩ := hP
  obtain ⟨d, h1, h2⟩ := hV.get' (i := i) (v := v) (by simp [e1])
  apply kz;clear kz
  exact ⟨d, h1, h2⟩
 ·revert b; refine al ?_ an; exact (let ⟨o, ho, hc, hd⟩ := hs.1; ⟨o, _, ho, hd, by rw [hc]; simp, by rw [hc]; simp⟩)
 ·exact (let ⟨o, ho, hc, hd⟩ := hs.1; ⟨o, _, ho, hc, by decide +kernel⟩)
 ·revert b; refine al ?_ an; exact Qbg
 ·revert b; refine al ?_ (al ?_ an)
  ·exact .inl Qbg
  ·exact .inr ⟨hx, hco⟩
 ·exact ⟨_, Heap.get?_push_size _ rfl, rfl, rfl⟩
 ·revert b; refine al ?_ (al ?_ an)
  ·exact .inl rfl
  ·exact .inr (hco.imp fun _ h => h.1)
theorem feed_items {l : List (Int × PV)} {x y : Str} {o : Expr} {apos pos px py pt : Pos} {kt : Nat} (ho : Ev C n nm ρ ow o (.dctI l)) (hbase : ∀ env, attributeBase o "items" env (eval o env) = eval o env := by k_all) (hline : (apos.endLine == pos.line) = true := by k_all) :
  EvFeed C n nm ρ ow (.Call (.Attribute o "items" apos) [] [] pos) (.Tuple [.Name x px, .Name y py] kt pt) (l.map fun kv => [(y, kv.2), (x, .int kv.1)]) := by
 intro A Xo env oa s rm st ok
 refine wpAny_mono (view_call (T := "dict") (cls := "dict_items") F.slot_dict_items F.type_dict_items (fun A d s Q h1 h2 h3 => call_meetsIn F.slot_dict_items (let ⟨_, h⟩ := h2; h.typeIs) F.entry_dict_items (F.args_dict_items_1 _) (meets_dict_items (IK C) d h1) ⟨h2, h3⟩) ho rm st ok (hbase env) hline) (fun v s₁ ⟨st1, k1, d, w, e, hx, ⟨hsys, kvs, hd, r⟩, hw⟩ => ⟨st1, k1, ?_⟩) nof
 subst e
 obtain ⟨ep, hat⟩ := hd.1.dictAt
 have hlt := hat.lt_size
 have hco : ∃ o, s₁.heap.get? d = some o /\ Obj.cont o := by
  apply byc;intro kz
  obtain ⟨⟨o, es, ep, ho, _, hdd, _⟩, _⟩ := hd
  apply kz;clear kz
  exact ⟨o, ho, .inr (.inl ⟨es, ep, hdd⟩)⟩
 have hlen : kvs.length = l.length := by have := r.keys.2.length; simpa using this
 have hne : d ≠ s₁.heap.objs.size := Nat.ne_of_lt hlt
 generalize hI : s₁.heap.objs.size = I at hne
 have hIn : s₁.heap.get? I = none := hI ▸ Qbg
 refine wpAny_pyIter_items (⟨_, hw, rfl, rfl⟩ : s₁.heap.IsItemsView w d) hat ?_
 have st2 : St C { s₁ with heap := s₁.heap.push { cls := .type "dict_itemiterator", data := .fields #[.none, .bool false, .ref d, .int 0 0, .int kvs.length 0, .int ep 0, .none, .none] } } := st1.of_keep Qaa rfl rfl
 have hIN : C.h0.get? I = none := Qbb st1 hIn
 show _ /\ _
 rw [hI]
 refine ⟨st2, fun b o _ e => Qaa b o e, [I, d], [I], fun X i t => (∃ ok ov, IsItemIter t.heap I d i kvs.length ep ok ov) /\ t.heap.DictAt (IK C) d kvs ep /\ RelI C X t.heap l kvs, ?_, ⟨⟨.none, .none, ?_⟩, hat.push _, r.mono (fun _ _ _ e => e) fun _ _ _ _ e => Qaa _ _ e⟩, ?_⟩
 ·have wrs : ∀ X i (t : Shared), ((∃ ok ov, IsItemIter t.heap I d i kvs.length ep ok ov) /\ t.heap.DictAt (IK C) d kvs ep /\ RelI C X t.heap l kvs) -> ∀ b ∈ [I], IterAt t.heap b := by
   rintro X i t ⟨⟨ok, ov, h⟩, _⟩ b hb
   revert b; refine al ?_ an
   exact ⟨_, _, h, rfl, by simp, by simp⟩
  have frame : ∀ X Y i (t t' : Shared), ((∃ ok ov, IsItemIter t.heap I d i kvs.length ep ok ov) /\ t.heap.DictAt (IK C) d kvs ep /\ RelI C X t.heap l kvs) -> (∀ a o, t.heap.get? a = some o -> Y a -> X a) -> Cont X t.heap t'.heap -> (∀ b ∈ [I, d], ∀ o, t.heap.get? b = some o -> t'.heap.get? b = some o) ->
    ((∃ ok ov, IsItemIter t'.heap I d i kvs.length ep ok ov) /\ t'.heap.DictAt (IK C) d kvs ep /\ RelI C Y t'.heap l kvs) := by
   rintro X Y i t t' ⟨⟨ok, ov, h⟩, ⟨o, es, h2, h3⟩, h4⟩ hX hc hk
   exact ⟨⟨ok, ov, hk I (by simp) _ h⟩, ⟨o, es, hk d (by simp) _ h2, h3⟩, h4.mono hX hc⟩
  refine ⟨fun X => ⟨by simp, by simp [hIN], fun i t t' hJ hk hc => frame X X i t t' hJ (fun _ _ _ e => e) hc hk, wrs X, ?_, ?_⟩, frame, by simp [hIn], ?_⟩
  ·intro A n nm Xo env oa t ρ ow i b REST hb rm stt okt hX hfp hJ ht hR
   apply byc;intro kz
   obtain ⟨⟨ok, ov, hit⟩, hat', hr⟩ := hJ
   apply kz;clear kz
   have hi : i < l.length := by
    rcases Nat.lt_or_ge i l.length with h | h
    ·exact h
    ·rw [List.getElem?_eq_none (by simpa using h)] at hb; cases hb
   have hki : kvs[i]? = some (kvs[i].1, kvs[i].2) := by simp [hlen ▸ hi]
   have hki' : i < kvs.length := hlen ▸ hi
   obtain ⟨rk, rl⟩ := hr.keys
   have e0 : l[i]? = some (l[i].1, l[i].2) := by simp [hi]
   rw [List.getElem?_map, e0] at hb
   simp only [Option.map_some, Option.some.injEq] at hb
   subst hb
   have hkey : kvs[i].1 = l[i].1 := by
    have := congrArg (·[i]?) rk
    simpa [hi, hki'] using this
   obtain ⟨v', hv1, rv⟩ := rl.get (i := i) (d := l[i].2) (by simp [hi])
   have hv2 : kvs[i].2 = v' := by simpa [hki'] using hv1
   subst hX
   refine wpAny_pyNext_items_item hit hat' hki fun key h' hkk hit' htup hsz hk => ⟨_, rfl, ?_⟩
   have hJt := wrs (XS Xo env oa) i t ⟨⟨ok, ov, hit⟩, hat', hr⟩
   have hk' : ∀ b o, b ∉ [I] -> t.heap.get? b = some o -> h'.get? b = some o := fun b o hb e => hk b o (fun q => hb (by simp [q])) e
   have stt1 : St C { t with heap := h' } := stt.but_wr (tk := t.toks) (by simp [hIN]) hJt hk'
   refine wpAny_letOwnedTupleGo_items hit' fun h2 hit2 hs2 => ?_
   have hk2 : ∀ b o, b ∉ [I] -> t.heap.get? b = some o -> h2.get? b = some o := fun b o hb e => (hs2.2 b (fun q => hb (by simp [q]))).trans (hk' b o hb e)
   have stt2 : St C { t with heap := h2 } := stt.but_wr (tk := t.toks) (by simp [hIN]) hJt hk2
   have rs2 : Rest t { t with heap := h2 } := .but_wr (tk := t.toks) hJt hk2
   have htn : t.heap.objs.size ≠ I := fun q => by
    have := Heap.lt_size hit
    rw [q] at this
    exact Nat.lt_irrefl _ this
   have htup2 : h2.get? t.heap.objs.size = some { cls := .type "tuple", data := .seq #[key, kvs[i].2] } := (hs2.2 _ htn).trans htup
   have it : Heap.IsTuple h2 t.heap.objs.size #[key, kvs[i].2] := ⟨_, htup2, rfl, _, rfl⟩
   refine wpAny_assign_Tuple rm.handled it rfl rfl fun h₃ hx3 => ?_
   have k3 : ∀ b o, h2.get? b = some o -> h₃.get? b = some o := fun b o e => hx3 b o (Nat.ne_of_lt (Heap.lt_size e)) e
   have st3 : St C { t with heap := h₃ } := stt2.of_keep (s' := { t with heap := h₃ }) k3 rfl rfl
   have rs3 : Rest t { t with heap := h₃ } := rs2.trans ⟨fun b o _ e => k3 b o e, fun b o _ _ e => k3 b o e⟩
   have rv3 : Rel C (XS Xo env oa) h₃ l[i].2 kvs[i].2 := by rw [hv2]; exact rs3.rel rv
   have rk3 : Rel C (XS Xo env oa) h₃ (.int l[i].1) key := by
    obtain ⟨tk, rfl⟩ := Value.isInt_shape (hkk : Value.isInt kvs[i].1 key = true)
    rw [hkey]; exact Qbr
   obtain ⟨hx1, hwx⟩ := ht (x, .int l[i].1) (by simp)
   obtain ⟨hy1, hwy⟩ := ht (y, l[i].2) (by simp)
   show wpAny (Mo C) A (assignInOrder [assign (.Name x px) env, assign (.Name y py) env] [key, kvs[i].2]) _ _ _
   refine wpAny_bind (wpAny_holding (wpAny_assign_Name (store (okt.rest rs3) st3 hx1 rk3 hwx fun s₃ st3' fr3 ok3 => ?_)))
   have hc3 : Cont (XS Xo env oa) h₃ s₃.heap := fun b o hb hco e => by
    refine fr3 b o (fun q => hb (.inr (.inl q))) (fun q => ?_) e
    obtain ⟨v', e1, e2⟩ := (okt.rest rs3).cellAt x b q
    exact e2 o e hco
   refine wpAny_bind (wpAny_holding (wpAny_assign_Name (store ok3 st3' hy1 (rv3.mono (fun _ _ _ e => e) hc3) hwy fun s₄ st4 fr4 ok4 => ?_)))
   refine wpAny_pure ?_
   have fr : ∀ b o, b ≠ env.locals -> (∀ p ∈ [(y, l[i].2), (x, PV.int l[i].1)], env.cells.lookup p.1 ≠ some b) -> h₃.get? b = some o -> s₄.heap.get? b = some o := fun b o h1 h2 e => fr4 b o h1 (h2 (y, _) (by simp)) (fr3 b o h1 (h2 (x, _) (by simp)) e)
   refine hR s₄ st4 (fun b o h2' h3 h4 e => fr b o h2' h3 (k3 b o (hk2 b o h4 e))) ok4 ⟨⟨key, kvs[i].2, ?_⟩, ?_, ?_⟩
   ·exact fr I _ (hfp I (by simp)).1 (hfp I (by simp)).2 (k3 _ _ hit2)
   ·apply byc;intro kz
    obtain ⟨o, es, h1, h2'⟩ := hat'
    apply kz;clear kz
    exact ⟨o, es, fr d _ (hfp d (by simp)).1 (hfp d (by simp)).2 (k3 _ _ (hk2 d o (by simp [hne]) h1)), h2'⟩
   ·refine (hr.mono (fun _ _ _ e => e) fun b o hb hco e => ?_)
    refine fr b o (fun q => hb (.inr (.inl q))) (fun z hz q => ?_) (rs3.cont b o hco e)
    obtain ⟨v', e1, e2⟩ := okt.cellAt z.1 b q
    exact e2 o e hco
  ·intro A n t REST rm stt hJ hR
   apply byc;intro kz
   obtain ⟨⟨ok, ov, hit⟩, hat', hr⟩ := hJ
   apply kz;clear kz
   have hJt := wrs X _ t ⟨⟨ok, ov, hit⟩, hat', hr⟩
   refine wpAny_pyNext_items_end rm.handled hit hat' (by simp [hlen]) fun h' he => ⟨rfl, ?_⟩
   have hk : ∀ b o, b ∉ [I] -> t.heap.get? b = some o -> h'.get? b = some o := fun b o hb e => he b o (fun q => hb (by simp [q])) e
   exact hR _ (stt.but_wr (tk := t.toks) (by simp [hIN]) hJt hk) hk
  ·intro b hb
   revert b; refine al ?_ (al ?_ an)
   ·exact .inl hIn
   ·exact .inr ⟨hx, hco⟩
 ·subst hI; exact Heap.get?_push_size _ rfl
 ·intro b hb
  revert b; refine al ?_ (al ?_ an)
  ·subst hI; exact ⟨_, Heap.get?_push_size _ rfl⟩
  ·exact hco.imp fun o h => Qaa _ _ h.1
end
section
set_option tactic.hygienic false
theorem walksInN {prog : Program} {w : World} {A : Around} {I : Addr} {fp wr : List Addr} {n : Nat} {P : Nat -> Value -> Prop} {St : Nat -> Heap -> Prop} (W : Walks prog w A I fp wr n P St) : Walks prog w A I fp wr n (fun i v => P i v /\ i < n) St where
 sub := W.sub
 frame := W.frame
 item := fun i s Q E hi st hQ => W.item i s Q E hi st fun v h' tk hp hs hk => hQ v h' tk ⟨hp, hi⟩ hs hk
 done := W.done
 self := W.self
theorem itr_end {ds : List PV} {F : Addr -> Prop} {I : Addr} {fp wr : List Addr} {P : Nat -> Value -> Prop} {Stt : Nat -> Heap -> Prop} {V : (Addr -> Prop) -> Heap -> Prop} {s₂ : Shared} {h' : Heap} {tk : Nat} {i : Nat}
  (st : St C s) (st2 : St C s₂) (k2 : Kp C s s₂) (D : ItrD C s ds F I fp wr P Stt V) (hS : Stt i s₂.heap) (hk : ∀ b o, b ∉ wr -> s₂.heap.get? b = some o -> h'.get? b = some o) (hp : 0 < tk) :
  St C { s₂ with heap := h', toks := tk } /\ Kp C s { s₂ with heap := h', toks := tk } :=
 ⟨st2.but_wr (fun b hb => Qbb st (D.wrN b hb)) (D.iter i _ hS) hk hp, fun b o h e => hk b o (fun q => by rw [D.wrN b q] at e; cases e) (k2 b o h e)⟩
theorem preSum_list (l : List Int) : preSum (fun i => l[i]?.getD 0) l.length = l.sum := by
 have : (fun i => l[i]?.getD 0) = fun i => l.getD i 0 := by funext i; simp [List.getD]
 rw [this, preSum_getD, List.take_length]
theorem Qgb {l : List Int} {F : Addr -> Prop} {I : Addr} {fp wr : List Addr} {P : Nat -> Value -> Prop} {Stt : Nat -> Heap -> Prop} {V : (Addr -> Prop) -> Heap -> Prop} {h : Heap} (D : ItrD C s (l.map .int) F I fp wr P Stt V) (hV : V X h) :
  ∀ i v, (P i v /\ i < (l.map PV.int).length) -> ∃ t, v = .int (l[i]?.getD 0) t := by
 rintro i v ⟨hP, hi⟩
 obtain ⟨d, e, r⟩ := D.val X h i v hV hP hi
 rw [List.getElem?_map] at e
 cases q : l[i]? with
 | none => rw [q] at e; cases e
 | some k => rw [q] at e; cases e; exact r
theorem sum_it {l : List Int} {v : Value} {F : Addr -> Prop} (st : St C s) (h : ∀ A : Around, wpAny (Mo C) A (pyIter v) (PostIt C X s (l.map .int) F) NoE s) (hh : A.handled = none) : wpAny (Mo C) A (call (.builtin "sum") [v]) (Post C X s (.int l.sum)) NoE s := by
 refine Qbj st.pos (call_sum_walkG (wpAny_mono (h A.in1) (fun it s₂ ⟨st2, k2, I, fp, wr, P, Stt, V, e, D, hS, hV, hlt⟩ => ?_) nof))
 refine ⟨I, fp, wr, _, _, Stt, fun i => l[i]?.getD 0, e, (walksInN (D.W A.in1 hh)), hS, fun b hb => (hlt b hb).elim fun o e => Heap.lt_size e, Qgb D hV, fun h' tk t' hk hp => ?_⟩
 obtain ⟨st3, k3⟩ := itr_end st st2 k2 D hS hk hp
 refine ⟨st3, k3, ?_⟩
 rw [List.length_map, preSum_list]
 exact Qbr
theorem opT_sum {l : List Int} : OpT C n (.builtin "sum") (.lst (l.map .int)) (.int l.sum) := fun A X s a rm st lo t => sum_it st (fun A => iter_lst (F := fun _ => True) st t trivial) rm.handled
theorem opF_sum {l : List Int} : OpF C n (.builtin "sum") [.lst (l.map .int)] (.int l.sum) := by
 intro A X s vs rm st lo r
 obtain ⟨v, _, rfl, r, rfl⟩ := r
 exact sum_it st (fun A => Qga st r rfl) rm.handled
theorem max_it {l : List Int} {v : Value} {F : Addr -> Prop} {m : Int} (st : St C s) (h : ∀ A : Around, wpAny (Mo C) A (pyIter v) (PostIt C X s (l.map .int) F) NoE s) (hh : A.handled = none) (hm : m ∈ l) (hle : ∀ x ∈ l, x <= m) :
  wpAny (Mo C) A (call (.builtin "max") [v]) (Post C X s (.int m)) NoE s := by
 refine Qbj st.pos (call_max_walk (wpAny_mono (h A.in1) (fun it s₂ ⟨st2, k2, I, fp, wr, P, Stt, V, e, D, hS, hV, hlt⟩ => ?_) nof))
 have hl : 0 < l.length := List.length_pos_of_mem hm
 refine ⟨I, fp, wr, _, _, Stt, _, e, (walksInN (D.W A.in1 hh)), hS, fun b hb => (hlt b hb).elim fun o e => Heap.lt_size e, by simpa using hl, CmpOf.ints_gt (fun i => l[i]?.getD 0) (Qgb D hV), fun v h' tk hP hk hp => ?_⟩
 obtain ⟨st3, k3⟩ := itr_end st st2 k2 D hS hk hp
 refine ⟨st3, k3, ?_⟩
 obtain ⟨t, rfl⟩ := Qgb D hV _ _ hP
 have hb := argBest_gt (fun i => l[i]?.getD 0) ((l.map PV.int).length - 1)
 generalize argBest _ _ = j at hb hP
 obtain ⟨b1, b2⟩ := hb
 have hj : j < l.length := by simpa using hP.2
 have : l[j]?.getD 0 = m := by
  apply Int.le_antisymm
  ·exact hle _ (by simp [hj])
  ·obtain ⟨i, hi, e⟩ := List.mem_iff_getElem.mp hm
   have := b2 i (by simp; lia)
   simpa [hi, e] using this
 rw [this]; exact Qbr
theorem min_it {l : List Int} {v : Value} {F : Addr -> Prop} {m : Int} (st : St C s) (h : ∀ A : Around, wpAny (Mo C) A (pyIter v) (PostIt C X s (l.map .int) F) NoE s) (hh : A.handled = none) (hm : m ∈ l) (hle : ∀ x ∈ l, m <= x) :
  wpAny (Mo C) A (call (.builtin "min") [v]) (Post C X s (.int m)) NoE s := by
 refine Qbj st.pos (call_min_walk (wpAny_mono (h A.in1) (fun it s₂ ⟨st2, k2, I, fp, wr, P, Stt, V, e, D, hS, hV, hlt⟩ => ?_) nof))
 have hl : 0 < l.length := List.length_pos_of_mem hm
 refine ⟨I, fp, wr, _, _, Stt, _, e, (walksInN (D.W A.in1 hh)), hS, fun b hb => (hlt b hb).elim fun o e => Heap.lt_size e, by simpa using hl, CmpOf.ints_lt (fun i => l[i]?.getD 0) (Qgb D hV), fun v h' tk hP hk hp => ?_⟩
 obtain ⟨st3, k3⟩ := itr_end st st2 k2 D hS hk hp
 refine ⟨st3, k3, ?_⟩
 obtain ⟨t, rfl⟩ := Qgb D hV _ _ hP
 have hb := argBest_lt (fun i => l[i]?.getD 0) ((l.map PV.int).length - 1)
 generalize argBest _ _ = j at hb hP
 obtain ⟨b1, b2⟩ := hb
 have hj : j < l.length := by simpa using hP.2
 have : l[j]?.getD 0 = m := by
  apply Int.le_antisymm
  ·obtain ⟨i, hi, e⟩ := List.mem_iff_getElem.mp hm
   have := b2 i (by simp; lia)
   simpa [hi, e] using this
  ·exact hle _ (by simp [hj])
 rw [this]; exact Qbr
theorem opF_max {l : List Int} {m : Int} (hm : m ∈ l) (hle : ∀ x ∈ l, x <= m) : OpF C n (.builtin "max") [.lst (l.map .int)] (.int m) := by
 intro A X s vs rm st lo r
 obtain ⟨v, _, rfl, r, rfl⟩ := r
 exact max_it st (fun A => Qga st r rfl) rm.handled hm hle
theorem opF_min {l : List Int} {m : Int} (hm : m ∈ l) (hle : ∀ x ∈ l, m <= x) : OpF C n (.builtin "min") [.lst (l.map .int)] (.int m) := by
 intro A X s vs rm st lo r
 obtain ⟨v, _, rfl, r, rfl⟩ := r
 exact min_it st (fun A => Qga st r rfl) rm.handled hm hle
theorem opF_two {id : String} {a b m : Int} (h : ∀ (A : Around) (s : Shared) (va vb : Value) (X : Addr -> Prop), A.handled = none -> St C s -> LowX X s.heap -> Rel C X s.heap (.int a) va -> Rel C X s.heap (.int b) vb -> wpAny (Mo C) A (call (.builtin id) [va, vb]) (Post C X s (.int m)) NoE s) :
  OpF C n (.builtin id) [.int a, .int b] (.int m) := by
 intro A X s vs rm st lo r
 obtain ⟨v, _, rfl, r1, v2, _, rfl, r2, rfl⟩ := r
 exact h A s v v2 X rm.handled st lo r1 r2
theorem opF_max2 {a b : Int} : OpF C n (.builtin "max") [.int a, .int b] (.int (max a b)) := opF_two fun A s va vb X hh st lo r1 r2 => by
 have lo' : LowX X (s.heap.push (Qay "tuple" [va, vb] 0)) := fun a q => let ⟨o, ho, hc⟩ := lo a q; ⟨o, Qaa _ _ ho, hc⟩
 have st' : St C { s with heap := s.heap.push (Qay "tuple" [va, vb] 0) } := st.of_keep Qaa rfl rfl
 have rt := new_tup lo (Qbc r1 (Qbc r2 Qbw))
 have it : ∀ A : Around, wpAny (Mo C) A (pyIter (.ref s.heap.objs.size)) (PostIt C X { s with heap := s.heap.push (Qay "tuple" [va, vb] 0) } ([a, b].map .int) fun b => ¬ X b) NoE { s with heap := s.heap.push (Qay "tuple" [va, vb] 0) } :=
  fun A => Qga st' rt rfl
 refine Qbj st.pos (call_max_two (wpAny_mono (it A.in1) (fun it s₂ ⟨st2, k2, I, fp, wr, P, Stt, V, e, D, hS, hV, hlt⟩ => ?_) nof))
 refine ⟨I, fp, wr, _, _, Stt, _, e, (walksInN (D.W A.in1 hh)), hS, fun b hb => (hlt b hb).elim fun o e => Heap.lt_size e, by simp, CmpOf.ints_gt (fun i => [a, b][i]?.getD 0) (Qgb D hV), fun v h' tk hP hk hp => ?_⟩
 obtain ⟨st3, k3⟩ := itr_end st' st2 k2 D hS hk hp
 refine ⟨st3, fun b o h e => k3 b o h (Qaa b o e), ?_⟩
 obtain ⟨t, rfl⟩ := Qgb D hV _ _ hP
 have : [a, b][argBest (fun i j => decide ([a, b][i]?.getD 0 > [a, b][j]?.getD 0)) (([a, b].map PV.int).length - 1)]?.getD 0 = max a b := by
  simp only [List.map_cons, List.map_nil, List.length_cons, List.length_nil, Nat.add_one_sub_one, argBest]
  by_cases h : b > a
  ·simp [h]; lia
  ·simp [h]; lia
 rw [this]; exact Qbr
theorem opF_len_lst {l : List PV} (hsz : l.length <= sizeLine) : OpF C n (.builtin "len") [.lst l] (.int l.length) := by
 intro A X s vs rm st lo r
 obtain ⟨v, _, rfl, ⟨a, us, m, rfl, _, e, rl⟩, rfl⟩ := r
 have il : s.heap.IsList a us.toArray := ⟨_, e, rfl, _, rfl⟩
 have h2 : us.toArray.size = l.length := by simp [rl.length]
 refine Calls.call_len_list il (by
  rw [h2]
  have : sizeLine < 2 ^ 62 := by unfold sizeLine; lia
  lia) ?_
 rw [h2]
 exact Qcd st Qbr
theorem opF_len_str {x : Str} (hsz : x.length <= sizeLine) : OpF C n (.builtin "len") [.str x] (.int x.length) := by
 intro A X s vs rm st lo r
 obtain ⟨v, _, rfl, ⟨t, rfl⟩, rfl⟩ := r
 exact len_str (by
  have : sizeLine < 2 ^ 62 := by unfold sizeLine; lia
  lia) (Qcd st Qbr)
theorem opF_range1 {b : Int} : OpF C n (.type "range") [.int b] (.rng 0 b 1) := by
 intro A X s vs rm st lo r
 obtain ⟨v, _, rfl, ⟨t, rfl⟩, rfl⟩ := r
 refine call_range_1 (Qdd st Qaa ?_)
 exact ⟨_, _, _, _, rfl, lo.fresh, Heap.get?_push_size _ rfl⟩
theorem opF_range2 {a b : Int} : OpF C n (.type "range") [.int a, .int b] (.rng a b 1) := by
 intro A X s vs rm st lo r
 obtain ⟨v, _, rfl, ⟨t, rfl⟩, v2, _, rfl, ⟨t2, rfl⟩, rfl⟩ := r
 refine call_range_2 (Qdd st Qaa ?_)
 exact ⟨_, _, _, _, rfl, lo.fresh, Heap.get?_push_size _ rfl⟩
theorem opF_list_dct {l : List (Int × PV)} (hsz : l.length <= sizeLine) : OpF C n (.type "list") [.dctI l] (.lst (l.map fun kv => .int kv.1)) := by
 intro A X s vs rm st lo r
 obtain ⟨v, _, rfl, ⟨d, kvs, rfl, ⟨hx, hsys⟩, hd, r⟩, rfl⟩ := r
 obtain ⟨ep, hat⟩ := hd.1.dictAt
 have hlen : kvs.length = l.length := by have := r.keys.2.length; simpa using this
 refine Qbj st.pos (kdl_call (kdl_dict (knd := IK C) (kvs := kvs) (ep := ep) (by simpa using hsys)) rm.handled hat (by rw [hlen]; exact hsz) fun h' tk acc' c' hk hD hacc hp => ?_)
 refine Qdd st hk ?_ hp
 refine ⟨_, acc'.toList, c', rfl, lo.fresh, by simpa using hD, ?_⟩
 have hl : acc'.toList.length = l.length := by rw [Array.length_toList, hacc.1, hlen]
 refine RelL.of_get (by simpa using hl) fun i dv v e1 e2 => ?_
 rw [Array.getElem?_toList] at e2
 obtain ⟨k, x, hkx, hkk⟩ := hacc.2 i v e2
 have e3 := congrArg (·[i]?) r.keys.1
 simp only [List.getElem?_map, hkx, Option.map_some] at e3
 rw [List.getElem?_map] at e1
 cases q : l[i]? with
 | none => rw [q] at e1; cases e1
 | some kv =>
  rw [q] at e1 e3
  simp only [Option.map_some, Option.some.injEq] at e1 e3
  subst e1
  obtain ⟨t, rfl⟩ := Value.isInt_shape (hkk : Value.isInt k v = true)
  rw [e3]; exact Qbr
theorem relL_strs {h : Heap} : ∀ {l : List Str} {vs : List Value}, RelL C X h (l.map .str) vs -> StrsAre vs l
 | [], _, r => by subst r; exact .nil
 | x :: l, _, r => by
  obtain ⟨v, vs, rfl, ⟨t, rfl⟩, r⟩ := r
  exact .cons x t (relL_strs r)
theorem relL_of_strs {h : Heap} : ∀ {l : List (Str × Tok)}, RelL C X h (l.map fun p => .str p.1) (strValues l)
 | [] => Qbw
 | p :: l => Qbc Qdy (relL_of_strs (l := l))
theorem opF_join {x : Str} {l : List Str} (hok : (l.map (·.length)).sum + l.length * x.length <= 16777216) : OpF C n (.builtin "str.join") [.str x, .lst (l.map .str)] (.str (Txt.join x l)) := by
 intro A X s vs rm st lo r
 obtain ⟨v, _, rfl, ⟨t, rfl⟩, v2, _, rfl, ⟨a, us, m, rfl, _, e, rl⟩, rfl⟩ := r
 have il : s.heap.IsList a us.toArray := ⟨_, e, rfl, _, rfl⟩
 exact Qbj st.pos (join_list il (by simpa using relL_strs rl) hok fun t' k hp => Qcd st Qdy hp)
theorem opF_split {x y : Str} (hy : (y.length == 0) = false) (hsz : x.length <= sizeLine) (hsz2 : (Builtin.Str.partsBetween x (Builtin.Str.occurrences x y 0 x.length (x.length + 1)) y.length).length <= sizeLine) : OpF C n (.builtin "str.split") [.str x, .str y] (.lst ((Txt.split x y).map .str)) := by
 intro A X s vs rm st lo r
 obtain ⟨v, _, rfl, ⟨t, rfl⟩, v2, _, rfl, ⟨u, rfl⟩, rfl⟩ := r
 have fin : ∀ (l : List (Str × Tok)) (tk : Nat), l.map (·.1) = Txt.split x y -> 0 < tk -> Post C X s (.lst ((Txt.split x y).map .str)) (.ref s.heap.objs.size) { s with heap := s.heap.push { cls := .type "list", data := .seq (strValues l).toArray }, toks := tk } := fun l tk hl hp => by
  refine Qdd st Qaa ?_ hp
  refine ⟨_, strValues l, 0, rfl, lo.fresh, Heap.get?_push_size _ rfl, ?_⟩
  rw [← hl, List.map_map]
  exact relL_of_strs
 refine Qbj st.pos ?_
 cases h1 : (decide (x.length < y.length) || decide (Builtin.Str.strKind x < Builtin.Str.strKind y))
 ·cases hf : (Builtin.Str.occurrences x y 0 x.length (x.length + 1)).isEmpty
  ·refine call_meets F.slot_str_split (typeIs_str _ _ _) F.entry_str_split (F.args_str_split_2 _ _) (meets_str_split_sep x y t u h1 hy hf hsz hsz2) ?_
   show wants _ NoE _ { s with toks := _, heap := s.heap.push { cls := .type "list", data := .seq (strsFrom s.toks (Builtin.Str.partsBetween x (Builtin.Str.occurrences x y 0 x.length (x.length + 1)) y.length)).toArray } }
   rw [strsFrom_eq]
   exact fun hp => fin (numbered s.toks _) _ ((numbered_texts _ _).trans ((if_neg (ne_true_of_eq_false h1)).trans (if_neg (ne_true_of_eq_false hf))).symm) hp
  ·exact call_meets F.slot_str_split (typeIs_str _ _ _) F.entry_str_split (F.args_str_split_2 _ _) (meets_str_split_not_found x y t u h1 hy hf)
    (fun hp => fin [(x, t)] _ ((if_neg (ne_true_of_eq_false h1)).trans (if_pos hf)).symm hp)
 ·exact call_meets F.slot_str_split (typeIs_str _ _ _) F.entry_str_split (F.args_str_split_2 _ _) (meets_str_split_cannot_occur x y t u h1)
   (fun hp => fin [(x, t)] _ (if_pos h1).symm hp)
theorem opF_ord {c : Nat} : OpF C n (.builtin "ord") [.str ⟨#[c]⟩] (.int c) := by
 intro A X s vs rm st lo r
 obtain ⟨v, _, rfl, ⟨t, rfl⟩, rfl⟩ := r
 exact P.ord_of_char (Qcd st Qbr)
theorem Qci {h : Heap} : ∀ {l : List Int} {vs : List Value}, RelL C X h (l.map .int) vs -> IntsAre vs l
 | [], _, r => by subst r; exact .nil
 | x :: l, _, r => by
  obtain ⟨v, vs, rfl, ⟨t, rfl⟩, r⟩ := r
  exact .cons x t (Qci r)
theorem opF_bytes {l : List Int} (hr : ∀ n ∈ l, 0 <= n /\ n < 256) (hz : l.length <= sizeLine) : OpF C n (.type "bytes") [.lst (l.map .int)] (.bytes (byteArr l)) := by
 intro A X s vs rm st lo r
 obtain ⟨v, _, rfl, ⟨a, us, m, rfl, _, e, rl⟩, rfl⟩ := r
 have il : s.heap.IsList a us.toArray := ⟨_, e, rfl, _, rfl⟩
 exact Qbj st.pos (call_bytes_ints il (Qci rl) hr (by have := rl.length; simp at this; lia) rm.handled fun h' t k hk hp => Qdd st hk rel_bytes hp)
theorem opF_isinst_int {i : Int} : OpF C n (.builtin "isinstance") [.int i, .raw (.type "tuple")] (.bool false) := by
 intro A X s vs rm st lo r
 obtain ⟨v, _, rfl, ⟨t, rfl⟩, v2, _, rfl, rfl, rfl⟩ := r
 exact call_isinstance (isinstance_false_int (T := "tuple") (by decide +kernel) (by show typeOf _ = _; kernel_rfl) (by rw [isSubtype_type]; kernel_rfl)) (Qcd st Qbv)
theorem opF_isinst_tup {l : List PV} : OpF C n (.builtin "isinstance") [.tup l, .raw (.type "tuple")] (.bool true) := by
 intro A X s vs rm st lo r
 obtain ⟨v, _, rfl, ⟨a, us, m, rfl, _, e, rl⟩, v2, _, rfl, rfl, rfl⟩ := r
 exact call_isinstance_yes (T := "tuple") (Tx := "tuple") ⟨_, e, rfl⟩ (by show typeOf _ = _; kernel_rfl) (by rw [isSubtype_type]; kernel_rfl) ⟨st, Kp.refl, Qbv⟩
theorem opF_count {l : List Int} {k : Int} (hz : l.length <= sizeLine) : OpF C n (.builtin "list.count") [.lst (l.map .int), .int k] (.int (l.countP (· == k) : Nat)) := by
 intro A X s vs rm st lo r
 obtain ⟨v, _, rfl, ⟨a, us, m, rfl, _, e, rl⟩, v2, _, rfl, ⟨t, rfl⟩, rfl⟩ := r
 have hi := Qci rl
 refine call_meets F.slot_list_count (T := "list") ⟨_, e, rfl⟩ F.entry_list_count (F.args_list_count_2 _ _) (PySem.SeqAt.list_countAt a us.toArray m none #[] (.int k t) fun v => Value.isInt k v) ⟨e, ?_, ?_⟩
 ·intro y hy
  have hy' : y ∈ us := by simpa using hy
  obtain ⟨i, u, rfl⟩ : ∃ i u, y = .int i u := by
   clear e hy
   induction hi with
   | nil => cases hy'
   | cons a t r ih =>
    cases hy' with
    | head => exact ⟨_, _, rfl⟩
    | tail _ h => exact ih (by simp only [List.length_cons] at hz; lia) (by obtain ⟨_, _, e, _, r⟩ := rl; cases e; exact r) h
  exact SeqAt.EqAt.int_int i u k t
 ·have : us.countP (fun v => Value.isInt k v) = l.countP (· == k) := by
   clear e rl hz
   induction hi with
   | nil => rfl
   | cons a t r ih => rw [List.countP_cons, List.countP_cons, ih]; rfl
  simp only [this]
  exact Qcd st Qbr
end
section
set_option tactic.hygienic false
theorem Room.u64 {A : Around} (x : Room A n) (h : 4 <= n) : A.units + 64 < cLine := by have := x.units; lia
theorem Room.u65 {A : Around} (x : Room A n) (h : 4 <= n) : A.in1.units + 64 < cLine := by have := x.units; show A.units + 1 + 64 < _; lia
theorem opc_eq_ints {l m : List Int} (hn : 4 <= n) : OpC C n .Eq (.lst (l.map .int)) (.lst (m.map .int)) (decide (l = m)) := by
 intro A X s v1 v2 rm st lo r1 r2
 apply byc;intro kz
 obtain ⟨a, us, k, rfl, _, e, rl⟩ := r1
 obtain ⟨b, ws, k2, rfl, _, e2, rl2⟩ := r2
 apply kz;clear kz
 exact ke_eq_ints ⟨_, e, rfl, _, rfl⟩ ⟨_, e2, rfl, _, rfl⟩ (Qci rl) (Qci rl2) (rm.u64 hn) ⟨st, Kp.refl, Qbv⟩
theorem Qdz {l m : List Int} (hn : 4 <= n) : OpC C n .NotEq (.lst (l.map .int)) (.lst (m.map .int)) (!decide (l = m)) := by
 intro A X s v1 v2 rm st lo r1 r2
 apply byc;intro kz
 obtain ⟨a, us, k, rfl, _, e, rl⟩ := r1
 obtain ⟨b, ws, k2, rfl, _, e2, rl2⟩ := r2
 apply kz;clear kz
 exact ke_ne_ints ⟨_, e, rfl, _, rfl⟩ ⟨_, e2, rfl, _, rfl⟩ (Qci rl) (Qci rl2) (rm.u64 hn) ⟨st, Kp.refl, Qbv⟩
theorem opc_ne_bytes {b c : Array UInt8} : OpC C n .NotEq (.bytes b) (.bytes c) (b.toList != c.toList) := by
 intro A X s v1 v2 rm st lo r1 r2
 apply byc;intro kz
 obtain ⟨t, rfl⟩ := r1
 obtain ⟨u, rfl⟩ := r2
 apply kz;clear kz
 exact ne_bytes ⟨st, Kp.refl, Qbv⟩
noncomputable def Simple : PV -> Prop
 | .int _ => True
 | .tup l => ∃ ns : List Int, l = ns.map .int
 | _ => False
theorem eqAt_simple {d : PV} {v y : Value} (hs : Simple d) (rm : Room A n) (hn : 4 <= n) (r1 : Rel C X s.heap d v) (r2 : Rel C X s.heap d y) : SeqAt.EqAt A.in1 s v y true := by
 cases d with
 | int i =>
  apply byc;intro kz
  obtain ⟨t, rfl⟩ := r1
  obtain ⟨u, rfl⟩ := r2
  apply kz;clear kz
  have := SeqAt.EqAt.int_int (A := A.in1) (s := s) i t i u
  rwa [beq_self_eq_true] at this
 | tup l =>
  apply byc;intro kz
  obtain ⟨ns, rfl⟩ := hs
  obtain ⟨a, us, k, rfl, _, e, rl⟩ := r1
  obtain ⟨b, ws, k2, rfl, _, e2, rl2⟩ := r2
  apply kz;clear kz
  have ra : Reads s.heap (.ref a) (.tuple (ns.map PyData.int)) [] := Reads.tuple e rfl rfl (by simpa using readsAll_of_ints (Qci rl))
  have rb : Reads s.heap (.ref b) (.tuple (ns.map PyData.int)) [] := Reads.tuple e2 rfl rfl (by simpa using readsAll_of_ints (Qci rl2))
  have sh : SeqAt.shaped (.tuple (ns.map PyData.int)) = true := by simp [SeqAt.shaped, PyData.canLay0, PyData.depth, ke_canLayAll0, ke_depthAll]
  have x := keq_at ra rb sh sh (rm.u65 hn)
  have e : PyData.eqv (.tuple (ns.map PyData.int)) (.tuple (ns.map PyData.int)) = true := by
   rw [← SeqAt.same_eq_eqv _ _ (by simp only [SeqAt.noMix]; exact noMix_ints ns ns)]
   simp only [PySem.Spec.same]
   rw [same_ints]
   simp
  rw [e] at x
  exact x
 | _ => exact hs.elim
theorem dget_mem {K β : Type} [DecidableEq K] {l : List (K × β)} {k : K} {v : β} (hn : (l.map (·.1)).Nodup) (hm : (k, v) ∈ l) : Qcm l k = some v := by
 induction l with
 | nil => cases hm
 | cons p l ih =>
  obtain ⟨k', v'⟩ := p
  simp only [List.map_cons, List.nodup_cons] at hn
  unfold Qcm
  rw [List.find?_cons]
  cases hm with
  | head => simp
  | tail _ h =>
   have : k' ≠ k := fun q => hn.1 (q ▸ List.mem_map.mpr ⟨(k, v), h, rfl⟩)
   simp only [this, decide_false]
   exact ih hn.2 h
theorem hits_same {l l' : List (Int × PV)} {kb : List (Int × Value)} (hs : ∀ p ∈ l, Simple p.2) (hn : (l.map (·.1)).Nodup) (rm : Room A n) (h4 : 4 <= n) (rb : RelKv C X s.heap l kb) :
  ∀ {ka : List (Int × Value)}, RelKv C X s.heap l' ka -> (∀ p ∈ l', p ∈ l) -> KeqHits A.in1 s kb ka true := by
 induction l' with
 | nil => intro ka ra _; rw [ra.unnil]; exact .nil
 | cons p l' ih =>
  intro ka ra hm
  apply byc;intro kz
  obtain ⟨k, d⟩ := p
  obtain ⟨v, ka', rfl, r1, r2⟩ := ra.uncons
  obtain ⟨y, hy, ry⟩ := rb.get (dget_mem hn (hm (k, d) (by simp)))
  apply kz;clear kz
  have := KeqHits.hit hy (eqAt_simple (hs (k, d) (hm (k, d) (by simp))) rm h4 r1 ry) (ih r2 fun q hq => hm q (List.mem_cons_of_mem _ hq))
  simpa using this
theorem opc_ne_dct {l : List (Int × PV)} (hs : ∀ p ∈ l, Simple p.2) (hn : (l.map (·.1)).Nodup) (h4 : 4 <= n) : OpC C n .NotEq (.dctI l) (.dctI l) false := by
 intro A X s v1 v2 rm st lo r1 r2
 apply byc;intro kz
 obtain ⟨a, ka, rfl, ⟨_, ha⟩, da, ra⟩ := r1
 obtain ⟨b, kb, rfl, ⟨_, hb⟩, db, rb⟩ := r2
 apply kz;clear kz
 refine keq_ne (knd := IK C) (by simpa using ha) (by simpa using hb) da.1 db.1 (by have := rm.u64 h4; lia) (fun _ => hits_same hs hn rm h4 rb.kv ra.kv fun _ h => h) ?_
 have e : ka.length = kb.length := by rw [ra.kv.length, rb.kv.length]
 rw [e]
 simp only [beq_self_eq_true, Bool.and_self, Bool.not_true]
 exact ⟨st, Kp.refl, Qbv⟩
theorem opc_eq_tup {ns : List Int} (h4 : 4 <= n) : OpC C n .Eq (.tup (ns.map .int)) (.tup (ns.map .int)) true := by
 intro A X s v1 v2 rm st lo r1 r2
 apply byc;intro kz
 obtain ⟨a, us, k, rfl, _, e, rl⟩ := r1
 obtain ⟨b, ws, k2, rfl, _, e2, rl2⟩ := r2
 apply kz;clear kz
 have ra : Reads s.heap (.ref a) (.tuple (ns.map PyData.int)) [] := Reads.tuple e rfl rfl (by simpa using readsAll_of_ints (Qci rl))
 have rb : Reads s.heap (.ref b) (.tuple (ns.map PyData.int)) [] := Reads.tuple e2 rfl rfl (by simpa using readsAll_of_ints (Qci rl2))
 have sh : SeqAt.shaped (.tuple (ns.map PyData.int)) = true := by simp [SeqAt.shaped, PyData.canLay0, PyData.depth, ke_canLayAll0, ke_depthAll]
 refine eq_dataH_same ra rb sh sh (rm.u64 h4) (by simp only [SeqAt.noMix]; exact noMix_ints ns ns) ?_
 simp only [PySem.Spec.same]
 rw [same_ints]
 simp only [decide_true]
 exact ⟨st, Kp.refl, Qbv⟩
theorem opc_in_ints {k : Int} {l : List Int} : OpC C n .In (.int k) (.lst (l.map .int)) (l.contains k) := by
 intro A X s v1 v2 rm st lo r1 r2
 apply byc;intro kz
 obtain ⟨t, rfl⟩ := r1
 obtain ⟨b, ws, k2, rfl, _, e2, rl2⟩ := r2
 apply kz;clear kz
 have hi := Qci rl2
 refine SeqAt.in_listAt (fun v => match v with | .int i _ => i == k | _ => false) ⟨_, e2, rfl, _, rfl⟩ (fun y hy => ?_) ?_
 ·have hy' : y ∈ ws := by simpa using hy
  obtain ⟨i, u, rfl⟩ : ∃ i u, y = .int i u := by
   clear e2 hy rl2
   induction hi with
   | nil => cases hy'
   | cons a t r ih =>
    cases hy' with
    | head => exact ⟨_, _, rfl⟩
    | tail _ h => exact ih h
  exact SeqAt.EqAt.int_int i u k t
 ·have : ws.any (fun v => match v with | .int i _ => i == k | _ => false) = l.contains k := by
   clear e2 rl2
   induction hi with
   | nil => rfl
   | cons a t r ih =>
    rw [List.any_cons, ih, List.contains_cons]
    congr 1
    exact Bool.eq_iff_iff.mpr ⟨fun h => by simpa using (beq_iff_eq.mp h).symm, fun h => by simpa using (beq_iff_eq.mp h).symm⟩
  simp only [List.any_toArray, this]
  exact ⟨st, Kp.refl, Qbv⟩
noncomputable def dhas {K β : Type} [DecidableEq K] (l : List (K × β)) (k : K) : Bool := (Qcm l k).isSome
theorem Qdr {k : Int} {v : Value} (r : Rel C X s.heap (.int k) v) : (IK C).is k v = true := by
 obtain ⟨t, rfl⟩ := r; simp [PySem.intKind, Value.isInt]
theorem isStr_rel {k : Str} {v : Value} (r : Rel C X s.heap (.str k) v) : (SK C).is k v = true := by
 obtain ⟨t, rfl⟩ := r; simp [PySem.strKind, Value.isStrOf]
theorem opc_in_dct {k : Int} {l : List (Int × PV)} : OpC C n .In (.int k) (.dctI l) (dhas l k) := by
 intro A X s v1 v2 rm st lo r1 r2
 have hk := Qdr r1
 apply byc;intro kz
 obtain ⟨b, kb, rfl, ⟨_, hb⟩, db, rb⟩ := r2
 apply kz;clear kz
 refine wpAny_in_of hk (by simpa using hb) db.1.mapOf ?_
 rw [rb.kv.get_none]
 exact ⟨st.tok _, Kp.refl, Qbv⟩
theorem opc_in_dctS {k : Str} {l : List (Str × PV)} : OpC C n .In (.str k) (.dctS l) (dhas l k) := by
 intro A X s v1 v2 rm st lo r1 r2
 have hk := isStr_rel r1
 apply byc;intro kz
 obtain ⟨b, kb, rfl, ⟨_, hb⟩, db, rb⟩ := r2
 apply kz;clear kz
 refine wpAny_in_of hk (by simpa using hb) db.1.mapOf ?_
 rw [rb.kv.get_none]
 exact ⟨st.tok _, Kp.refl, Qbv⟩
theorem opc_notin_dct {k : Int} {l : List (Int × PV)} : OpC C n .NotIn (.int k) (.dctI l) (!dhas l k) := by
 intro A X s v1 v2 rm st lo r1 r2
 have hk := Qdr r1
 apply byc;intro kz
 obtain ⟨b, kb, rfl, ⟨_, hb⟩, db, rb⟩ := r2
 apply kz;clear kz
 refine wpAny_notIn_of hk (by simpa using hb) db.1.mapOf ?_
 rw [rb.kv.get_none]
 exact ⟨st.tok _, Kp.refl, Qbv⟩
theorem tv_in_own {l r : Expr} {pos : Pos} {k : Int} {ds : List (Int × PV)} (hl : Ev C n nm ρ ow l (.int k)) (hr : EvT C n nm ρ ow r (.dctI ds))
  (hm : behindInMarks .In r = false := by k_all) : Tv C n nm ρ ow (.Compare l [.In] [r] pos) (dhas ds k) := by
 intro A Xo env oa s rm st ok
 refine wpAny_isTrue_Compare1 (wpAny_mono (hl A Xo env oa s rm st ok) (fun v1 s₁ ⟨st1, k1, r1⟩ => wpAny_mono (hr A Xo env oa s₁ rm st1 (ok.kp st st1 k1)) (fun v2 s₂ hz => ?_) nof) nof) hm
 apply byc;intro kz
 obtain ⟨st2, k2, a, e, t2⟩ := hz
 apply kz;clear kz
 subst e
 have hk := Qdr (r1.kp st1 k2)
 apply byc;intro kz
 obtain ⟨hb, kb, db, rb⟩ := t2
 apply kz;clear kz
 refine wpAny_in_of hk (by simpa using hb) db.1.mapOf ?_
 rw [rb.kv.get_none]
 exact wpAny_truthy_bool ⟨st2.tok _, k1.trans k2, rfl⟩
theorem Qdl {v sl : Expr} {pos : Pos} {l : List (Int × PV)} {k : Int} {d : PV} (hv : EvT C n nm ρ ow v (.dctI l)) (hs : Ev C n nm ρ ow sl (.int k)) (hd : Qcm l k = some d)
  (hsub : ∀ o t, subscripted sl false o (.int k t) = operate [o, .int k t] (getItem o (.int k t)) := by k_all) : Ev C n nm ρ ow (.Subscript v sl pos) d := by
 intro A Xo env oa s rm st ok
 refine Subscript_ (wpAny_mono (hv A Xo env oa s rm st ok) (fun v1 s₁ ⟨st1, k1, r1⟩ => wpAny_mono (hs A Xo env oa s₁ rm st1 (ok.kp st st1 k1)) (fun v2 s₂ hz => ?_) nof) nof)
 apply byc;intro kz
 obtain ⟨st2, k2, r2⟩ := hz
 obtain ⟨a, rfl, t⟩ := r1
 apply kz;clear kz
 have hk := Qdr r2
 apply byc;intro kz
 obtain ⟨hb, kb, db, rb⟩ := t.kp st1 k2
 obtain ⟨u, hu, ru⟩ := rb.kv.get hd
 obtain ⟨t, rfl⟩ := r2
 apply kz;clear kz
 exact tail_any db.1.typeIs slot_dict_getitem.lookup (wpAny_getItem_of hk db.1.mapOf hu ⟨st2.tok _, k1.trans k2, ru⟩) (hsub _ _)
theorem ev_sub_dctS {v sl : Expr} {pos : Pos} {l : List (Str × PV)} {k : Str} {d : PV} (hv : EvT C n nm ρ ow v (.dctS l)) (hs : Ev C n nm ρ ow sl (.str k)) (hd : Qcm l k = some d)
  (hsub : ∀ o t, subscripted sl false o (.str k t) = operate [o, .str k t] (getItem o (.str k t)) := by k_all) : Ev C n nm ρ ow (.Subscript v sl pos) d := by
 intro A Xo env oa s rm st ok
 refine Subscript_ (wpAny_mono (hv A Xo env oa s rm st ok) (fun v1 s₁ ⟨st1, k1, r1⟩ => wpAny_mono (hs A Xo env oa s₁ rm st1 (ok.kp st st1 k1)) (fun v2 s₂ hz => ?_) nof) nof)
 apply byc;intro kz
 obtain ⟨st2, k2, r2⟩ := hz
 obtain ⟨a, rfl, t⟩ := r1
 apply kz;clear kz
 have hk := isStr_rel r2
 apply byc;intro kz
 obtain ⟨hb, kb, db, rb⟩ := t.kp st1 k2
 obtain ⟨u, hu, ru⟩ := rb.kv.get hd
 obtain ⟨t, rfl⟩ := r2
 apply kz;clear kz
 exact tail_any db.1.typeIs slot_dict_getitem.lookup (wpAny_getItem_of hk db.1.mapOf hu ⟨st2.tok _, k1.trans k2, ru⟩) (hsub _ _)
theorem Qeq {l m : List PV} (hsz : l.length + m.length <= sizeLine) : OpB C n .Add (.lst l) (.lst m) (.lst (l ++ m)) := by
 intro A X s v1 v2 rm st lo r1 r2
 apply byc;intro kz
 obtain ⟨a, us, k, rfl, _, e, rl⟩ := r1
 obtain ⟨b, ws, k2, rfl, _, e2, rl2⟩ := r2
 apply kz;clear kz
 have ee : us.toArray ++ ws.toArray = (us ++ ws).toArray := by simp
 refine concat_meets (T := "list") ⟨_, e, rfl⟩ ⟨_, e2, rfl⟩ noFill_list_add seq_list_add PySem.F.slot_list_add PySem.F.entry_list_add (PySem.F.args_list_add_2 _ _) (list_addW a b us.toArray ws.toArray k k2 none none #[] #[] (by simpa [rl.length, rl2.length] using hsz)) ⟨e, e2, ?_⟩
 rw [ee]
 exact Qdd st Qaa (new_lst lo (rl.append rl2))
theorem ev_slice_lst {v : Expr} {lower upper : Option Expr} {p pos : Pos} {l : List PV} {lo hi : Option Int} (hv : EvT C n nm ρ ow v (.lst l))
  (hlo : match lower, lo with | none, none => True | some e, some i => Ev C n nm ρ ow e (.int i) | _, _ => False) (hhi : match upper, hi with | none, none => True | some e, some i => Ev C n nm ρ ow e (.int i) | _, _ => False) (hsz : l.length <= sizeLine)
  (ht : ∀ o r, letTemporaryGo v o r = pure () := by k_all) :
  Ev C n nm ρ ow (.Subscript v (.Slice lower upper none p) pos) (.lst ((l.drop (lo.elim 0 (clipAt l.length))).take (hi.elim l.length (clipAt l.length) - lo.elim 0 (clipAt l.length)))) := by
 have part : ∀ {e : Option Expr} {i : Option Int}, (match e, i with | none, none => True | some e, some i => Ev C n nm ρ ow e (.int i) | _, _ => False) -> ∀ A Xo env oa s, Room A n -> St C s -> EnvOK C nm Xo env oa s.heap ρ ow ->
   wpAny (Mo C) A (evalPart e env) (fun v s' => St C s' /\ Kp C s s' /\ IsPart v i) NoE s := by
  intro e i h A Xo env oa s rm st ok
  cases e with
  | none =>
   cases i with
   | none => rw [evalPart_none]; exact wpAny_pure ⟨st, Kp.refl, .none⟩
   | some i => exact h.elim
  | some e =>
   cases i with
   | none => exact h.elim
   | some i =>
    rw [evalPart_some]
    exact wpAny_mono (h A Xo env oa s rm st ok) (fun v s₁ ⟨st1, k1, r1⟩ => ⟨st1, k1, by obtain ⟨t, rfl⟩ := r1; exact .int i t⟩) nof
 intro A Xo env oa s rm st ok
 refine wpAny_Subscript_Slice F.slot_list_getitem.lookup (T := "list") (wpAny_mono (hv A Xo env oa s rm st ok) (fun v1 s₁ hz => ?_) nof) ht
 apply byc;intro kz
 obtain ⟨st1, k1, a, e, t1⟩ := hz
 apply kz;clear kz
 subst e
 have ok1 := ok.kp st st1 k1
 refine wpAny_Slice (wpAny_mono (part hlo A Xo env oa s₁ rm st1 ok1) (fun vl s₂ ⟨st2, k2, pl⟩ => wpAny_mono (part hhi A Xo env oa s₂ rm st2 (ok1.kp st1 st2 k2)) (fun vu s₃ hz => ?_) nof) nof)
 apply byc;intro kz
 obtain ⟨st3, k3, pu⟩ := hz
 apply kz;clear kz
 rw [evalPart_none]
 refine wpAny_pure ?_
 have ok3 := (ok1.kp st1 st2 k2).kp st2 st3 k3
 apply byc;intro kz
 obtain ⟨us, m, e, rl⟩ := (t1.kp st1 k2).kp st2 k3
 apply kz;clear kz
 have e' : (s₃.heap.push { cls := .type "slice", data := .fields #[vl, vu, .none] }).get? a = some (Qay "list" us m) := Qaa _ _ e
 refine ⟨⟨_, e', rfl⟩, ?_⟩
 have st4 : St C { s₃ with heap := s₃.heap.push { cls := .type "slice", data := .fields #[vl, vu, .none] } } := st3.of_keep Qaa rfl rfl
 refine wpAny_getItem_list_slice ⟨_, e', rfl, _, rfl⟩ (Heap.IsSliceOf.new _ _ _ _) pl pu .none (by simp) ?_ (by simpa [rl.length] using hsz)
 have hp := slicePick_plain us.toArray lo hi
 rw [hp]
 have lo4 : LowX (XS Xo env oa) (s₃.heap.push { cls := .type "slice", data := .fields #[vl, vu, .none] }) := fun b q => let ⟨o, ho, hc⟩ := ok3.lowX b q; ⟨o, Qaa _ _ ho, hc⟩
 have rr : RelL C (XS Xo env oa) (s₃.heap.push { cls := .type "slice", data := .fields #[vl, vu, .none] }) ((l.drop (lo.elim 0 (clipAt l.length))).take (hi.elim l.length (clipAt l.length) - lo.elim 0 (clipAt l.length))) ((us.drop (lo.elim 0 (clipAt us.toArray.size))).take (hi.elim us.toArray.size (clipAt us.toArray.size) - lo.elim 0 (clipAt us.toArray.size))) := by
  have hs : us.toArray.size = l.length := by simp [rl.length]
  rw [hs]
  exact (rl.drop.take).push
 have := new_lst lo4 rr
 refine ⟨st4.of_keep (s' := { s₃ with heap := _ }) Qaa rfl rfl, fun b o h e => Qaa _ _ (Qaa _ _ (k3 b o h (k2 b o h (k1 b o h e)))), ?_⟩
 simpa using this
end
section
set_option tactic.hygienic false
theorem ev_slice_str {v : Expr} {lower upper : Option Expr} {p pos : Pos} {x : Str} {lo hi : Option Int} (hv : Ev C n nm ρ ow v (.str x))
  (hlo : match lower, lo with | none, none => True | some e, some i => Ev C n nm ρ ow e (.int i) | _, _ => False) (hhi : match upper, hi with | none, none => True | some e, some i => Ev C n nm ρ ow e (.int i) | _, _ => False) (hsz : x.length <= sizeLine)
  (ht : ∀ o r, letTemporaryGo v o r = pure () := by k_all) :
  Ev C n nm ρ ow (.Subscript v (.Slice lower upper none p) pos) (.str (StrLaws.sliceText x lo hi)) := by
 have part : ∀ {e : Option Expr} {i : Option Int}, (match e, i with | none, none => True | some e, some i => Ev C n nm ρ ow e (.int i) | _, _ => False) -> ∀ A Xo env oa s, Room A n -> St C s -> EnvOK C nm Xo env oa s.heap ρ ow ->
   wpAny (Mo C) A (evalPart e env) (fun v s' => St C s' /\ Kp C s s' /\ ∃ q : Option (Int × Tok), v = partValue q /\ q.map (·.1) = i) NoE s := by
  intro e i h A Xo env oa s rm st ok
  cases e with
  | none =>
   cases i with
   | none => rw [evalPart_none]; exact wpAny_pure ⟨st, Kp.refl, none, rfl, rfl⟩
   | some i => exact h.elim
  | some e =>
   cases i with
   | none => exact h.elim
   | some i =>
    rw [evalPart_some]
    exact wpAny_mono (h A Xo env oa s rm st ok) (fun v s₁ ⟨st1, k1, r1⟩ => ⟨st1, k1, by obtain ⟨t, rfl⟩ := r1; exact ⟨some (i, t), rfl, rfl⟩⟩) nof
 intro A Xo env oa s rm st ok
 refine wpAny_Subscript_Slice F.slot_str_getitem.lookup (T := "str") (wpAny_mono (hv A Xo env oa s rm st ok) (fun v1 s₁ hz => ?_) nof) ht
 apply byc;intro kz
 obtain ⟨st1, k1, r1⟩ := hz
 apply kz;clear kz
 have ok1 := ok.kp st st1 k1
 obtain ⟨t, rfl⟩ := r1
 refine wpAny_Slice (wpAny_mono (part hlo A Xo env oa s₁ rm st1 ok1) (fun vl s₂ ⟨st2, k2, ql, el, pl⟩ => wpAny_mono (part hhi A Xo env oa s₂ rm st2 (ok1.kp st1 st2 k2)) (fun vu s₃ hz => ?_) nof) nof)
 apply byc;intro kz
 obtain ⟨st3, k3, qu, eu, pu⟩ := hz
 apply kz;clear kz
 subst el; subst eu
 rw [evalPart_none]
 refine wpAny_pure ⟨rfl, ?_⟩
 have st4 : St C { s₃ with heap := s₃.heap.push { cls := .type "slice", data := .fields #[partValue ql, partValue qu, .none] } } := st3.of_keep Qaa rfl rfl
 have kk : Kp C s { s₃ with heap := s₃.heap.push { cls := .type "slice", data := .fields #[partValue ql, partValue qu, .none] } } := fun b o h e => Qaa _ _ (k3 b o h (k2 b o h (k1 b o h e)))
 refine wpAny_getItem_str_slice (l := ql) (u := qu) (st := none) ⟨_, Heap.get?_push_size _ rfl, rfl, rfl⟩ rfl ?_
 have e1 : slicePicked x ql qu none = Builtin.Str.strSliceIndices lo hi 1 x.length := by unfold slicePicked; rw [pl, pu]; rfl
 unfold sliceMade
 rw [e1]
 unfold StrLaws.sliceText
 by_cases hc : (((1 : Int) == 1 && (Builtin.Str.strSliceIndices lo hi 1 x.length).length == x.length) = true)
 ·rw [if_pos hc, if_pos (by simpa using hc)]
  exact ⟨st4, kk, Qdy⟩
 ·rw [if_neg hc, if_neg (by simpa using hc)]
  refine ⟨?_, st4.tok _, kk, Qdy⟩
  have h1 := indices_len_le lo hi x.length
  have h2 := List.length_filterMap_le (x.cps[·]?) (Builtin.Str.strSliceIndices lo hi 1 x.length)
  show (List.filterMap (x.cps[·]?) (Builtin.Str.strSliceIndices lo hi 1 x.length)).toArray.size <= sizeLine
  rw [List.size_toArray]
  omega
theorem exs_dset {x : Str} {px tp pos : Pos} {ke e : Expr} {l : List (Int × PV)} {k : Int} {d : PV} {R : PV -> Prop} (hx : (Qdm nm x || Qdi nm x) = true) (he : Ev C n nm ρ (some (x, .dctI l)) e d) (hk : Ev C n nm ρ (some (x, .dctI l)) ke (.int k)) (hsz : l.length <= sizeLine)
  (hs : ∀ env, swapsWith e (some (.Subscript (.Name x px) ke tp)) pos.line env = pure false := by k_all)
  (hb : (x == ("__debug__" : Str)) = false := by k_all) (hc : (x == ("__classdict__" : Str)) = false := by k_all) :
  ExS C n nm (.Assign [.Subscript (.Name x px) ke tp] e pos) ρ (some (x, .dctI l)) (fun a b => a = ρ /\ b = some (x, .dctI (Qdb l k d))) R := by
 intro A Xo env oa s rm st ok
 refine wpAny_Assign_Subscript (wpAny_mono (he A Xo env oa s rm st ok) (fun v s₁ hz => ?_) nof) (hs env)
 apply byc;intro kz
 obtain ⟨st1, k1, r1⟩ := hz
 apply kz;clear kz
 have ok1 := ok.kp st st1 k1
 refine wpAny_mono (ev_own hx ok1 hb hc) (fun ov s₂ hz => ?_) nof
 apply byc;intro kz
 obtain ⟨e2, a, eo, hoa, t1⟩ := hz
 apply kz;clear kz
 subst e2; subst eo
 refine wpAny_mono (hk A Xo env oa s₂ rm st1 ok1) (fun kv s₃ hz => ?_) nof
 apply byc;intro kz
 obtain ⟨st3, k3, r3⟩ := hz
 apply kz;clear kz
 have ok3 := ok1.kp st1 st3 k3
 apply byc;intro kz
 obtain ⟨hsys, kvs, db, rb⟩ := t1.kp st1 k3
 apply kz;clear kz
 refine wpAny_setItem_pairs (Qdr r3) db.1 (fun h' hm hs' => ?_) (by have := rb.kv.length; omega)
 have hX : XS Xo env oa a := .inr (.inr hoa)
 have hcont : Cont (XS Xo env oa) s₃.heap h' := fun b o hb _ e => (hs'.2 b (fun q => hb (q ▸ hX))).trans e
 refine own_post (k1.trans k3) st3 ok3 hoa hs' ⟨hsys, stored kvs k v, ⟨hm, ?_⟩, ((rb.kv.set (r1.kp st1 k3)).mono (fun _ _ _ e => e) hcont).toI⟩ (Nat.succ_pos _)
 apply byc;intro kz
 obtain ⟨o, es, ep, ho, hex, _⟩ := hm
 apply kz;clear kz
 exact ⟨o, ho, hex.2.1⟩
theorem exs_daug {x y : Str} {px py tp pos : Pos} {e : Expr} {l : List (Int × PV)} {k : Int} {d1 d2 d : PV} {op : Operator} {R : PV -> Prop} (hx : (Qdm nm x || Qdi nm x) = true) (hk : Ev C n nm ρ (some (x, .dctI l)) (.Name y py) (.int k)) (hd : Qcm l k = some d1) (he : Ev C n nm ρ (some (x, .dctI l)) e d2) (ho : OpI C n op d1 d2 d) (hsz : l.length <= sizeLine)
  (hb : (x == ("__debug__" : Str)) = false := by k_all) (hc : (x == ("__classdict__" : Str)) = false := by k_all) :
  ExS C n nm (.AugAssign (.Subscript (.Name x px) (.Name y py) tp) op e pos) ρ (some (x, .dctI l)) (fun a b => a = ρ /\ b = some (x, .dctI (Qdb l k d))) R := by
 intro A Xo env oa s rm st ok
 refine wpAny_AugAssign_Subscript (wpAny_mono (ev_own hx ok hb hc) (fun ov s₂ hz => ?_) nof)
 apply byc;intro kz
 obtain ⟨e2, a, eo, hoa, t1⟩ := hz
 apply kz;clear kz
 subst e2; subst eo
 refine wpAny_mono (hk A Xo env oa s₂ rm st ok) (fun kv s₃ hz => ?_) nof
 apply byc;intro kz
 obtain ⟨st3, k3, r3⟩ := hz
 apply kz;clear kz
 have ok3 := ok.kp st st3 k3
 apply byc;intro kz
 obtain ⟨hsys, kvs, db, rb⟩ := t1.kp st k3
 obtain ⟨u, hu, ru⟩ := rb.kv.get hd
 apply kz;clear kz
 refine wpAny_getItem_of (Qdr r3) db.1.mapOf hu ?_
 have st3' : St C { s₃ with toks := s₃.toks + 1 } := st3.tok _
 refine wpAny_mono (he A Xo env oa { s₃ with toks := s₃.toks + 1 } rm st3' ok3) (fun v s₄ hz => ?_) nof
 apply byc;intro kz
 obtain ⟨st4, k4, r4⟩ := hz
 apply kz;clear kz
 have k4' : Kp C s₃ s₄ := k4
 have ok4 := ok3.kp st3 st4 k4'
 refine wpAny_mono (ho A _ s₄ u v rm st4 ok4.lowX (ru.kp st3 k4') r4) (fun w s₅ hz => ?_) nof
 apply byc;intro kz
 obtain ⟨st5, k5, r5⟩ := hz
 apply kz;clear kz
 have ok5 := ok4.kp st4 st5 k5
 apply byc;intro kz
 obtain ⟨hsys5, kvs5, db5, rb5⟩ := (((t1.kp st k3).kp st3 k4').kp st4 k5)
 apply kz;clear kz
 refine wpAny_setItem_pairs (Qdr ((r3.kp st3 k4').kp st4 k5)) db5.1 (fun h' hm hs' => ?_) (by have := rb5.kv.length; omega)
 have hX : XS Xo env oa a := .inr (.inr hoa)
 have hcont : Cont (XS Xo env oa) s₅.heap h' := fun b o hb _ e => (hs'.2 b (fun q => hb (q ▸ hX))).trans e
 refine own_post ((k3.trans k4').trans k5) st5 ok5 hoa hs' ⟨hsys5, stored kvs5 k w, ⟨hm, ?_⟩, ((rb5.kv.set r5).mono (fun _ _ _ e => e) hcont).toI⟩ (Nat.succ_pos _)
 apply byc;intro kz
 obtain ⟨o, es, ep, ho, hex, _⟩ := hm
 apply kz;clear kz
 exact ⟨o, ho, hex.2.1⟩
theorem ev_dict2 {k1 k2 v1 v2 : Expr} {pos : Pos} {a b : Int} {d1 d2 : PV} (h1 : Ev C n nm ρ ow k1 (.int a)) (h2 : Ev C n nm ρ ow v1 d1) (h3 : Ev C n nm ρ ow k2 (.int b)) (h4 : Ev C n nm ρ ow v2 d2) :
  Ev C n nm ρ ow (.Dict [some k1, some k2] [v1, v2] pos) (.dctI (Qdb (Qdb [] a d1) b d2)) := by
 intro A Xo env oa s rm st ok
 have hn : s.heap.get? s.heap.objs.size = none := Qbg
 refine wpAny_Dict_walk (knd := IK C) rfl rfl (by simp) (by simp) ?_
 have st0 : St C { s with heap := s.heap.push { cls := .type "dict", data := .dict #[] } } := st.of_keep Qaa rfl rfl
 have hD0 : (s.heap.push { cls := .type "dict", data := .dict #[] } : Heap).get? s.heap.objs.size = some { cls := .type "dict", data := .dict #[] } := Heap.get?_push_size _ rfl
 have ok0 : EnvOK C nm (fun b => Xo b ∨ b = s.heap.objs.size) env oa (s.heap.push { cls := .type "dict", data := .dict #[] }) ρ ow :=
  ok.avoid (s' := { s with heap := s.heap.push { cls := .type "dict", data := .dict #[] } }) hn Qaa ⟨_, hD0, .inr (.inl ⟨_, _, rfl⟩)⟩
 generalize hDD : s.heap.objs.size = D at *
 have XE : ∀ c, XS (fun b => Xo b ∨ b = D) env oa c ↔ (XS Xo env oa c ∨ c = D) := fun c => ⟨fun q => by
  rcases q with (q | q) | q
  ·exact .inl (.inl q)
  ·exact .inr q
  ·exact .inl (.inr q), fun q => by
  rcases q with (q | q) | q
  ·exact .inl (.inl q)
  ·exact .inr q
  ·exact .inl (.inr q)⟩
 show wpAny (Mo C) A (evalPairs [(eval k1 env, do let x ← eval v1 env; standAt pos; pure x), (eval k2 env, do let x ← eval v2 env; standAt pos; pure x)]) _ _ _
 refine evalPairs_cons (wpAny_mono (h1 A _ env oa _ rm st0 ok0) (fun ka s₁ hz => ?_) nof)
 apply byc;intro kz
 obtain ⟨st1, kp1, r1⟩ := hz
 apply kz;clear kz
 have ok1 := ok0.kp st0 st1 kp1
 refine wpAny_bind (wpAny_mono (h2 A _ env oa _ rm st1 ok1) (fun va s₂ ⟨st2, kp2, r2⟩ => wpAny_bind (wpAny_standAt (wpAny_pure ?_))) nof)
 have ok2 := ok1.kp st1 st2 kp2
 refine evalPairs_cons (wpAny_mono (h3 A _ env oa _ rm st2 ok2) (fun kb s₃ hz => ?_) nof)
 apply byc;intro kz
 obtain ⟨st3, kp3, r3⟩ := hz
 apply kz;clear kz
 have ok3 := ok2.kp st2 st3 kp3
 refine wpAny_bind (wpAny_mono (h4 A _ env oa _ rm st3 ok3) (fun vb s₄ ⟨st4, kp4, r4⟩ => wpAny_bind (wpAny_standAt (wpAny_pure (evalPairs_nil ?_)))) nof)
 have ok4 := ok3.kp st3 st4 kp4
 have kp : Kp C { s with heap := s.heap.push { cls := .type "dict", data := .dict #[] } } s₄ := ((kp1.trans kp2).trans kp3).trans kp4
 have hDp : D ≠ C.PT := st0.pt_cont hD0 (.inr (.inl ⟨_, _, rfl⟩))
 have hD4 : s₄.heap.get? D = some { cls := .type "dict", data := .dict #[] } := kp D _ hDp hD0
 have hDo : s₄.heap.DictOf (IK C) D [] := ⟨_, #[], 0, hD4, ⟨rfl, rfl, rfl⟩, rfl, fun _ he => by simp at he, Pairs.nil, List.nodup_nil⟩
 refine ⟨[(a, va), (b, vb)], ⟨Qdr (((r1.kp st1 kp2).kp st2 kp3).kp st3 kp4), rfl, Qdr (r3.kp st3 kp4), rfl, trivial⟩, hDo, fun h' hm hs => ?_⟩
 have hDn0 : C.h0.get? D = none := Qbb st hn
 have hXD : ¬ XS Xo env oa D := fun q => by
  obtain ⟨o, ho, _⟩ := ok.low D q
  rw [hn] at ho; cases ho
 refine ⟨st4.same_but hs hDn0 hDp (Nat.lt_of_lt_of_le st4.pos (Nat.le_add_right _ _)), fun c o hc e => (hs.2 c (fun q => by subst q; rw [hn] at e; cases e)).trans (kp c o hc (Qaa _ _ e)), ?_⟩
 have hcont : Cont (XS (fun b => Xo b ∨ b = D) env oa) s₄.heap h' := fun c o hb _ e => (hs.2 c (fun q => hb ((XE c).mpr (.inr q)))).trans e
 have hi : ∀ c o, s₄.heap.get? c = some o -> XS Xo env oa c -> XS (fun b => Xo b ∨ b = D) env oa c := fun c _ _ q => (XE c).mpr (.inl q)
 refine ⟨D, _, rfl, ⟨hXD, new_ne_sys st hn⟩, ⟨hm, ?_⟩, ?_⟩
 ·apply byc;intro kz
  obtain ⟨o, es, ep, ho, hex, _⟩ := hm
  apply kz;clear kz
  exact ⟨o, ho, hex.2.1⟩
 ·have r2' := (r2.kp st2 kp3).kp st3 kp4
  have := ((RelKv.nil (C := C) (X := XS (fun b => Xo b ∨ b = D) env oa) (h := s₄.heap) (K := Int)).set (k := a) r2').set (k := b) r4
  exact (this.mono hi hcont).toI
theorem ev_replace {o : Expr} {x y z : Str} {k1 k2 : Nat} {p1 p2 apos pos : Pos} (ho : Ev C n nm ρ ow o (.str x)) (hyz : (y == z) = false) (hb : x.length + (x.length + 1) * z.length <= 16777216)
  (hbase : ∀ env, attributeBase o "replace" env (eval o env) = eval o env := by k_all) (hline : (apos.endLine == pos.line) = true := by k_all) :
  Ev C n nm ρ ow (.Call (.Attribute o "replace" apos) [.Constant (.str y) k1 p1, .Constant (.str z) k2 p2] [] pos) (.str (Txt.replace x y z)) := by
 intro A Xo env oa s rm st ok
 refine call_meth (wpAny_mono (ho A Xo env oa s rm st ok) (fun v s₁ hz => ?_) nof) (hbase env) rfl hline (.inr ⟨_, _, rfl⟩) rfl
 apply byc;intro kz
 obtain ⟨st1, kq, r1⟩ := hz
 obtain ⟨h1, h2⟩ := tyV_str r1
 apply kz;clear kz
 refine ⟨"str", "str.replace", h1, F.plainAttrs_str, F.slot_str_replace, F.type_str_replace, h2, ?_⟩
 obtain ⟨t, rfl⟩ := r1
 refine Calls.spliced_cons (Calls.Constant_str (k := k1) (pos := p1) (Calls.spliced_cons (Calls.Constant_str (k := k2) (pos := p2) (Calls.spliced_nil ?_))))
 refine Qbj (Nat.succ_pos _) (SC.replace (Nat.pos_iff_ne_zero.mp st1.pos) (Nat.succ_ne_zero _) (Nat.ne_of_lt (Nat.lt_succ_self _)) hyz hb fun t' k hp => ?_)
 exact ⟨st1.of_keep (s' := { s₁ with toks := k }) (fun _ _ e => e) rfl rfl hp, kq, Qdy⟩
end
section
set_option tactic.hygienic false
theorem bindL_keep {kindOf : Str -> Option NameKind} {x : Str} : ∀ (binds : List (Str × Value)) (m : Str -> Option Value), (∀ p ∈ binds, p.1 ≠ x) -> bindL kindOf binds m x = m x
 | [], m, _ => rfl
 | (y, w) :: r, m, h => by
  unfold bindL
  rw [bindL_keep r _ fun p hp => h p (List.mem_cons_of_mem _ hp)]
  have : x ≠ y := fun q => h (y, w) (by simp) q.symm
  split
  ·simp [this]
  ·rfl
theorem bindL_get {kindOf : Str -> Option NameKind} {x : Str} {v : Value} (hx : kindOf x = some .local) : ∀ (binds : List (Str × Value)) (m : Str -> Option Value), (binds.map (·.1)).Nodup -> binds.lookup x = some v -> bindL kindOf binds m x = some v
 | [], m, _, h => by simp at h
 | (y, w) :: r, m, hn, h => by
  simp only [List.map_cons, List.nodup_cons] at hn
  rw [List.lookup_cons] at h
  unfold bindL
  by_cases hy : x == y
  ·rw [beq_iff_eq] at hy
   subst hy
   simp only [beq_self_eq_true, Option.some.injEq] at h
   subst h
   rw [bindL_keep r _ fun p hp (q : p.1 = x) => hn.1 (by rw [← q]; exact List.mem_map.mpr ⟨p, hp, rfl⟩), if_pos hx]
   simp
  ·simp only [hy] at h
   exact bindL_get hx r _ hn.2 h
theorem bindC_keep {kindOf : Str -> Option NameKind} {x : Str} : ∀ (binds : List (Str × Value)) (m : Str -> Option Value), (∀ p ∈ binds, p.1 ≠ x) -> bindC kindOf binds m x = m x
 | [], m, _ => rfl
 | (y, w) :: r, m, h => by
  unfold bindC
  rw [bindC_keep r _ fun p hp => h p (List.mem_cons_of_mem _ hp)]
  have : x ≠ y := fun q => h (y, w) (by simp) q.symm
  split
  ·rfl
  ·simp [this]
theorem bindC_get {kindOf : Str -> Option NameKind} {x : Str} {v : Value} (hx : kindOf x ≠ some .local) : ∀ (binds : List (Str × Value)) (m : Str -> Option Value), (binds.map (·.1)).Nodup -> binds.lookup x = some v -> bindC kindOf binds m x = some v
 | [], m, _, h => by simp at h
 | (y, w) :: r, m, hn, h => by
  simp only [List.map_cons, List.nodup_cons] at hn
  rw [List.lookup_cons] at h
  unfold bindC
  by_cases hy : x == y
  ·rw [beq_iff_eq] at hy
   subst hy
   simp only [beq_self_eq_true, Option.some.injEq] at h
   subst h
   rw [bindC_keep r _ fun p hp (q : p.1 = x) => hn.1 (by rw [← q]; exact List.mem_map.mpr ⟨p, hp, rfl⟩), if_neg hx]
   simp
  ·simp only [hy] at h
   exact bindC_get hx r _ hn.2 h
theorem zip_rel {h : Heap} : ∀ {xs : List Str} {ds : List PV} {vs : List Value} {x : Str} {d : PV}, RelL C X h ds vs -> (xs.zip ds).lookup x = some d -> ∃ v, (xs.zip vs).lookup x = some v /\ Rel C X h d v
 | [], _, _, _, _, _, h => by simp at h
 | y :: xs, [], _, _, _, _, h => by simp at h
 | y :: xs, d' :: ds, vs, x, d, r, h => by
  apply byc;intro kz
  obtain ⟨v, vs, rfl, r1, r⟩ := r
  apply kz;clear kz
  rw [List.zip_cons_cons, List.lookup_cons] at h ⊢
  by_cases hy : x == y
  ·simp only [hy, Option.some.injEq] at h ⊢
   subst h
   exact ⟨v, rfl, r1⟩
  ·simp only [hy] at h ⊢
   exact zip_rel r h
theorem Qdv {x : Str} : ∀ (names : List (Str × NameKind)) (k : Nat) (acc : List (Str × Addr)), (x, .cell) ∈ names ∨ (acc.lookup x).isSome = true -> ((cellsFrom k names acc).lookup x).isSome = true
 | [], k, acc, h => by
  rcases h with h | h
  ·cases h
  ·exact h
 | (y, kd) :: r, k, acc, h => by
  unfold cellsFrom
  by_cases hk : kd == .cell
  ·rw [if_pos hk]
   refine Qdv r _ _ ?_
   by_cases hxy : x == y
   ·right; rw [List.lookup_cons, hxy]; rfl
   ·rcases h with h | h
    ·cases h with
     | head => simp at hxy
     | tail _ h => exact .inl h
    ·right; rw [List.lookup_cons]; simp only [hxy]; exact h
  ·rw [if_neg hk]
   refine Qdv r _ _ ?_
   rcases h with h | h
   ·cases h with
    | head => simp at hk
    | tail _ h => exact .inl h
   ·exact .inr h
theorem Qfi {x : Str} {c : Addr} : ∀ (names : List (Str × NameKind)) (k : Nat) (acc : List (Str × Addr)), (cellsFrom k names acc).lookup x = some c -> (x, .cell) ∈ names ∨ acc.lookup x = some c
 | [], k, acc, h => .inr h
 | (y, kd) :: r, k, acc, h => by
  unfold cellsFrom at h
  by_cases hk : kd == .cell
  ·rw [if_pos hk] at h
   rcases Qfi r _ _ h with h | h
   ·exact .inl (List.mem_cons_of_mem _ h)
   ·rw [List.lookup_cons] at h
    by_cases hxy : x == y
    ·rw [beq_iff_eq] at hxy hk
     subst hxy; subst hk
     exact .inl List.mem_cons_self
    ·simp only [hxy] at h; exact .inr h
  ·rw [if_neg hk] at h
   rcases Qfi r _ _ h with h | h
   ·exact .inl (List.mem_cons_of_mem _ h)
   ·exact .inr h
noncomputable def defB (sc : Scope) (xs : List Str) : Bool :=
 isFunction sc.kind && !sc.isCoroutine && !sc.isGenerator && (sc.names.all fun p => decide (sc.names.lookup p.1 = some p.2) && !(p.2 == .free)) && xs.all fun x => sc.names.lookup x == some .local || sc.names.lookup x == some .cell
theorem defB_parts {sc : Scope} {xs : List Str} (h : defB sc xs = true) : sc.kind = .function /\ sc.isCoroutine = false /\ sc.isGenerator = false /\ (∀ p ∈ sc.names, sc.names.lookup p.1 = some p.2 /\ p.2 ≠ .free) /\
  ∀ x ∈ xs, sc.names.lookup x = some .local ∨ sc.names.lookup x = some .cell := by
 unfold defB at h
 simp only [Bool.and_eq_true, List.all_eq_true, Bool.or_eq_true, beq_iff_eq, Bool.not_eq_true', decide_eq_true_eq, beq_eq_false_iff_ne] at h
 obtain ⟨⟨⟨⟨h1, h2⟩, h3⟩, h4⟩, h5⟩ := h
 exact ⟨isFn h1, h2, h3, fun p hp => ⟨(h4 p hp).1, by simpa using (h4 p hp).2⟩, h5⟩
noncomputable def defQ (q name : Str) (pr : Arguments) (bd : List Stmt) (sc : Scope) (pm cd doc : Value) : FuncData := { Calls.docDef name pr bd sc pm cd doc with qualname := q }
theorem wpAny_posI {M : Model} {α : Type} {t : Sem α} {Q : α -> Shared -> Prop} {E : Value -> Shared -> Prop} (h : wpAny M A t (fun v s' => (0 < s.toks -> 0 < s'.toks) -> Q v s') E s) : wpAny M A t Q E s := by
 by_cases hp : 0 < s.toks
 ·exact Qbj hp (wpAny_mono h (fun v s' g hp' => g fun _ => hp') fun _ _ e => e)
 ·exact wpAny_mono h (fun v s' g => g fun z => absurd z hp) fun _ _ e => e
theorem fn_enterZ {k : Nat} {q name : Str} {pr : Arguments} {bd : List Stmt} {sc : Scope} {a : Addr} {o : PySem.Obj} {pm cd doc : Value} {xs : List Str} {ds : List PV} {X : Addr -> Prop} {vs : List Value} {R : Result -> Shared -> Prop}
  (h0 : C.h0.get? a = some o) (hd : o.data = .func (defQ q name pr bd sc pm cd doc)) (hcd : C.h0.CodeRec cd q) (hcdpt : ∀ c o' vs, cd = .ref c -> C.h0.get? c = some o' -> o'.data = .fields vs -> o'.cls ≠ .none)
  (hsc : defB sc xs = true) (hcode : sc.names = (Qaf 3).names -> cd = .ref C.tc) (hnd : xs.Nodup) (hlen : xs.length = ds.length)
  (hbind : ∀ vs : List Value, vs.length = xs.length -> bindArgs (defQ q name pr bd sc pm cd doc) ⟨vs, []⟩ = pure (xs.zip vs))
  (rm : Room A (n + 1)) (st : St C { s with toks := s.toks + k }) (lo : LowX X s.heap) (r : RelL C X s.heap ds vs)
  (hbody : ∀ env s₁, St C { s₁ with toks := s₁.toks + k } -> EnvOK C sc.names X env none s₁.heap (xs.zip ds) none -> (∀ b o, s.heap.get? b = some o -> s₁.heap.get? b = some o) -> env.locals = s.heap.objs.size -> (s₁.gens = s.gens /\ s₁.os = s.os) -> (∃ m, s₁.heap.Ns env.locals m /\ ∀ x v, (xs.zip vs).lookup x = some v -> Qdm sc.names x = true -> m x = some v) -> s.heap.get? env.locals = none -> (∀ y c, env.cells.lookup y = some c -> s.heap.get? c = none) ->
   wpAny (Mo C) (A.deeper env) (execs bd env) (fun f s' => R (.ok (.ret (match f with | .ret v => v | _ => .none))) s') NoE s₁) : codeAny (Mo C) A (.call (.ref a) ⟨vs, []⟩) R s := by
 apply byc;intro kz
 obtain ⟨hk, hco, hge, hnm, hxs⟩ := defB_parts hsc
 apply kz;clear kz
 have ho : s.heap.get? a = some o := st.h0 h0 fun vs e => by subst e; cases hd
 have hcd' : s.heap.CodeRec cd q := by
  apply byc;intro kz
  obtain ⟨c, o', vs', t, e1, e2, e3, e4⟩ := hcd
  apply kz;clear kz
  exact ⟨c, o', vs', t, e1, st.h0 e2 fun ws e => hcdpt c o' vs' e1 e2 e3 (by rw [e]), e3, e4⟩
 have hvl : vs.length = xs.length := by rw [r.length, hlen]
 have hfst : (xs.zip vs).map (·.1) = xs := by rw [List.map_fst_zip]; omega
 have hkind : ∀ p ∈ xs.zip vs, sc.names.lookup p.1 = some .local ∨ (sc.names.lookup p.1 = some .cell /\ ((cellsFrom (s.heap.objs.size + 1) sc.names []).lookup p.1).isSome = true) := by
  intro p hp
  have hm : p.1 ∈ xs := by rw [← hfst]; exact List.mem_map.mpr ⟨p, hp, rfl⟩
  rcases hxs _ hm with h | h
  ·exact .inl h
  ·exact .inr ⟨h, Qdv _ _ _ (.inl (mem_of_lookup h))⟩
 refine (codeAny_call_function (body := bd) (fd := defQ q name pr bd sc pm cd doc) rm.lim ho hd hco hge rfl hcd' ?_)
 rw [hbind vs hvl]
 refine wpAny_pure (wpAny_posI (wpAny_newFunctionEnv_cells hk hkind fun env he s₁ x hp => ?_))
 subst he
 refine ⟨st.lim.keeps x.toInCall.keep, codeAny_func ?_⟩
 generalize henv : newEnv _ _ _ _ _ _ _ _ _ = env at x ⊢
 have eL : env.locals = s.heap.objs.size := by subst henv; rfl
 have eC : env.cells = cellsFrom (s.heap.objs.size + 1) sc.names [] := by subst henv; rfl
 have eS : env.scope = sc := by subst henv; rfl
 have eK : ∀ y, env.kindOf y = sc.names.lookup y := fun y => by subst henv; rfl
 have eCd : env.code = cd := by subst henv; rfl
 have eG : env.globals = mainGlobals := by subst henv; rfl
 have eB : env.builtins = builtinsNs := by subst henv; rfl
 have keep := x.toInCall.keep
 obtain ⟨h₁, tk₁, e₁⟩ := x.toInCall.same
 have hpos : 0 < s₁.toks + k := by
  have h0 : 0 < s.toks + k := st.pos
  cases k with
  | zero => exact hp h0
  | succ k => exact Nat.succ_pos _
 have st1 : St C { s₁ with toks := s₁.toks + k } := st.of_keep (s' := { s₁ with toks := s₁.toks + k }) keep (by rw [e₁]) (by rw [e₁]) hpos
 have hns := x.toInCall.ns
 have lnew : s.heap.get? env.locals = none := eL ▸ Qbg
 have cnew : ∀ y c, env.cells.lookup y = some c -> s.heap.get? c = none := fun y c e => by
  have h1 := x.above y c (mem_of_lookup e)
  rw [eL] at h1
  cases q : s.heap.get? c with
  | none => rfl
  | some o => exact absurd (Heap.lt_size q) (Nat.not_lt.mpr (Nat.le_of_lt h1))
 have hX : ∀ b o, s₁.heap.get? b = some o -> XS X env none b -> X b ∨ b = env.locals := fun b o e q => by
  rcases q with q | q | q
  ·exact .inl q
  ·exact .inr q
  ·cases q
 have relUp : ∀ {d v}, Rel C X s.heap d v -> Rel C (XS X env none) s₁.heap d v := fun {d v} r => r.mono (fun b o e q => by
  rcases q with q | q | q
  ·exact q
  ·rw [q, lnew] at e; cases e
  ·cases q) fun b o _ _ e => keep b o e
 have celK : ∀ y c, env.cells.lookup y = some c -> sc.names.lookup y = some .cell := fun y c e => by
  rw [eC] at e
  rcases Qfi _ _ _ e with h | h
  ·exact (hnm _ h).1
  ·cases h
 have okE : EnvOK C sc.names X env none s₁.heap (xs.zip ds) none := by
  refine { kind := by rw [eS]; exact hk, code := (fun e => eCd.trans (hcode e)), coro := by rw [eS]; exact hco, kindL := fun y h => by rw [eK]; exact locB_iff.mp h, kindC := ?_, kindG := ?_, glob := eG, blt := eB, loc := ⟨_, hns, ?_, fun _ _ q => nomatch q⟩, cel := ?_, celO := (fun _ _ q => nomatch q), cst := ?_, all := (fun y c e => ⟨_, x.cell y c e⟩), apart := ?_, low := ?_, newL := ?_, newC := ?_, newO := (fun _ q => nomatch q), xoL := ?_, own := (fun _ _ q => nomatch q) }
  ·intro y h
   rw [eK]
   unfold Qdi at h
   cases q : sc.names.lookup y with
   | none => rw [q] at h; cases h
   | some k => rw [q] at h; cases k <;> first | (cases h; done) | exact .inl rfl | exact .inr rfl | (simp at h)
  ·intro y h
   rw [eK]
   unfold gloB at h
   cases q : sc.names.lookup y with
   | none => rw [q] at h; cases h
   | some k => rw [q] at h; cases k <;> first | (cases h; done) | rfl | (simp at h)
  ·intro y e hl h
   obtain ⟨v, e1, e2⟩ := zip_rel r hl
   exact ⟨v, bindL_get (by rw [eK]; exact locB_iff.mp h) _ _ (by rw [hfst]; exact hnd) e1, relUp e2⟩
  ·intro y e hl h
   obtain ⟨v, e1, e2⟩ := zip_rel r hl
   have hmem : y ∈ xs := by
    have := mem_of_lookup e1
    rw [← hfst]; exact List.mem_map.mpr ⟨_, this, rfl⟩
   have hnl : sc.names.lookup y ≠ some .local := fun q => by rw [not_both (locB_iff.mpr q)] at h; cases h
   have hc : sc.names.lookup y = some .cell := (hxs y hmem).resolve_left hnl
   have hs := Qdv (x := y) sc.names (s.heap.objs.size + 1) [] (.inl (mem_of_lookup hc))
   rw [← eC] at hs
   obtain ⟨c, hcl⟩ := Option.isSome_iff_exists.mp hs
   refine ⟨c, v, hcl, ?_, relUp e2⟩
   have := x.cell y c hcl
   rwa [bindC_get (by rw [eK]; exact hnl) _ _ (by rw [hfst]; exact hnd) e1] at this
  ·intro y h
   have hc : sc.names.lookup y = some .cell := by
    unfold Qdi at h
    cases q : sc.names.lookup y with
    | none => rw [q] at h; cases h
    | some k =>
     rw [q] at h
     cases k <;> first | rfl | (cases h; done) | (exact absurd rfl (hnm _ (mem_of_lookup q)).2) | (simp at h)
   have hs := Qdv (x := y) sc.names (s.heap.objs.size + 1) [] (.inl (mem_of_lookup hc))
   rw [← eC] at hs
   obtain ⟨c, hcl⟩ := Option.isSome_iff_exists.mp hs
   exact ⟨c, _, hcl, x.cell y c hcl⟩
  ·intro y z c h1 h2
   exact name_of_addr x.apart (mem_of_lookup h1) (mem_of_lookup h2)
  ·intro b q
   rcases q with q | q | q
   ·obtain ⟨o, ho, hc⟩ := lo b q
    exact ⟨o, keep b o ho, hc⟩
   ·apply byc;intro kz
    obtain ⟨o, es, ep, ho, hd, _⟩ := hns
    apply kz;clear kz
    exact ⟨o, q ▸ ho, .inr (.inl ⟨es, ep, hd⟩)⟩
   ·cases q
  ·exact Qbb st lnew
  ·exact fun y c e => Qbb st (cnew y c e)
  ·intro q
   rw [eL] at q
   exact lo.fresh q
 exact wpAny_mono (hbody env s₁ st1 okE keep eL ⟨by rw [e₁], by rw [e₁]⟩ ⟨_, hns, fun y v e h => bindL_get (by rw [eK]; exact locB_iff.mp h) _ _ (by rw [hfst]; exact hnd) e⟩ lnew cnew) (fun _ _ h => h) nof
theorem fn_opQ {q name : Str} {pr : Arguments} {bd : List Stmt} {sc : Scope} {a : Addr} {o : PySem.Obj} {pm cd doc : Value} {xs : List Str} {ds : List PV} {d : PV}
  (h0 : C.h0.get? a = some o) (hd : o.data = .func (defQ q name pr bd sc pm cd doc)) (hcd : C.h0.CodeRec cd q) (hcdpt : ∀ c o' vs, cd = .ref c -> C.h0.get? c = some o' -> o'.data = .fields vs -> o'.cls ≠ .none)
  (hsc : defB sc xs = true) (hcode : sc.names = (Qaf 3).names -> cd = .ref C.tc) (hnd : xs.Nodup) (hlen : xs.length = ds.length)
  (hbind : ∀ vs : List Value, vs.length = xs.length -> bindArgs (defQ q name pr bd sc pm cd doc) ⟨vs, []⟩ = pure (xs.zip vs))
  (body : Ex C n sc.names bd (xs.zip ds) none (fun _ _ => False) (fun e => e = d)) : OpF C (n + 1) (.ref a) ds d := by
 intro A X s vs rm st lo r
 refine wpAny_call (fn_enterZ (k := 0) h0 hd hcd hcdpt hsc hcode hnd hlen hbind rm st lo r fun env s₁ st1 okE keep eL eGO mL lnew cnew => ?_)
 refine wpAny_mono (body (A.deeper env) X env none s₁ (rm.deeper (Nat.lt_succ_self n)) st1 okE) (fun f s₂ hz => ?_) nof
 apply byc;intro kz
 obtain ⟨st2, fr, h⟩ := hz
 apply kz;clear kz
 have kp : Kp C s s₂ := fun b o hb e => fr b o hb (fun q => by rw [q, lnew] at e; cases e) (fun y q => by rw [cnew y b q] at e; cases e) (fun q => nomatch q) (keep b o e)
 cases f with
 | next => obtain ⟨_, _, _, _, _, q⟩ := h; exact q.elim
 | ret v => obtain ⟨e, r, rfl⟩ := h; exact ⟨st2, kp, r⟩
 | brk => exact h.elim
 | cont => exact h.elim
theorem fn_op {name : Str} {i : Nat} {a : Addr} {o : PySem.Obj} {pm cd doc : Value} {xs : List Str} {ds : List PV} {d : PV}
  (h0 : C.h0.get? a = some o) (hd : o.data = .func (Calls.docDef name (Qed i) (Qax i) (Qaf i) pm cd doc)) (hcd : C.h0.CodeRec cd name) (hcdpt : ∀ c o' vs, cd = .ref c -> C.h0.get? c = some o' -> o'.data = .fields vs -> o'.cls ≠ .none)
  (hsc : defB (Qaf i) xs = true) (hcode : (Qaf i).names = (Qaf 3).names -> cd = .ref C.tc) (hnd : xs.Nodup) (hlen : xs.length = ds.length)
  (hbind : ∀ vs : List Value, vs.length = xs.length -> bindArgs (Calls.docDef name (Qed i) (Qax i) (Qaf i) pm cd doc) ⟨vs, []⟩ = pure (xs.zip vs))
  (body : Ex C n (Qaf i).names (Qax i) (xs.zip ds) none (fun _ _ => False) (fun e => e = d)) : OpF C (n + 1) (.ref a) ds d :=
 fn_opQ (q := name) h0 hd hcd hcdpt hsc hcode hnd hlen hbind body
end
section
set_option tactic.hygienic false
theorem lk_here {x : Str} {d : PV} {ρ : Qbs} : List.lookup x ((x, d) :: ρ) = some d := Qbx
theorem lk_next {x y : Str} {d : PV} {r : Option PV} {ρ : Qbs} (h : (x == y) = false) (t : List.lookup x ρ = r) : List.lookup x ((y, d) :: ρ) = r := by
 rw [List.lookup_cons, h]; exact t
noncomputable abbrev Qbp (ρ : Qbs) (x : Str) : Option PV := List.lookup x ρ
theorem lk_capt {names : Qck} {x : Str} {r : Option PV} (hf : Qdw names x = true) : ∀ {ρ : Qbs}, List.lookup x ρ = r -> List.lookup x (Qer names ρ) = r
 | [], h => by simpa [Qer] using h
 | (y, d) :: ρ, h => by
  unfold Qer
  rw [List.filter_cons]
  rw [List.lookup_cons] at h
  by_cases hy : x == y
  ·rw [beq_iff_eq] at hy
   subst hy
   simp only [hf, if_true, List.lookup_cons, beq_self_eq_true] at h ⊢
   exact h
  ·simp only [hy] at h
   split
   ·rw [List.lookup_cons]; simp only [hy]; exact lk_capt hf h
   ·exact lk_capt hf h
theorem lk_rem' {x y : Str} (h : (x == y) = false) : ∀ {ρ : Qbs}, List.lookup x (rem y ρ) = List.lookup x ρ
 | [] => rfl
 | (z, f) :: ρ => by
  unfold rem
  rw [List.filter_cons, List.lookup_cons]
  by_cases hz : x == z
  ·rw [beq_iff_eq] at hz
   subst hz
   simp only [h, Bool.not_false, if_true, List.lookup_cons, beq_self_eq_true]
  ·simp only [hz]
   split
   ·rw [List.lookup_cons]; simp only [hz]; exact lk_rem' h
   ·exact lk_rem' h
theorem lk_rem {x y : Str} {r : Option PV} {ρ : Qbs} (h : (x == y) = false) (e : List.lookup x ρ = r) : List.lookup x (rem y ρ) = r := (lk_rem' h).trans e
end
local macro_rules | `(tactic| k_mem) => `(tactic| first | exact lk_here | assumption | (refine lk_rem (by kernel_rfl) ?_; k_mem) | (refine lk_next (by kernel_rfl) ?_; k_mem) | (refine lk_capt (by kernel_rfl) ?_; k_mem))
section
theorem count_calls_body {l : List (Int × PV)} {ns : List Int} (hl : l.map (·.2) = ns.map .int) : Ex C n (Qaf 4).names (Qax 4) [("callers", .dctI l)] none (fun _ _ => False) (fun e => e = .int ns.sum) := by
 refine Qai (Qak (d := .int 0) Qag (by k_all) Qad) ?_
 refine Qbi (Qez (l := ns) (pv := .int) (bd := fun i => [("calls", .int i)]) (I := fun i ρ ow => ow = none /\ Qbp ρ "nc" = some (.int (ns.take i).sum)) (hl ▸ itF_values (Qab (by k_all) (by k_mem))) Qac ⟨rfl, by k_mem⟩ ?_) ?_
 ·rintro i a ρ' _ ha ⟨rfl, h⟩
  refine ⟨fun p hp => ?_, ?_⟩
  ·revert p; refine al ?_ an
   exact ⟨by k_all, Qad⟩
  refine Qai (exs_aug (by k_all) (by k_mem) (Qab (by k_all) (by k_mem)) op_iadd_int Qad) ?_
  refine Qcb ⟨rfl, ?_⟩
  have : (ns.take (i + 1)).sum = (ns.take i).sum + a := by
   rw [List.take_succ, ha]; simp
  rw [this]
  k_mem
 ·rintro ρ' _ ⟨rfl, h⟩
  rw [List.take_length] at h
  exact Qef (Qab (by k_all) (by k_mem)) rfl
end
section
set_option tactic.hygienic false
inductive DefIn (C : Cfg) (name : Str) (i : Nat) : Prop
 | mk (a : Addr) (o : PySem.Obj) (pm cd doc : Value) (h1 : C.mg name = some (.ref a)) (h2 : C.h0.get? a = some o) (h3 : o.data = .func (Calls.docDef name (Qed i) (Qax i) (Qaf i) pm cd doc)) (h4 : C.h0.CodeRec cd name)
   (h5 : ∀ c o' vs, cd = .ref c -> C.h0.get? c = some o' -> o'.data = .fields vs -> o'.cls ≠ .none) (h6 : i = 3 -> cd = .ref C.tc)
noncomputable def Spec (C : Cfg) (n : Nat) (name : Str) (ds : List PV) (d : PV) : Prop := ∃ a, C.mg name = some (.ref a) /\ KeepF C (.ref a) /\ OpF C n (.ref a) ds d
theorem Spec.of {name : Str} {i : Nat} {xs : List Str} {ds : List PV} {d : PV} (h : DefIn C name i) (hsc : defB (Qaf i) xs = true) (hnd : xs.Nodup) (hlen : xs.length = ds.length)
  (hbind : ∀ pm cd doc, ∀ vs : List Value, vs.length = xs.length -> bindArgs (Calls.docDef name (Qed i) (Qax i) (Qaf i) pm cd doc) ⟨vs, []⟩ = pure (xs.zip vs))
  (body : Ex C n (Qaf i).names (Qax i) (xs.zip ds) none (fun _ _ => False) (fun e => e = d))
  (hi : (((Qaf i).names.lookup ("new_callers" : Str)).isSome && (i != 3)) = false := by k_all) : Spec C (n + 1) name ds d := by
 obtain ⟨a, o, pm, cd, doc, h1, h2, h3, h4, h5, h6⟩ := h
 refine ⟨a, h1, keepF_func h2 h3, fn_op h2 h3 h4 h5 hsc (fun e => h6 ?_) hnd hlen (hbind pm cd doc) body⟩
 rw [e, Bool.and_eq_false_iff] at hi
 exact hi.elim (fun q => nomatch q) fun q => by simpa using q
theorem Qfr {name : Str} {np pos : Pos} {args : List Expr} {ds : List PV} {d : PV} (sp : Spec C n name ds d) (hx : gloB nm name = true) (ha : EvL C n nm ρ ow args ds) (hb : (name == ("__debug__" : Str)) = false := by k_all)
  (hp : ∀ env, (backTo pos (starEach args env)).any (·.1) = false := by k_all) : Ev C n nm ρ ow (.Call (.Name name np) args [] pos) d := by
 obtain ⟨a, h1, h2, h3⟩ := sp
 exact ev_call (ev_glo hx h1 hb) h2 ha h3 hp
theorem OpF.le {f : Value} {ds : List PV} {d : PV} {m : Nat} (h : OpF C n f ds d) (hm : n <= m) : OpF C m f ds d := fun A X s vs rm => h A X s vs (rm.le hm)
theorem Spec.le {name : Str} {ds : List PV} {d : PV} {m : Nat} (h : Spec C n name ds d) (hm : n <= m) : Spec C m name ds d := let ⟨a, h1, h2, h3⟩ := h; ⟨a, h1, h2, h3.le hm⟩
noncomputable def Blt (C : Cfg) (x : Str) (v : Value) : Prop := C.mg x = none /\ C.mb x = some v
noncomputable abbrev c1 : Array Nat := #[14, 4, 0, 1, 1, 6, 1, 16, 46, 1]
noncomputable abbrev c3 : Array Nat := #[14, 9, 4, 1, 2, 16, 10, 16, 13, 0, 7, 7, 16, 13, 16, 10, 15, 18, 5, 16, 10, 15, 13, 11, 16, 13, 5, 5, 0, 16, 10, 1, 15, 2, 0, 1]
noncomputable def PatIn (C : Cfg) (name : Str) (code : Array Nat) (kind : Nat) : Prop := ∃ a o fs ct co nn, C.mg name = some (.ref a) /\ C.h0.get? a = some o /\ o.data = .fields fs /\ (o.cls = .type "re.Pattern" /\ o.dict = none) /\ fs.getD 2 .none = rawInt 0 /\ fs.getD 5 .none = .ref ct /\ fs.getD 6 .none = rawInt (kind : Nat) /\ C.h0.get? ct = some co /\ co.data = .seq (code.map fun (w : Nat) => rawInt (w : Int)) nn
noncomputable def etab : List (Str × Int) := [(("!" : Str), (54 : Int)), (("!=" : Str), (28 : Int)), (("%" : Str), (24 : Int)), (("%=" : Str), (40 : Int)), (("&" : Str), (19 : Int)), (("&=" : Str), (41 : Int)), (("(" : Str), (7 : Int)), ((")" : Str), (8 : Int)), (("*" : Str), (16 : Int)), (("**" : Str), (35 : Int)), (("**=" : Str), (46 : Int)), (("*=" : Str), (38 : Int)), (("+" : Str), (14 : Int)), (("+=" : Str), (36 : Int)), (("," : Str), (12 : Int)), (("-" : Str), (15 : Int)), (("-=" : Str), (37 : Int)), (("->" : Str), (51 : Int)), (("." : Str), (23 : Int)), (("..." : Str), (52 : Int)), (("/" : Str), (17 : Int)), (("//" : Str), (47 : Int)), (("//=" : Str), (48 : Int)), (("/=" : Str), (39 : Int)), ((":" : Str), (11 : Int)), ((":=" : Str), (53 : Int)), ((";" : Str), (13 : Int)), (("<" : Str), (20 : Int)), (("<<" : Str), (33 : Int)), (("<<=" : Str), (44 : Int)), (("<=" : Str), (29 : Int)), (("=" : Str), (22 : Int)), (("==" : Str), (27 : Int)), ((">" : Str), (21 : Int)), ((">=" : Str), (30 : Int)), ((">>" : Str), (34 : Int)), ((">>=" : Str), (45 : Int)), (("@" : Str), (49 : Int)), (("@=" : Str), (50 : Int)), (("[" : Str), (9 : Int)), (("]" : Str), (10 : Int)), (("^" : Str), (32 : Int)), (("^=" : Str), (43 : Int)), (("{" : Str), (25 : Int)), (("|" : Str), (18 : Int)), (("|=" : Str), (42 : Int)), (("}" : Str), (26 : Int)), (("~" : Str), (31 : Int))]
structure Gl (C : Cfg) : Prop where
 add_callers : DefIn C "add_callers" 3
 count_calls : DefIn C "count_calls" 4
 quotedata : DefIn C "quotedata" 10
 quote_periods : DefIn C "_quote_periods" 11
 fix_eols : DefIn C "_fix_eols" 12
 isterminal : DefIn C "ISTERMINAL" 65
 isnonterminal : DefIn C "ISNONTERMINAL" 66
 iseof : DefIn C "ISEOF" 67
 cut : DefIn C "_law_cut" 69
 levels : DefIn C "_law_levels" 70
 added : DefIn C "_law_added" 71
 lives : DefIn C "_law_lives" 72
 fewest : DefIn C "_law_fewest" 73
 off : ∃ t, C.mg "NT_OFFSET" = some (.int 256 t)
 endm : ∃ t, C.mg "ENDMARKER" = some (.int 0 t)
 crlf : ∃ t, C.mg "CRLF" = some (.str "\r\n" t)
 re1 : PatIn C "_twin_re_1" c1 0
 re2 : PatIn C "_twin_re_2" c1 1
 re3 : PatIn C "_twin_re_3" c3 0
 ett : ∃ a kvs, C.mg "EXACT_TOKEN_TYPES" = some (.ref a) /\ a ≠ sysModules /\ Qep C.h0 (SK C) a kvs /\ (∀ X h, RelS C X h (etab.map fun p => (p.1, .int p.2)) kvs)
 b_len : Blt C "len" (.builtin "len")
 b_sum : Blt C "sum" (.builtin "sum")
 b_max : Blt C "max" (.builtin "max")
 b_min : Blt C "min" (.builtin "min")
 b_ord : Blt C "ord" (.builtin "ord")
 b_isinstance : Blt C "isinstance" (.builtin "isinstance")
 b_range : Blt C "range" (.type "range")
 b_list : Blt C "list" (.type "list")
 b_tuple : Blt C "tuple" (.type "tuple")
 b_bytes : Blt C "bytes" (.type "bytes")
 b_zip : Blt C "zip" (.type "zip")
theorem ev_bltv {x : Str} {pos : Pos} {v : Value} (b : Blt C x v) (hx : gloB nm x = true) (hb : (x == ("__debug__" : Str)) = false := by k_all) : Ev C n nm ρ ow (.Name x pos) (.raw v) := ev_blt hx b.1 b.2 hb
theorem Qbh {x : Str} {np pos : Pos} {v : Value} {args : List Expr} {ds : List PV} {d : PV} (b : Blt C x v) (hk : KeepF C v) (hx : gloB nm x = true) (ha : EvL C n nm ρ ow args ds) (ho : OpF C n v ds d) (hb : (x == ("__debug__" : Str)) = false := by k_all)
  (hp : ∀ env, (backTo pos (starEach args env)).any (·.1) = false := by k_all) : Ev C n nm ρ ow (.Call (.Name x np) args [] pos) d := ev_call (ev_bltv b hx hb) hk ha ho hp
theorem Qaw {e : Expr} {d : PV} (h : Ev C n nm ρ ow e d) (he : ∀ env, starEach [e] env = [(false, eval e env)] := by k_all) : EvL C n nm ρ ow [e] [d] := Qao h Qdt he
theorem Qby {e f : Expr} {d d' : PV} (h : Ev C n nm ρ ow e d) (h' : Ev C n nm ρ ow f d') (he : ∀ env, starEach [e, f] env = (false, eval e env) :: starEach [f] env := by k_all) (he' : ∀ env, starEach [f] env = [(false, eval f env)] := by k_all) : EvL C n nm ρ ow [e, f] [d, d'] := Qao h (Qao h' Qdt he') he
theorem ev_gint {x : Str} {pos : Pos} {i : Int} (h : ∃ t, C.mg x = some (.int i t)) (hx : gloB nm x = true) (hb : (x == ("__debug__" : Str)) = false := by k_all) : Ev C n nm ρ ow (.Name x pos) (.int i) := by
 obtain ⟨t, h⟩ := h
 intro A Xo env oa s rm st ok
 exact Calls.Name_function_global ok.kind (ok.kindG x hx) (Calls.loadGlobal_global (by rw [ok.glob]; exact st.g) h ⟨st, Kp.refl, Qbr⟩) hb
theorem ev_gstr {x : Str} {pos : Pos} {i : Str} (h : ∃ t, C.mg x = some (.str i t)) (hx : gloB nm x = true) (hb : (x == ("__debug__" : Str)) = false := by k_all) : Ev C n nm ρ ow (.Name x pos) (.str i) := by
 obtain ⟨t, h⟩ := h
 intro A Xo env oa s rm st ok
 exact Calls.Name_function_global ok.kind (ok.kindG x hx) (Calls.loadGlobal_global (by rw [ok.glob]; exact st.g) h ⟨st, Kp.refl, Qdy⟩) hb
theorem vs1 {vs : List Value} (h : vs.length = 1) : ∃ a, vs = [a] := List.length_eq_one_iff.mp h
theorem vs2 {vs : List Value} (h : vs.length = 2) : ∃ a b, vs = [a, b] := by
 cases vs with
 | nil => cases h
 | cons a t =>
  obtain ⟨b, rfl⟩ := vs1 (Nat.succ.inj h)
  exact ⟨a, b, rfl⟩
theorem vs3 {vs : List Value} (h : vs.length = 3) : ∃ a b c, vs = [a, b, c] := by
 cases vs with
 | nil => cases h
 | cons a t =>
  obtain ⟨b, c, rfl⟩ := vs2 (Nat.succ.inj h)
  exact ⟨a, b, c, rfl⟩
theorem vs4 {vs : List Value} (h : vs.length = 4) : ∃ a b c d, vs = [a, b, c, d] := by
 cases vs with
 | nil => cases h
 | cons a t =>
  obtain ⟨b, c, d, rfl⟩ := vs3 (Nat.succ.inj h)
  exact ⟨a, b, c, d, rfl⟩
theorem sp_isterminal (G : Gl C) {i : Int} : Spec C (n + 1) "ISTERMINAL" [.int i] (.bool (decide (i < 256))) :=
 .of (xs := ["x"]) G.isterminal (by decide +kernel) (by decide +kernel) rfl (fun pm cd doc vs h => by obtain ⟨a, rfl⟩ := vs1 h; rfl)
  (Qef (ev_cmp (Qab (by k_all) (by k_mem)) (ev_gint G.off (by k_all)) opc_lt) rfl)
theorem sp_isnonterminal (G : Gl C) {i : Int} : Spec C (n + 1) "ISNONTERMINAL" [.int i] (.bool (decide (256 <= i))) :=
 .of (xs := ["x"]) G.isnonterminal (by decide +kernel) (by decide +kernel) rfl (fun pm cd doc vs h => by obtain ⟨a, rfl⟩ := vs1 h; rfl)
  (Qef (ev_cmp (Qab (by k_all) (by k_mem)) (ev_gint G.off (by k_all)) opc_ge) rfl)
theorem sp_iseof (G : Gl C) {i : Int} : Spec C (n + 1) "ISEOF" [.int i] (.bool (i == 0)) :=
 .of (xs := ["x"]) G.iseof (by decide +kernel) (by decide +kernel) rfl (fun pm cd doc vs h => by obtain ⟨a, rfl⟩ := vs1 h; rfl)
  (Qef (ev_cmp (Qab (by k_all) (by k_mem)) (ev_gint G.endm (by k_all)) opc_eq) rfl)
theorem sp_count_calls (G : Gl C) {l : List (Int × PV)} {ns : List Int} (hl : l.map (·.2) = ns.map .int) : Spec C (n + 1) "count_calls" [.dctI l] (.int ns.sum) :=
 .of (xs := ["callers"]) G.count_calls (by decide +kernel) (by decide +kernel) rfl (fun pm cd doc vs h => by obtain ⟨a, rfl⟩ := vs1 h; rfl) (count_calls_body hl)
end
section
set_option tactic.hygienic false
noncomputable abbrev owned (x : Str) (d : PV) : Option (Str × PV) := some (x, d)
noncomputable def Qfg (x : Str) (n : Nat) : Str := ⟨(x.cps.toList.take n).toArray⟩
noncomputable def dropS (x : Str) (n : Nat) : Str := ⟨(x.cps.toList.drop n).toArray⟩
theorem Qal (x : Str) : x.cps.toList.length = x.length := by simp [Str.length]
theorem str_eq {x y : Str} (h : x.cps.toList = y.cps.toList) : x = y := by
 obtain ⟨a⟩ := x; obtain ⟨b⟩ := y; simp at h; simp [h]
theorem takeS_list (x : Str) (n : Nat) : (Qfg x n).cps.toList = x.cps.toList.take n := by simp [Qfg]
theorem dropS_list (x : Str) (n : Nat) : (dropS x n).cps.toList = x.cps.toList.drop n := by simp [dropS]
theorem sliceText_take (x : Str) (n : Nat) : StrLaws.sliceText x none (some (n : Int)) = Qfg x n := by
 by_cases h : n <= x.length
 ·rw [StrLaws.sliceText_to ⟨by lia, by rw [Qal]; lia⟩]
  apply str_eq; simp [Qfg]
 ·have := slice_to_beyond (x := x) (j := (n : Int)) (by lia)
  have e : StrLaws.sliceText x none (some (n : Int)) = StrLaws.sliceText x none (some (x.length : Int)) := this
  rw [e, StrLaws.sliceText_to ⟨by lia, by rw [Qal]; lia⟩]
  apply str_eq
  have h1 : x.cps.toList.take n = x.cps.toList := List.take_of_length_le (by rw [Qal]; lia)
  have h2 : x.cps.toList.take x.length = x.cps.toList := List.take_of_length_le (by rw [Qal]; lia)
  rw [takeS_list, h1]
  show (((x.cps.toList.drop 0).take ((x.length : Int) - 0).toNat).toArray).toList = _
  simpa using h2
theorem sliceText_drop (x : Str) (n : Nat) : StrLaws.sliceText x (some (n : Int)) none = dropS x n := by
 by_cases h : n <= x.length
 ·rw [StrLaws.sliceText_from ⟨by lia, by rw [Qal]; lia⟩]
  apply str_eq
  rw [dropS_list]
  simp only [Int.toNat_natCast]
  rw [List.take_of_length_le]
  rw [List.length_drop]
  lia
 ·have e : StrLaws.sliceText x (some (n : Int)) none = ⟨#[]⟩ := slice_from_beyond (x := x) (i := (n : Int)) (by lia)
  rw [e]
  apply str_eq
  rw [dropS_list, List.drop_of_length_le (by rw [Qal]; lia)]
theorem dropS_length (x : Str) (n : Nat) : (dropS x n).length = x.length - n := by rw [← Qal, dropS_list, List.length_drop, Qal]
noncomputable def szS (tab : List (Str × Int)) (t : Str) : Nat := if dhas tab (Qfg t 3) then 3 else if dhas tab (Qfg t 2) then 2 else 1
noncomputable def cutF (tab : List (Str × Int)) : Nat -> Str -> List Int
 | 0, _ => []
 | f + 1, t => if t.length = 0 then [] else (Qcm tab (Qfg t (szS tab t))).getD 0 :: cutF tab f (dropS t (szS tab t))
noncomputable def tabS (tab : List (Str × Int)) : List (Str × PV) := tab.map fun p => (p.1, .int p.2)
theorem dget_tabS (tab : List (Str × Int)) (k : Str) : Qcm (tabS tab) k = (Qcm tab k).map .int := by
 unfold Qcm tabS
 induction tab with
 | nil => rfl
 | cons p tab ih =>
  rw [List.map_cons, List.find?_cons, List.find?_cons]
  by_cases h : p.1 = k
  ·simp [h]
  ·simp only [h, decide_false]; exact ih
theorem dhas_tabS (tab : List (Str × Int)) (k : Str) : dhas (tabS tab) k = dhas tab k := by
 unfold dhas; rw [dget_tabS]; cases Qcm tab k <;> rfl
noncomputable def All1 (tab : List (Str × Int)) (t : Str) : Prop := ∀ c ∈ t.cps.toList, dhas tab ⟨#[c]⟩ = true
theorem All1.drop {tab : List (Str × Int)} {t : Str} (h : All1 tab t) (n : Nat) : All1 tab (dropS t n) := fun c hc => by
 rw [dropS_list] at hc; exact h c (List.mem_of_mem_drop hc)
theorem szS_has {tab : List (Str × Int)} {t : Str} (h : All1 tab t) (h0 : t.length ≠ 0) : dhas tab (Qfg t (szS tab t)) = true := by
 unfold szS
 split
 ·assumption
 split
 ·assumption
 ·have : t.cps.toList ≠ [] := fun e => h0 (by rw [← Qal, e]; rfl)
  cases q : t.cps.toList with
  | nil => exact absurd q this
  | cons c r =>
   have e : Qfg t 1 = ⟨#[c]⟩ := by apply str_eq; rw [takeS_list, q]; rfl
   rw [e]
   exact h c (by rw [q]; exact List.mem_cons_self)
theorem szS_pos (tab : List (Str × Int)) (t : Str) : 1 <= szS tab t /\ szS tab t <= 3 := by
 unfold szS; split <;> (try split) <;> lia
theorem cutF_succ {tab : List (Str × Int)} {t : Str} {f : Nat} (h : t.length <= f) : cutF tab f t = cutF tab t.length t := by
 have : ∀ (k : Nat) (t : Str), t.length <= k -> ∀ f, t.length <= f -> cutF tab f t = cutF tab k t := by
  intro k
  induction k with
  | zero =>
   intro t hk f hf
   cases f with
   | zero => rfl
   | succ f => simp only [cutF]; rw [if_pos (by lia)]
  | succ k ih =>
   intro t hk f hf
   cases f with
   | zero => simp only [cutF]; rw [if_pos (by lia)]
   | succ f =>
    simp only [cutF]
    by_cases h0 : t.length = 0
    ·rw [if_pos h0, if_pos h0]
    ·rw [if_neg h0, if_neg h0]
     have := szS_pos tab t
     have hd := dropS_length t (szS tab t)
     rw [ih _ (by lia) f (by lia)]
 exact this t.length t (Nat.le_refl _) f h
structure TabOK (C : Cfg) (td : PV) (tab : List (Str × Int)) : Prop where
 inn : ∀ {n : Nat} {k : Str}, OpC C n .In (.str k) td (dhas tab k)
 top : ∀ X s v, St C s -> Rel C X s.heap td v -> ∃ a, v = .ref a /\ Top C X s.heap (.dctS (tabS tab)) a
theorem TabOK.of (tab : List (Str × Int)) : TabOK C (.dctS (tabS tab)) tab where
 inn := by intro n k; rw [← dhas_tabS]; exact opc_in_dctS
 top := fun X s v st r => by obtain ⟨a, kvs, rfl, ⟨_, h1⟩, h2, h3⟩ := r; exact ⟨a, rfl, h1, kvs, h2, h3⟩
theorem TabOK.ev {td : PV} {tab : List (Str × Int)} (T : TabOK C td tab) {e : Expr} (h : Ev C n nm ρ ow e td) : EvT C n nm ρ ow e (.dctS (tabS tab)) := fun A Xo env oa s rm st ok =>
 wpAny_mono (h A Xo env oa s rm st ok) (fun v s' ⟨a, b, r⟩ => ⟨a, b, T.top _ _ _ a r⟩) nof
theorem cut_body {td : PV} {tab : List (Str × Int)} {t0 : Str} (T : TabOK C td tab) (ha : All1 tab t0) (hsz : t0.length <= 1000) (G : Gl C) (h4 : 4 <= n) :
  Ex C n (Qaf 69).names (Qax 69) [("text", .str t0), ("table", td)] none (fun _ _ => False) (fun e => e = .lst ((cutF tab t0.length t0).map .int)) := by
 refine Qai (exs_new_list (by k_all)) ?_
 refine Qbi (exs_while (N := fun ρ ow => ow = owned "told" (.lst ((cutF tab t0.length t0).map .int)))
  (fun k ρ ow => ∃ (t : Str) (told : List Int), k = t.length /\ ow = owned "told" (.lst (told.map .int)) /\ Qbp ρ "text" = some (.str t) /\ Qbp ρ "table" = some td /\ All1 tab t /\ told ++ cutF tab t.length t = cutF tab t0.length t0 /\ told.length + t.length <= 1000)
  (k0 := t0.length) ⟨t0, [], rfl, rfl, rfl, rfl, ha, rfl, by simpa using hsz⟩ ?_) ?_
 ·intro k ρ' _ hz
  apply byc;intro kz
  obtain ⟨t, told, rfl, rfl, ht, hT, ha, hR, hl⟩ := hz
  apply kz;clear kz
  refine ⟨(t != ""), Qbk (Qan (by k_all) (by k_mem)) Qdf Qfm, fun hb => ?_, fun hb => ?_⟩
  ·have h0 : t.length ≠ 0 := fun e => by
    have : t = "" := str_eq (by
     have : t.cps.toList = [] := List.eq_nil_of_length_eq_zero (by rw [Qal]; exact e)
     rw [this]; rfl)
    rw [this] at hb; simp at hb
   have hsz : t.length <= sizeLine := by unfold sizeLine; lia
   have hz := szS_pos tab t
   have slice : ∀ {nm' : Qck} {ρ'' : Qbs} {ow' : Option (Str × PV)} {e : Expr} {te : Expr} {p pos : Pos} {k : Nat}, Ev C n nm' ρ'' ow' te (.str t) -> Ev C n nm' ρ'' ow' e (.int (k : Int)) -> (∀ o r, letTemporaryGo te o r = pure ()) -> Ev C n nm' ρ'' ow' (.Subscript te (.Slice none (some e) none p) pos) (.str (Qfg t k)) := fun h1 h2 h3 => by
    rw [← sliceText_take]
    exact ev_slice_str h1 (by trivial) h2 hsz h3
   refine Qai (Qak (d := .int (szS tab t)) (Qbh G.b_max Qaq (by k_all) (Qaw (Qas (l := [(1 : Int), 2, 3]) (pv := .int) (f := .int) (bd := fun i => [("s", .int i)]) (p := fun i => dhas tab (Qfg t i.toNat))
    (Ev.it (d := .tup [.int 1, .int 2, .int 3]) (Qbz (Qao Qag (Qao Qag (Qao Qag Qdt))) (by decide +kernel)) rfl) Qac (by decide +kernel) ?_ ?_ (by decide +kernel)))
    (opF_max ?_ ?_)) (by k_all) (Qba (by decide +kernel))) ?_
   ·intro a p hp
    revert p; refine al ?_ an
    exact ⟨by k_all, by k_all⟩
   ·intro i hi
    refine ⟨Qcl ?_, fun _ => Qab (by k_all) (by k_mem)⟩
    have hi' : ∃ k : Nat, i = k := ⟨i.toNat, by simp at hi; lia⟩
    obtain ⟨k, rfl⟩ := hi'
    exact Qbk (slice (Qan (by k_all) (by k_mem)) (Qab (by k_all) (by k_mem)) (by intro _ _; rfl)) (Qan (by k_all) (by k_mem)) T.inn
   ·have := szS_has ha h0
    unfold szS at this ⊢
    by_cases h3 : dhas tab (Qfg t 3) = true
    ·simp [h3]
    ·by_cases h2 : dhas tab (Qfg t 2) = true
     ·simp [h3, h2]
     ·simp only [h3, h2] at this
      simp [h3, h2]
      simpa using this
   ·intro x hx
    rw [List.mem_filter] at hx
    obtain ⟨hy, hp⟩ := hx
    revert x; refine al ?_ (al ?_ (al ?_ an)) <;> intro hp
    ·have := (szS_pos tab t).1; show (1 : Int) <= (szS tab t : Int); lia
    ·have hp' : dhas tab (Qfg t 2) = true := hp
     unfold szS; rw [if_pos hp']; split <;> decide
    ·have hp' : dhas tab (Qfg t 3) = true := hp
     unfold szS; rw [if_pos hp']; decide
   obtain ⟨v, hv⟩ := Option.isSome_iff_exists.mp (show (Qcm tab (Qfg t (szS tab t))).isSome = true from szS_has ha h0)
   refine Qai (exs_append (d := .int v) (by k_all) (ev_sub_dctS (k := Qfg t (szS tab t)) (T.ev (Qan (by k_all) (by k_mem))) (slice (Qan (by k_all) (by k_mem)) (Qab (by k_all) (by k_mem)) (by intro _ _; rfl)) (by rw [dget_tabS, hv]; rfl)) (by simp only [List.length_map]; unfold sizeLine; lia)) ?_
   refine Qai (Qak (d := .str (dropS t (szS tab t))) ?_ (by k_all) (Qba (by decide +kernel))) ?_
   ·rw [← sliceText_drop]
    exact ev_slice_str (Qan (by k_all) (by k_mem)) (Qab (by k_all) (by k_mem)) (by trivial) hsz
   have hd := dropS_length t (szS tab t)
   refine Qcb ⟨(dropS t (szS tab t)).length, by lia, dropS t (szS tab t), told ++ [v], rfl, by simp, by k_mem, by k_mem, ha.drop _, ?_, ?_⟩
   ·rw [← hR]
    have : cutF tab t.length t = v :: cutF tab (dropS t (szS tab t)).length (dropS t (szS tab t)) := by
     obtain ⟨f, hf⟩ : ∃ f, t.length = f + 1 := ⟨t.length - 1, by lia⟩
     rw [hf]
     simp only [cutF]
     rw [if_neg h0, hv, cutF_succ (f := f) (by lia)]
     rfl
    rw [this, List.append_assoc]; rfl
   ·simp only [List.length_append, List.length_cons, List.length_nil]; lia
  ·have h0 : t.length = 0 := by
    have : t = "" := by simpa using hb
    rw [this]; rfl
   rw [← hR, h0]
   simp [cutF]
 ·rintro ρ' _ rfl
  exact ex_freeze (Qef (Qab (by k_all) (by k_mem)) rfl)
end
section
set_option tactic.hygienic false
noncomputable def tabI (S : List (Int × Int)) : List (Int × PV) := S.map fun p => (p.1, .int p.2)
theorem dget_map {K β γ : Type} [DecidableEq K] (g : β -> γ) (S : List (K × β)) (k : K) : Qcm (S.map fun p => (p.1, g p.2)) k = (Qcm S k).map g := by
 unfold Qcm
 induction S with
 | nil => rfl
 | cons p S ih =>
  rw [List.map_cons, List.find?_cons, List.find?_cons]
  by_cases h : p.1 = k
  ·simp [h]
  ·simp only [h, decide_false]; exact ih
theorem dget_tabI (S : List (Int × Int)) (k : Int) : Qcm (tabI S) k = (Qcm S k).map .int := dget_map _ S k
theorem dhas_tabI (S : List (Int × Int)) (k : Int) : dhas (tabI S) k = dhas S k := by unfold dhas; rw [dget_tabI]; cases Qcm S k <;> rfl
theorem dset_map {K β γ : Type} [DecidableEq K] (g : β -> γ) (S : List (K × β)) (k : K) (v : β) : Qdb (S.map fun p => (p.1, g p.2)) k (g v) = (Qdb S k v).map fun p => (p.1, g p.2) := by
 unfold Qdb
 have h1 : (S.map fun p => (p.1, g p.2)).any (fun kv => kv.1 = k) = S.any fun kv => kv.1 = k := by rw [List.any_map]; rfl
 rw [h1]
 split
 ·rw [List.map_map, List.map_map]
  apply List.map_congr_left
  intro p _
  by_cases h : p.1 = k <;> simp [h]
 ·simp
theorem dset_tabI (S : List (Int × Int)) (k v : Int) : Qdb (tabI S) k (.int v) = tabI (Qdb S k v) := dset_map PV.int S k v
theorem dfold_map {α K β γ : Type} [DecidableEq K] (g : β -> γ) (ky : α -> K) (f : α -> β) (l : List α) : Qcv ky (fun a => g (f a)) l = (Qcv ky f l).map fun p => (p.1, g p.2) := by
 have : ∀ (l : List α) (acc : List (K × β)), l.foldl (fun acc a => Qdb acc (ky a) (g (f a))) (acc.map fun p => (p.1, g p.2)) = (l.foldl (fun acc a => Qdb acc (ky a) (f a)) acc).map fun p => (p.1, g p.2) := by
  intro l
  induction l with
  | nil => intro acc; rfl
  | cons a l ih => intro acc; rw [List.foldl_cons, List.foldl_cons, dset_map, ih]
 exact this l []
theorem dset_keys {K β : Type} [DecidableEq K] (S : List (K × β)) (k : K) (v : β) : (Qdb S k v).map (·.1) = if (S.map (·.1)).contains k then S.map (·.1) else S.map (·.1) ++ [k] := by
 unfold Qdb
 have h1 : S.any (fun kv => kv.1 = k) = (S.map (·.1)).contains k := by
  rw [Bool.eq_iff_iff]
  simp only [List.any_eq_true, decide_eq_true_eq, List.contains_iff_mem, List.mem_map]
 rw [h1]
 split
 ·rw [List.map_map]
  apply List.map_congr_left
  intro p _
  simp only [Function.comp]
  split <;> simp_all
 ·simp
theorem Qft {K β : Type} [DecidableEq K] {S : List (K × β)} (h : (S.map (·.1)).Nodup) (k : K) (v : β) : ((Qdb S k v).map (·.1)).Nodup := by
 rw [dset_keys]
 split
 ·exact h
 ·rename_i hn
  rw [List.nodup_append]
  refine ⟨h, by simp, ?_⟩
  intro a ha b hb
  revert b; refine al ?_ an
  rintro rfl
  exact hn (by simpa [List.contains_iff_mem] using ha)
theorem Qeo {K β : Type} [DecidableEq K] {S : List (K × β)} {k x : K} {v : β} (h : x ∈ (Qdb S k v).map (·.1)) : x ∈ S.map (·.1) ∨ x = k := by
 rw [dset_keys] at h
 split at h
 ·exact .inl h
 ·rw [List.mem_append, List.mem_singleton] at h; exact h
theorem Qcs {α : Type} [DecidableEq α] : ∀ {l m : List α}, l.Nodup -> (∀ x ∈ l, x ∈ m) -> l.length <= m.length
 | [], _, _, _ => Nat.zero_le _
 | a :: l, m, hn, hs => by
  rw [List.nodup_cons] at hn
  have hm := hs a List.mem_cons_self
  have ih := Qcs (l := l) (m := m.erase a) hn.2 fun x hx => (List.mem_erase_of_ne (fun q : x = a => hn.1 (by rw [← q]; exact hx))).mpr (hs x (List.mem_cons_of_mem _ hx))
  rw [List.length_erase_of_mem hm] at ih
  have : 0 < m.length := List.length_pos_of_mem hm
  simp only [List.length_cons]; lia
theorem opF_min2 {a b : Int} : OpF C n (.builtin "min") [.int a, .int b] (.int (min a b)) := opF_two fun A s va vb X hh st lo r1 r2 => by
 have lo' : LowX X (s.heap.push (Qay "tuple" [va, vb] 0)) := fun a q => let ⟨o, ho, hc⟩ := lo a q; ⟨o, Qaa _ _ ho, hc⟩
 have st' : St C { s with heap := s.heap.push (Qay "tuple" [va, vb] 0) } := st.of_keep Qaa rfl rfl
 have rt := new_tup lo (Qbc r1 (Qbc r2 Qbw))
 have it : ∀ A : Around, wpAny (Mo C) A (pyIter (.ref s.heap.objs.size)) (PostIt C X { s with heap := s.heap.push (Qay "tuple" [va, vb] 0) } ([a, b].map .int) fun b => ¬ X b) NoE { s with heap := s.heap.push (Qay "tuple" [va, vb] 0) } :=
  fun A => Qga st' rt rfl
 refine Qbj st.pos (call_min_two (wpAny_mono (it A.in1) (fun it s₂ hz => ?_) nof))
 apply byc;intro kz
 obtain ⟨st2, k2, I, fp, wr, P, Stt, V, e, D, hS, hV, hlt⟩ := hz
 apply kz;clear kz
 refine ⟨I, fp, wr, _, _, Stt, _, e, (walksInN (D.W A.in1 hh)), hS, fun b hb => (hlt b hb).elim fun o e => Heap.lt_size e, by simp, CmpOf.ints_lt (fun i => [a, b][i]?.getD 0) (Qgb D hV), fun v h' tk hP hk hp => ?_⟩
 obtain ⟨st3, k3⟩ := itr_end st' st2 k2 D hS hk hp
 refine ⟨st3, fun b o h e => k3 b o h (Qaa b o e), ?_⟩
 obtain ⟨t, rfl⟩ := Qgb D hV _ _ hP
 have : [a, b][argBest (fun i j => decide ([a, b][i]?.getD 0 < [a, b][j]?.getD 0)) (([a, b].map PV.int).length - 1)]?.getD 0 = min a b := by
  simp only [List.map_cons, List.map_nil, List.length_cons, List.length_nil, Nat.add_one_sub_one, argBest]
  by_cases h : b < a
  ·simp [h]; lia
  ·simp [h]; lia
 rw [this]; exact Qbr
noncomputable def Qei (levels : List Int) (h dn up : Int) : List Int := levels.filter fun l => decide (h - dn <= l) && decide (l <= h + up)
noncomputable def updC (to : Int) (p : Int × Int) : Int := p.2 + (if to < p.1.fdiv 2 /\ p.1.fmod 2 = 1 then 1 else 0)
noncomputable def updN (to : Int) (p : Int × Int) : Int := 2 * to + (if to > p.1.fdiv 2 then 1 else if to < p.1.fdiv 2 then 0 else p.1.fmod 2)
noncomputable def updS (to : Int) (more : List (Int × Int)) (p : Int × Int) : List (Int × Int) := Qdb more (updN to p) (match Qcm more (updN to p) with | some v => min (updC to p) v | none => updC to p)
noncomputable def stepS (levels : List Int) (dn up : Int) (S : List (Int × Int)) (h : Int) : List (Int × Int) := (Qei levels h dn up).foldl (fun more to => S.foldl (updS to) more) []
noncomputable def startS (levels : List Int) (dn up h : Int) : List (Int × Int) := Qcv (fun to => 2 * to + 1) (fun _ => 0) (Qei levels h dn up)
noncomputable def runS (levels : List Int) (dn up : Int) (h0 : Int) (hs : List Int) : List (Int × Int) := hs.foldl (stepS levels dn up) (startS levels dn up h0)
structure OkS (levels : List Int) (S : List (Int × Int)) : Prop where
 nd : (S.map (·.1)).Nodup
 mem : ∀ k ∈ S.map (·.1), ∃ to ∈ levels, k = 2 * to ∨ k = 2 * to + 1
theorem OkS.nil {levels : List Int} : OkS levels [] := ⟨List.nodup_nil, fun _ h => nomatch h⟩
theorem OkS.len {levels : List Int} {S : List (Int × Int)} (h : OkS levels S) : S.length <= 2 * levels.length := by
 have := Qcs (m := levels.map (fun t => 2 * t) ++ levels.map fun t => 2 * t + 1) h.nd fun x hx => by
  obtain ⟨to, hto, e⟩ := h.mem x hx
  rw [List.mem_append, List.mem_map, List.mem_map]
  rcases e with e | e
  ·exact .inl ⟨to, hto, e.symm⟩
  ·exact .inr ⟨to, hto, e.symm⟩
 simp at this; lia
theorem OkS.set {levels : List Int} {S : List (Int × Int)} (h : OkS levels S) {k v : Int} (hk : ∃ to ∈ levels, k = 2 * to ∨ k = 2 * to + 1) : OkS levels (Qdb S k v) :=
 ⟨Qft h.nd k v, fun x hx => (Qeo hx).elim (h.mem x) fun q => q ▸ hk⟩
theorem fmod2 (a : Int) : a.fmod 2 = 0 ∨ a.fmod 2 = 1 := by
 have h : a.fmod 2 = a % 2 := Int.fmod_eq_emod_of_nonneg a (by decide)
 rw [h]; lia
theorem updN_of {to : Int} {p : Int × Int} : updN to p = 2 * to ∨ updN to p = 2 * to + 1 := by
 unfold updN
 have := fmod2 p.1
 split
 ·lia
 split <;> lia
theorem OkS.upd {levels : List Int} {S : List (Int × Int)} (h : OkS levels S) {to : Int} (ht : to ∈ levels) (p : Int × Int) : OkS levels (updS to S p) := h.set ⟨to, ht, updN_of⟩
theorem OkS.fold {levels : List Int} {to : Int} (ht : to ∈ levels) : ∀ (T : List (Int × Int)) {S : List (Int × Int)}, OkS levels S -> OkS levels (T.foldl (updS to) S)
 | [], _, h => h
 | p :: T, _, h => OkS.fold ht T (h.upd ht p)
theorem OkS.fold2 {levels : List Int} {T : List (Int × Int)} : ∀ (ts : List Int), (∀ t ∈ ts, t ∈ levels) -> ∀ {S : List (Int × Int)}, OkS levels S -> OkS levels (ts.foldl (fun more to => T.foldl (updS to) more) S)
 | [], _, _, h => h
 | t :: ts, ht, _, h => OkS.fold2 ts (fun x hx => ht x (List.mem_cons_of_mem _ hx)) (h.fold (ht t List.mem_cons_self) T)
theorem admiss_mem {levels : List Int} {h dn up t : Int} (ht : t ∈ Qei levels h dn up) : t ∈ levels := (List.mem_filter.mp ht).1
theorem OkS.step {levels : List Int} {dn up : Int} {S : List (Int × Int)} (h : Int) : OkS levels (stepS levels dn up S h) := .fold2 _ (fun _ => admiss_mem) .nil
theorem OkS.start {levels : List Int} {dn up h : Int} : OkS levels (startS levels dn up h) := by
 have : ∀ (l : List Int), (∀ t ∈ l, t ∈ levels) -> ∀ {S : List (Int × Int)}, OkS levels S -> OkS levels (l.foldl (fun acc to => Qdb acc (2 * to + 1) 0) S) := by
  intro l
  induction l with
  | nil => intro _ S h; exact h
  | cons t l ih => intro ht S h; exact ih (fun x hx => ht x (List.mem_cons_of_mem _ hx)) (h.set ⟨t, ht t List.mem_cons_self, .inr rfl⟩)
 exact this _ (fun _ => admiss_mem) .nil
end
section
set_option tactic.hygienic false
theorem Qap {α : Type} (l : List α) : l.filter (fun _ => true) = l := List.filter_eq_self.mpr fun _ _ => rfl
theorem mul2 {a : Int} : IntMulOk 2 a := IntMulOk.of_left (by decide +kernel)
theorem slice1 {α : Type} (l : List α) : ((l.drop ((some (1 : Int)).elim 0 (clipAt l.length))).take ((none : Option Int).elim l.length (clipAt l.length) - (some (1 : Int)).elim 0 (clipAt l.length))) = l.drop 1 := by
 have h := clipAt_cast l.length 1
 have h2 : clipAt l.length 1 = min 1 l.length := by
  simp at h; lia
 simp only [Option.elim, h2]
 cases l with
 | nil => rfl
 | cons a l => simp
theorem Qfq {t b o : Expr} {pos : Pos} {c : Bool} {x y : Int} (ht : Tv C n nm ρ ow t c) (h1 : Ev C n nm ρ ow b (.int x)) (h2 : Ev C n nm ρ ow o (.int y)) : Ev C n nm ρ ow (.IfExp t b o pos) (.int (if c then x else y)) := by
 have := Qge (pos := pos) ht (fun _ => h1) (fun _ => h2)
 cases c <;> exact this
theorem tgt_one {x : Str} {d : PV} (hx : (Qdm nm x || Qdi nm x) = true) (hw : NotOw ow x) : Tgt nm ow [(x, d)] := fun p hp => by
 revert p; refine al ?_ an; exact ⟨hx, hw⟩
theorem Qat {x : Str} {d : PV} (hx : (Qdm nm x || Qdi nm x) = true) (hf : Qdw nm x = false) : TgtC nm [(x, d)] := fun p hp => by
 revert p; refine al ?_ an; exact ⟨hx, hf⟩
theorem tv_and2 {e f : Expr} {pos : Pos} {b c : Bool} (h1 : Tv C n nm ρ ow e b) (h2 : b = true -> Tv C n nm ρ ow f c) : Tv C n nm ρ ow (.BoolOp .And [e, f] pos) (b && c) := by
 have := tv_and (pos := pos) h1 fun hb => tv_and (pos := pos) (h2 hb) fun _ => tv_and_nil
 simpa using this
theorem tv_or2 {e f : Expr} {pos : Pos} {b c : Bool} (h1 : Tv C n nm ρ ow e b) (h2 : b = false -> Tv C n nm ρ ow f c) : Tv C n nm ρ ow (.BoolOp .Or [e, f] pos) (b || c) := by
 have := tv_or (pos := pos) h1 fun hb => tv_or (pos := pos) (h2 hb) fun _ => tv_or_nil
 simpa using this
theorem dget_key {K β : Type} [DecidableEq K] {S : List (K × β)} (hn : (S.map (·.1)).Nodup) {i : Nat} {p : K × β} (h : S[i]? = some p) : Qcm S p.1 = some p.2 := dget_mem hn (List.mem_of_getElem? h)
theorem fewest_body {h0 : Int} {hs lv : List Int} {dn up m : Int} (hlv : lv.length <= 1000) (hhs : hs.length <= 1000) (G : Gl C) (h4 : 4 <= n)
  (hm : m ∈ (runS lv dn up h0 hs).map (fun p => p.2 + p.1.fmod 2)) (hle : ∀ x ∈ (runS lv dn up h0 hs).map (fun p => p.2 + p.1.fmod 2), m <= x) :
  Ex C n (Qaf 73).names (Qax 73) [("high", .lst ((h0 :: hs).map .int)), ("levels", .lst (lv.map .int)), ("down", .int dn), ("up", .int up)] none (fun _ _ => False) (fun e => e = .int m) := by
 have hsz : ∀ {S : List (Int × Int)}, OkS lv S -> (tabI S).length <= sizeLine := fun h => by
  have := h.len
  simp only [tabI, List.length_map]; unfold sizeLine; lia
 have hsz' : ∀ {S : List (Int × Int)}, OkS lv S -> S.length <= sizeLine := fun h => by
  have := h.len
  unfold sizeLine; lia
 refine Qai (exs_dictcompI (x := "states") (l := lv) (pv := .int) (f := fun _ => .int 0) (ky := fun to => 2 * to + 1) (bd := fun i => [("to", .int i)]) (p := fun to => decide (h0 - dn <= to) && decide (to <= h0 + up)) (by k_all) Qad
  (Ev.it (Qab (by k_all) (by k_mem)) rfl) Qac (by decide +kernel) (fun a => Qat (by k_all) (by k_all)) ?_ (by unfold sizeLine; lia)) ?_
 ·intro to hto
  refine ⟨Qcl (tv_chain (Qaj (Qar (i := 0) (Ev.tl (Qan (by k_all) (by k_mem))) Qag (by decide) rfl (by decide)) (Qan (by k_all) (by k_mem)) Qav) (Qab (by k_all) (by k_mem))
   (Qaj (Qar (i := 0) (Ev.tl (Qan (by k_all) (by k_mem))) Qag (by decide) rfl (by decide)) (Qan (by k_all) (by k_mem)) Qbo) opc_le opc_le), fun _ => ⟨?_, Qag⟩⟩
  exact Qaj (Qaj Qag (Qab (by k_all) (by k_mem)) (Qcn mul2)) Qag Qbo
 rw [show Qcv (fun to => 2 * to + 1) (fun _ => PV.int 0) (lv.filter fun to => decide (h0 - dn <= to) && decide (to <= h0 + up)) = tabI (startS lv dn up h0) from dfold_map PV.int _ (fun _ => (0 : Int)) _]
 have hsl : ∀ {ρ' : Qbs}, Qbp ρ' "high" = some (.lst ((h0 :: hs).map .int)) -> ∀ {ps pp : Pos}, True := fun _ _ _ => trivial
 refine Qbi (Qez (l := hs) (pv := .int) (bd := fun i => [("height", .int i)]) (I := fun i ρ ow => ow = none /\ Qbp ρ "states" = some (.dctI (tabI (runS lv dn up h0 (hs.take i)))) /\ Qbp ρ "levels" = some (.lst (lv.map .int)) /\ Qbp ρ "down" = some (.int dn) /\ Qbp ρ "up" = some (.int up))
  ((ev_slice_lst (lo := some 1) (hi := none) (Ev.tl (Qan (by k_all) (by k_mem))) Qag (by trivial) (by simp; unfold sizeLine; lia)).itF (by rw [slice1]; rfl)) Qac ⟨rfl, by k_mem, by k_mem, by k_mem, by k_mem⟩ ?_) ?_
 ·rintro i h ρ' _ hih ⟨rfl, hst, hlev, hdn, hup⟩
  refine ⟨tgt_one (by k_all) Qad, ?_⟩
  have okS : OkS lv (runS lv dn up h0 (hs.take i)) := by
   unfold runS
   cases q : (hs.take i).reverse with
   | nil => rw [show hs.take i = [] by simpa using q]; exact .start
   | cons a r =>
    have : hs.take i = r.reverse ++ [a] := by rw [← List.reverse_reverse (hs.take i), q]; simp
    rw [this, List.foldl_append]; exact .step _
  have hnext : runS lv dn up h0 (hs.take (i + 1)) = stepS lv dn up (runS lv dn up h0 (hs.take i)) h := by
   unfold runS
   rw [List.take_add_one, hih, List.foldl_append]; rfl
  generalize runS lv dn up h0 (hs.take i) = S at hst okS hnext
  rw [hnext]
  refine Qai (exs_new_dict (by k_all)) ?_
  refine Qbi (Qez (l := Qei lv h dn up) (pv := .int) (bd := fun i => [("to", .int i)]) (I := fun j ρ ow => ow = owned "more" (.dctI (tabI (((Qei lv h dn up).take j).foldl (fun more to => S.foldl (updS to) more) []))) /\ Qbp ρ "states" = some (.dctI (tabI S)) /\ Qbp ρ "levels" = some (.lst (lv.map .int)) /\ Qbp ρ "down" = some (.int dn) /\ Qbp ρ "up" = some (.int up))
   (Ev.itF (Qas (l := lv) (pv := .int) (f := .int) (bd := fun i => [("level", .int i)]) (p := fun l => decide (h - dn <= l) && decide (l <= h + up)) (Ev.it (Qab (by k_all) (by k_mem)) rfl) Qac (by decide +kernel) (fun a => Qat (by k_all) (by k_all)) ?_ (by unfold sizeLine; lia)) rfl)
   Qac ⟨rfl, by k_mem, by k_mem, by k_mem, by k_mem⟩ ?_) ?_
  ·intro l hl
   exact ⟨Qcl (tv_chain (Qaj (Qan (by k_all) (by k_mem)) (Qan (by k_all) (by k_mem)) Qav) (Qab (by k_all) (by k_mem)) (Qaj (Qan (by k_all) (by k_mem)) (Qan (by k_all) (by k_mem)) Qbo) opc_le opc_le), fun _ => Qab (by k_all) (by k_mem)⟩
  ·rintro j to ρ' _ hj ⟨rfl, hst, hlev, hdn, hup⟩
   refine ⟨tgt_one (by k_all) (Qba (by decide +kernel)), ?_⟩
   have hto : to ∈ lv := admiss_mem (List.mem_of_getElem? hj)
   have okM : OkS lv (((Qei lv h dn up).take j).foldl (fun more to => S.foldl (updS to) more) []) := .fold2 _ (fun t ht => admiss_mem (List.mem_of_mem_take ht)) .nil
   have hnext : ((Qei lv h dn up).take (j + 1)).foldl (fun more to => S.foldl (updS to) more) [] = S.foldl (updS to) (((Qei lv h dn up).take j).foldl (fun more to => S.foldl (updS to) more) []) := by
    rw [List.take_add_one, hj, List.foldl_append]; rfl
   rw [hnext]
   generalize ((Qei lv h dn up).take j).foldl (fun more to => S.foldl (updS to) more) [] = M0 at okM
   refine (Qbi (Qez (l := S) (pv := fun p => .int p.1) (bd := fun p => [("state", .int p.1)]) (I := fun k ρ ow => ow = owned "more" (.dctI (tabI ((S.take k).foldl (updS to) M0))) /\ Qbp ρ "to" = some (.int to) /\ Qbp ρ "states" = some (.dctI (tabI S)) /\ Qbp ρ "levels" = some (.lst (lv.map .int)) /\ Qbp ρ "down" = some (.int dn) /\ Qbp ρ "up" = some (.int up))
    (Ev.itF (Qan (by k_all) (by k_mem)) (by show some ((tabI _).map _) = _; simp only [tabI, List.map_map]; rfl)) Qac ⟨rfl, by k_mem, by k_mem, by k_mem, by k_mem, by k_mem⟩ ?_) ?_)
   ·rintro k p ρ' _ hk ⟨rfl, hto', hst, hlev, hdn, hup⟩
    refine ⟨tgt_one (by k_all) (Qba (by decide +kernel)), ?_⟩
    have okM' : OkS lv ((S.take k).foldl (updS to) M0) := okM.fold hto _
    have hnext : (S.take (k + 1)).foldl (updS to) M0 = updS to ((S.take k).foldl (updS to) M0) p := by
     rw [List.take_add_one, hk, List.foldl_append]; rfl
    rw [hnext]
    generalize (S.take k).foldl (updS to) M0 = M at okM'
    have hc : Qcm (tabI S) p.1 = some (.int p.2) := by rw [dget_tabI, dget_key okS.nd hk]; rfl
    refine Qai (Qak (d := .int (p.1.fdiv 2)) (Qaj (Qab (by k_all) (by k_mem)) Qag (Qdq (by decide) (PyProof.noPylong_small (by decide)))) (by k_all) (Qba (by decide +kernel))) ?_
    refine Qai (Qak (d := .int (updC to p)) ?_ (by k_all) (Qba (by decide +kernel))) ?_
    ·refine Ev.cast (Qaj (Qdl (Ev.ti (Qan (by k_all) (by k_mem))) (Qab (by k_all) (by k_mem)) hc)
      (Qfq (tv_and2 (Qbk (Qab (by k_all) (by k_mem)) (Qab (by k_all) (by k_mem)) opc_lt) fun _ => Qbk (Qaj (Qab (by k_all) (by k_mem)) Qag (Qco (by decide))) Qag opc_eq) Qag Qag) Qbo) ?_
     unfold updC
     congr 2
     by_cases h1 : to < p.1.fdiv 2 <;> by_cases h2 : p.1.fmod 2 = 1 <;> simp [h1, h2]
    refine Qai (Qak (d := .int (updN to p)) ?_ (by k_all) (Qba (by decide +kernel))) ?_
    ·refine Ev.cast (Qaj (Qaj Qag (Qab (by k_all) (by k_mem)) (Qcn mul2))
      (Qfq (Qbk (Qab (by k_all) (by k_mem)) (Qab (by k_all) (by k_mem)) opc_gt) Qag
       (Qfq (Qbk (Qab (by k_all) (by k_mem)) (Qab (by k_all) (by k_mem)) opc_lt) Qag (Qaj (Qab (by k_all) (by k_mem)) Qag (Qco (by decide))))) Qbo) ?_
     unfold updN
     congr 2
     by_cases h1 : p.1.fdiv 2 < to <;> by_cases h2 : to < p.1.fdiv 2 <;> simp [h1, h2]
    refine Qai (exs_dset (k := updN to p) (d := .int (match Qcm M (updN to p) with | some v => min (updC to p) v | none => updC to p)) (by k_all) ?_ (Qab (by k_all) (by k_mem)) (hsz okM')) ?_
    ·cases hd : Qcm M (updN to p) with
     | none =>
      have hh : dhas (tabI M) (updN to p) = false := by rw [dhas_tabI]; unfold dhas; rw [hd]; rfl
      refine Ev.cast (Qge (c := false) (d1 := .none) (Tv.cast (tv_in_own (Qab (by k_all) (by k_mem)) (evT_own (by k_all))) hh) (fun q => nomatch q) fun _ => Qab (by k_all) (by k_mem)) rfl
     | some v =>
      have hh : dhas (tabI M) (updN to p) = true := by rw [dhas_tabI]; unfold dhas; rw [hd]; rfl
      refine Ev.cast (Qge (c := true) (d2 := .none) (Tv.cast (tv_in_own (Qab (by k_all) (by k_mem)) (evT_own (by k_all))) hh) (fun _ => Qbh G.b_min Qaq (by k_all) (Qby (Qab (by k_all) (by k_mem))
       (Qdl (evT_own (by k_all)) (Qab (by k_all) (by k_mem)) (by rw [dget_tabI, hd]; rfl))) opF_min2) (fun q => nomatch q)) rfl
    exact Qcb ⟨by rw [dset_tabI]; rfl, by k_mem, by k_mem, by k_mem, by k_mem, by k_mem⟩
   ·rintro ρ' _ ⟨rfl, _, h1, h2, h3, h4⟩
    rw [List.take_length]
    exact Qcb ⟨rfl, h1, h2, h3, h4⟩
  ·rintro ρ' _ ⟨rfl, h1, h2, h3, h4⟩
   rw [List.take_length]
   refine ex_freeze (Qai (Qak (d := .dctI (tabI (stepS lv dn up S h))) (Qab (by k_all) (by k_mem)) (by k_all) Qad) (Qcb ⟨rfl, by k_mem, by k_mem, by k_mem, by k_mem⟩))
 ·rintro ρ' _ ⟨rfl, h1, _⟩
  rw [List.take_length] at h1
  have okS : OkS lv (runS lv dn up h0 hs) := by
   unfold runS
   cases q : hs.reverse with
   | nil => rw [show hs = [] by simpa using q]; exact .start
   | cons a r =>
    have : hs = r.reverse ++ [a] := by rw [← List.reverse_reverse hs, q]; simp
    rw [this, List.foldl_append]; exact .step _
  generalize runS lv dn up h0 hs = S at h1 okS hm hle
  refine Qef (Qbh G.b_min Qaq (by k_all) (Qaw (d := .lst ((S.map (fun p => p.2 + p.1.fmod 2)).map .int)) ?_) (opF_min hm hle)) rfl
  refine Ev.cast (Qas (l := S) (pv := fun p => .int p.1) (f := fun p => .int (p.2 + p.1.fmod 2)) (bd := fun p => [("state", .int p.1)]) (p := fun _ => true)
   (Ev.it (Qan (by k_all) (by k_mem)) (by show some ((tabI _).map _) = _; simp only [tabI, List.map_map]; rfl)) Qac (by decide +kernel) (fun a => Qat (by k_all) (by k_all)) ?_ (hsz' okS)) ?_
  ·intro p hp
   have hc : Qcm (tabI S) p.1 = some (.int p.2) := by rw [dget_tabI, dget_mem okS.nd hp]; rfl
   exact ⟨Qbe, fun _ => Qaj (Qdl (Ev.ti (Qan (by k_all) (by k_mem))) (Qab (by k_all) (by k_mem)) hc) (Qaj (Qab (by k_all) (by k_mem)) Qag (Qco (by decide))) Qbo⟩
  ·rw [Qap, List.map_map]; rfl
theorem sp_fewest {h0 : Int} {hs lv : List Int} {dn up m : Int} (hlv : lv.length <= 1000) (hhs : hs.length <= 1000) (G : Gl C)
  (hm : m ∈ (runS lv dn up h0 hs).map (fun p => p.2 + p.1.fmod 2)) (hle : ∀ x ∈ (runS lv dn up h0 hs).map (fun p => p.2 + p.1.fmod 2), m <= x) :
  Spec C 5 "_law_fewest" [.lst ((h0 :: hs).map .int), .lst (lv.map .int), .int dn, .int up] (.int m) :=
 .of (xs := ["high", "levels", "down", "up"]) G.fewest (by decide +kernel) (by decide +kernel) rfl (fun pm cd doc vs h => by obtain ⟨a, b, c, d, rfl⟩ := vs4 h; rfl) (fewest_body hlv hhs G (Nat.le_refl _) hm hle)
end
section
set_option tactic.hygienic false
theorem Tit.at' {h h' : Heap} {a t : Addr} {i : Nat} (x : h.IsTupleIter a t i) (k : ∀ o, h.get? a = some o -> h'.get? a = some o) : h'.IsTupleIter a t i := let ⟨o, e, r⟩ := x; ⟨o, k o e, r⟩
theorem Tup.at' {h h' : Heap} {a : Addr} {vs : Array Value} (x : h.IsTuple a vs) (k : ∀ o, h.get? a = some o -> h'.get? a = some o) : h'.IsTuple a vs := let ⟨o, e, r⟩ := x; ⟨o, k o e, r⟩
theorem Tit.lt {h : Heap} {a t : Addr} {i : Nat} (x : h.IsTupleIter a t i) : a < h.objs.size := let ⟨_, e, _⟩ := x; Heap.lt_size e
theorem Tup.lt {h : Heap} {a : Addr} {vs : Array Value} (x : h.IsTuple a vs) : a < h.objs.size := let ⟨_, e, _⟩ := x; Heap.lt_size e
theorem tnext_item {it t : Addr} {i : Nat} {vs : Array Value} {x : Value} {Q : Value -> Shared -> Prop} (hit : s.heap.IsTupleIter it t i) (ht : s.heap.IsTuple t vs) (hx : vs[i]? = some x)
  (hQ : ∀ h', h'.IsTupleIter it t (i + 1) -> Heap.SameBut it s.heap h' -> Q x { s with heap := h' }) : wpAny (Mo C) A (Builtin.SmallTypes.nextOf (.ref it)) Q E s := by
 obtain ⟨o, ho, hc, hd⟩ := id hit
 obtain ⟨ol, hol, _, nl, hdl⟩ := ht
 unfold Builtin.SmallTypes.nextOf
 refine wpAny_bind (wpAny_callSpecial?_slot (name := Str.ofString "__next__") hit.typeIs F.slot_tuple_iterator_next (wpAny_call_entry F.slot_tuple_iterator_next hit.typeIs F.entry_tuple_iterator_next ?_ (F.args_tuple_iterator_next_1 _)))
 show wpAny _ _ (field (.ref it) 0 >>= _) _ _ s
 refine wpAny_bind (wpAny_field ho hd (x := .ref t) rfl ?_)
 show wpAny _ _ (if (Value.ref t == Value.none) = true then _ else _) _ _ s
 rw [if_neg (show ¬ ((Value.ref t == Value.none) = true) from Bool.false_ne_true)]
 show wpAny _ _ (field (.ref it) 1 >>= _) _ _ s
 refine wpAny_bind (wpAny_field ho hd (x := .int i 0) rfl ?_)
 show wpAny _ _ (seqItems? (.ref t) >>= _) _ _ s
 refine wpAny_bind (wpAny_seqItems hol hdl ?_)
 simp only [Int.toNat_natCast, hx]
 refine wpAny_bind (wpAny_setField ho hd (by simp) (wpAny_pure ⟨x, rfl, wpAny_pure (hQ _ ?_ (Heap.SameBut.update ..))⟩))
 exact ⟨_, Heap.get?_update_self _ ho (Obj.isFreed_of_fields (Obj.data_mapFields hd _)), (Obj.cls_mapFields ..).trans hc, by rw [Obj.data_mapFields hd]; simp [rawInt]⟩
theorem tnext_end {it t : Addr} {i : Nat} {vs : Array Value} {Q : Value -> Shared -> Prop} (hh : A.handled = none) (hit : s.heap.IsTupleIter it t i) (ht : s.heap.IsTuple t vs) (hx : vs[i]? = none)
  (hE : ∀ h' e, Heap.ExtBut it s.heap h' -> (∃ o, h'.get? e = some o /\ o.cls = .type "StopIteration") -> E (.ref e) { s with heap := h' }) : wpAny (Mo C) A (Builtin.SmallTypes.nextOf (.ref it)) Q E s := by
 obtain ⟨o, ho, hc, hd⟩ := id hit
 obtain ⟨ol, hol, _, nl, hdl⟩ := ht
 unfold Builtin.SmallTypes.nextOf
 refine wpAny_bind (wpAny_callSpecial?_slot (name := Str.ofString "__next__") hit.typeIs F.slot_tuple_iterator_next (wpAny_call_entry F.slot_tuple_iterator_next hit.typeIs F.entry_tuple_iterator_next ?_ (F.args_tuple_iterator_next_1 _)))
 show wpAny _ _ (field (.ref it) 0 >>= _) _ _ s
 refine wpAny_bind (wpAny_field ho hd (x := .ref t) rfl ?_)
 show wpAny _ _ (if (Value.ref t == Value.none) = true then _ else _) _ _ s
 rw [if_neg (show ¬ ((Value.ref t == Value.none) = true) from Bool.false_ne_true)]
 show wpAny _ _ (field (.ref it) 1 >>= _) _ _ s
 refine wpAny_bind (wpAny_field ho hd (x := .int i 0) rfl ?_)
 show wpAny _ _ (seqItems? (.ref t) >>= _) _ _ s
 refine wpAny_bind (wpAny_seqItems hol hdl ?_)
 simp only [Int.toNat_natCast, hx]
 refine wpAny_bind (wpAny_rule (wpAny_bind (wpAny_setField ho hd (by simp) ?_)))
 show wpAny _ _ (newExc (.type "StopIteration") [] >>= _) _ _ _
 refine wpAny_bind ?_
 simp only [newExc, newTuple]
 refine wpAny_bind (wpAny_newObj_type ?_ (by size_fits))
 refine wpAny_bind (m := firstArgMember _ _) (wpAny_of_eq (a := Value.none) (by first | rfl | (simp only [firstArgMember]; rfl)) ?_)
 refine wpAny_newObj_type ?_ (by size_fits)
 refine wpAny_bind (wpAny_handled ?_)
 first | rw [show A.in1.handled = none from hh] | rw [hh]
 refine wpAny_bind (wpAny_pure (wpAny_throw ?_))
 exact hE _ _ (((Heap.SameBut.update ..).extBut.push _).push _) ⟨_, Heap.get?_push_size _ rfl, rfl⟩
structure Zt (h : Heap) (z TI TO i1 i2 l1 l2 : Addr) (xs ys : Array Value) (k : Nat) (f0 : Value) : Prop where
 z : IsZip h z TI TO f0
 ti : IsPair h TI (.ref i1) (.ref i2)
 to : ∃ a b, IsPair h TO a b
 t1 : h.IsTupleIter i1 l1 k
 t2 : h.IsTupleIter i2 l2 k
 l1 : h.IsTuple l1 xs
 l2 : h.IsTuple l2 ys
section
variable {z TI TO i1 i2 l1 l2 : Addr} {xs ys : Array Value} {k : Nat}
noncomputable def ZKeep (z TO i1 i2 : Addr) (h h' : Heap) : Prop := ∀ c o, c ≠ z -> c ≠ TO -> c ≠ i1 -> c ≠ i2 -> h.get? c = some o -> h'.get? c = some o
theorem zt_item {x y : Value} {Q : Value -> Shared -> Prop} (D : ZipApart z TI TO i1 i2 l1 l2) (S : Zt s.heap z TI TO i1 i2 l1 l2 xs ys k .none) (hx : xs[k]? = some x) (hy : ys[k]? = some y)
  (hQ : ∀ h', Zt h' z TI TO i1 i2 l1 l2 xs ys (k + 1) (rawInt s.heap.objs.size) -> IsPair h' s.heap.objs.size x y -> h'.objs.size = s.heap.objs.size + 1 -> ZKeep z TO i1 i2 s.heap h' -> Q (.ref s.heap.objs.size) { s with heap := h' }) :
  wpAny (Mo C) A (Builtin.«zip.__next__» ⟨[.ref z], []⟩) (fun fin s' => ∃ v, fin = .done (.ret v) /\ Q v s') E s := by
 obtain ⟨hz, hTI, ⟨a, b, hTO⟩, h1, h2, hl1, hl2⟩ := S
 show wpAny _ _ (field (.ref z) 2 >>= _) _ _ _
 refine wpAny_bind (wpAny_field hz rfl (x := .bool false) rfl ?_)
 show wpAny _ _ (field (.ref z) 3 >>= _) _ _ _
 refine wpAny_bind (wpAny_field hz rfl (x := .ref TI) rfl (wpAny_bind (wpAny_seqItems hTI rfl ?_)))
 show wpAny _ _ (Builtin.SmallTypes.ownedTupleIsFree (.ref z) >>= _) _ _ _
 refine wpAny_bind ?_
 unfold Builtin.SmallTypes.ownedTupleIsFree
 refine wpAny_bind (wpAny_field hz rfl (x := .none) rfl (wpAny_pure ?_))
 simp only [if_true]
 refine wpAny_bind (wpAny_rule (wpAny_bind (wpAny_field hz rfl (x := .ref TO) rfl (wpAny_bind (wpAny_setField_rec hz (by simp) fun g₁ w₁ b₁ => ?_)))))
 replace w₁ : IsZip g₁ z TI TO .ellipsis := w₁
 refine wpAny_bind ?_
 simp only [List.zipIdx_cons, List.zipIdx_nil, List.forIn_cons, List.forIn_nil]
 refine wpAny_bind (wpAny_bind (wpAny_onRaise ?_))
 show wpAny _ _ (Builtin.SmallTypes.nextOf (.ref i1) >>= _) _ _ _
 refine wpAny_bind (tnext_item (Tit.at' h1 fun o e => b₁.extBut _ _ D.i1z e) (Tup.at' hl1 fun o e => b₁.extBut _ _ D.l1z e) hx fun g₂ j1 b₂ => wpAny_pure ?_)
 have p2 : IsPair g₂ TO a b := b₂.extBut _ _ D.TOi1 (b₁.extBut _ _ D.TOz hTO)
 refine wpAny_bind (wpAny_seqItems p2 rfl (wpAny_bind (wpAny_updateSeq_pair p2 fun g₃ p3 b₃ => ?_)))
 replace p3 : IsPair g₃ TO x b := p3
 refine wpAny_bind (wpAny_letGo (wpAny_pure ?_))
 refine wpAny_bind (wpAny_bind (wpAny_onRaise ?_))
 show wpAny _ _ (Builtin.SmallTypes.nextOf (.ref i2) >>= _) _ _ _
 refine wpAny_bind (tnext_item (Tit.at' h2 fun o e => b₃.extBut _ _ D.TOi2.symm (b₂.extBut _ _ D.i12.symm (b₁.extBut _ _ D.i2z e))) (Tup.at' hl2 fun o e => b₃.extBut _ _ D.l2TO (b₂.extBut _ _ D.l2i1 (b₁.extBut _ _ D.l2z e))) hy fun g₄ j2 b₄ => wpAny_pure ?_)
 have p4 : IsPair g₄ TO x b := b₄.extBut _ _ D.TOi2 p3
 refine wpAny_bind (wpAny_seqItems p4 rfl (wpAny_bind (wpAny_updateSeq_pair p4 fun g₅ p5 b₅ => ?_)))
 replace p5 : IsPair g₅ TO x y := p5
 refine wpAny_bind (wpAny_letGo (wpAny_pure (wpAny_pure ?_)))
 refine wpAny_bind (wpAny_seqItems p5 rfl (wpAny_bind (wpAny_newTuple ?_)))
 have hsz : g₅.objs.size = s.heap.objs.size := by rw [b₅.1, b₄.1, b₃.1, b₂.1, b₁.1]
 have w5 : IsZip g₅ z TI TO .ellipsis := b₅.extBut _ _ D.TOz.symm (b₄.extBut _ _ D.i2z.symm (b₃.extBut _ _ D.TOz.symm (b₂.extBut _ _ D.i1z.symm w₁)))
 have k5 : ZKeep z TO i1 i2 s.heap g₅ := fun c o c1 c2 c3 c4 e => b₅.extBut _ _ c2 (b₄.extBut _ _ c4 (b₃.extBut _ _ c2 (b₂.extBut _ _ c3 (b₁.extBut _ _ c1 e))))
 have m1 : g₅.IsTupleIter i1 l1 (k + 1) := Tit.at' j1 fun o e => b₅.extBut _ _ D.TOi1.symm (b₄.extBut _ _ D.i12 (b₃.extBut _ _ D.TOi1.symm e))
 have m2 : g₅.IsTupleIter i2 l2 (k + 1) := Tit.at' j2 fun o e => b₅.extBut _ _ D.TOi2.symm e
 have zlt : z < g₅.objs.size := Heap.lt_size w5
 show wpAny _ _ (Builtin.SmallTypes.ownedTupleHandOut (.ref z) (.ref g₅.objs.size) >>= _) _ _ _
 refine wpAny_bind ?_
 unfold Builtin.SmallTypes.ownedTupleHandOut
 have w6 : IsZip (g₅.push { cls := .type "tuple", data := .seq #[x, y] }) z TI TO .ellipsis := Heap.get?_push_of_some _ w5
 refine wpAny_bind (wpAny_setField_rec w6 (by simp) fun g₇ w7 b₇ => ?_)
 replace w7 : IsZip g₇ z TI TO (rawInt g₅.objs.size) := w7
 refine wpAny_setField_rec w7 (by simp) fun g₈ w8 b₈ => ?_
 replace w8 : IsZip g₈ z TI TO (rawInt g₅.objs.size) := w8
 have up : ∀ c o, c ≠ z -> g₅.get? c = some o -> g₈.get? c = some o := fun c o c1 e => b₈.extBut _ _ c1 (b₇.extBut _ _ c1 (Heap.get?_push_of_some _ e))
 have p8 : IsPair g₈ g₅.objs.size x y := b₈.extBut _ _ (Nat.ne_of_gt zlt) (b₇.extBut _ _ (Nat.ne_of_gt zlt) (Heap.get?_push_size _ rfl))
 have s8 : g₈.objs.size = g₅.objs.size + 1 := by rw [b₈.1, b₇.1, Heap.size_push]
 rw [hsz] at w8 p8 s8
 refine wpAny_pure ⟨_, rfl, ?_⟩
 show Q (.ref g₅.objs.size) _
 rw [hsz]
 have K : ZKeep z TO i1 i2 s.heap g₈ := fun c o c1 c2 c3 c4 e => up c o c1 (k5 c o c1 c2 c3 c4 e)
 exact hQ g₈ ⟨w8, K _ _ D.TIz D.TITO D.TIi1 D.TIi2 hTI, ⟨_, _, up _ _ D.TOz p5⟩, Tit.at' m1 fun o e => up _ o D.i1z e, Tit.at' m2 fun o e => up _ o D.i2z e, Tup.at' hl1 fun o e => K _ o D.l1z D.l1TO D.l1i1 D.l1i2 e,
  Tup.at' hl2 fun o e => K _ o D.l2z D.l2TO D.l2i1 D.l2i2 e⟩ p8 s8 K
theorem zt_end {Q : Fin -> Shared -> Prop} (hh : A.handled = none) (D : ZipApart z TI TO i1 i2 l1 l2) (S : Zt s.heap z TI TO i1 i2 l1 l2 xs ys k .none) (hx : xs[k]? = none)
  (hE : ∀ h' e, ZKeep z TO i1 i2 s.heap h' -> (∃ o, h'.get? e = some o /\ o.cls = .type "StopIteration") -> E (.ref e) { s with heap := h' }) :
  wpAny (Mo C) A (Builtin.«zip.__next__» ⟨[.ref z], []⟩) Q E s := by
 obtain ⟨hz, hTI, ⟨a, b, hTO⟩, h1, h2, hl1, hl2⟩ := S
 show wpAny _ _ (field (.ref z) 2 >>= _) _ _ _
 refine wpAny_bind (wpAny_field hz rfl (x := .bool false) rfl ?_)
 show wpAny _ _ (field (.ref z) 3 >>= _) _ _ _
 refine wpAny_bind (wpAny_field hz rfl (x := .ref TI) rfl (wpAny_bind (wpAny_seqItems hTI rfl ?_)))
 show wpAny _ _ (Builtin.SmallTypes.ownedTupleIsFree (.ref z) >>= _) _ _ _
 refine wpAny_bind ?_
 unfold Builtin.SmallTypes.ownedTupleIsFree
 refine wpAny_bind (wpAny_field hz rfl (x := .none) rfl (wpAny_pure ?_))
 simp only [if_true]
 refine wpAny_bind (wpAny_rule (wpAny_bind (wpAny_field hz rfl (x := .ref TO) rfl (wpAny_bind (wpAny_setField_rec hz (by simp) fun g₁ w₁ b₁ => ?_)))))
 replace w₁ : IsZip g₁ z TI TO .ellipsis := w₁
 refine wpAny_bind ?_
 simp only [List.zipIdx_cons, List.zipIdx_nil, List.forIn_cons, List.forIn_nil]
 refine wpAny_bind (wpAny_bind (wpAny_onRaise ?_))
 show wpAny _ _ (Builtin.SmallTypes.nextOf (.ref i1) >>= _) _ _ _
 refine wpAny_bind (tnext_end hh (Tit.at' h1 fun o e => b₁.extBut _ _ D.i1z e) (Tup.at' hl1 fun o e => b₁.extBut _ _ D.l1z e) hx fun g₂ e b₂ he => ?_)
 obtain ⟨oe, hoe, hce⟩ := he
 have w₂ : IsZip g₂ z TI TO .ellipsis := b₂ _ _ D.i1z.symm w₁
 have hez : e ≠ z := fun x => by subst x; rw [w₂] at hoe; cases hoe; simp at hce
 exact wpAny_setField_rec w₂ (by simp) fun g₃ _ b₃ => hE g₃ e (fun c o c1 _ c3 _ x => b₃.extBut _ _ c1 (b₂ _ _ c3 (b₁.extBut _ _ c1 x))) ⟨oe, b₃.extBut _ _ hez hoe, hce⟩
theorem zt_walks {A : Around} (hh : A.handled = none) (D : ZipApart z TI TO i1 i2 l1 l2) (hle : xs.size <= ys.size) : WalksU Pr C.w A z [z, TI, TO, i1, i2, l1, l2] [z, TO, i1, i2] xs.size
  (fun i vs => ∃ x y, xs[i]? = some x /\ ys[i]? = some y /\ vs = #[x, y]) (fun i h => Zt h z TI TO i1 i2 l1 l2 xs ys i .none)
  (fun i T h => Zt h z TI TO i1 i2 l1 l2 xs ys (i + 1) (rawInt T) /\ T ≠ z /\ T ≠ TO /\ T ≠ i1 /\ T ≠ i2) where
 sub := fun c hc => by simp at hc ⊢; rcases hc with rfl | rfl | rfl | rfl <;> simp
 frame := fun i h h' S hk => ⟨hk z (by simp) _ S.z, hk TI (by simp) _ S.ti, let ⟨a, b, e⟩ := S.to; ⟨a, b, hk TO (by simp) _ e⟩, Tit.at' S.t1 fun o e => hk i1 (by simp) o e, Tit.at' S.t2 fun o e => hk i2 (by simp) o e,
  Tup.at' S.l1 fun o e => hk l1 (by simp) o e, Tup.at' S.l2 fun o e => hk l2 (by simp) o e⟩
 item := fun i s Q E hi S hQ => by
  have h1 : xs[i]? = some xs[i] := Array.getElem?_eq_getElem hi
  have h2 : ys[i]? = some (ys[i]'(Nat.lt_of_lt_of_le hi hle)) := Array.getElem?_eq_getElem _
  have hT : s.TypeIs (.ref z) "zip" := ⟨_, S.z, rfl⟩
  have lt : ∀ {c o}, s.heap.get? c = some o -> s.heap.objs.size ≠ c := fun e => Nat.ne_of_gt (Heap.lt_size e)
  unfold pyNext
  refine wpAny_bind (wpAny_attempt (wpAny_callSpecial?_slot (name := Str.ofString "__next__") hT F.slot_zip_next (wpAny_call_entry F.slot_zip_next hT F.entry_zip_next (zt_item D S h1 h2 fun h' S' hp hs hk => wpAny_pure ?_) (F.args_zip_next_1 _))))
  exact hQ s.heap.objs.size _ h' s.toks ⟨_, _, h1, h2, rfl⟩ ⟨_, hp, rfl, _, rfl⟩ ⟨S', lt S.z, (let ⟨_, _, e⟩ := S.to; lt e), Nat.ne_of_gt (Tit.lt S.t1), Nat.ne_of_gt (Tit.lt S.t2)⟩
   fun c o hc e => hk c o (fun x => hc (by simp [x])) (fun x => hc (by simp [x])) (fun x => hc (by simp [x])) (fun x => hc (by simp [x])) e
 go := fun elts k pos i T s Q E hm hQ => wpAny_letOwnedTupleGo_zip hm.1.z fun h' hz' hs' => hQ h' ⟨hz', hs'.extBut _ _ D.TIz hm.1.ti, (let ⟨a, b, e⟩ := hm.1.to; ⟨a, b, hs'.extBut _ _ D.TOz e⟩), Tit.at' hm.1.t1 fun o e => hs'.extBut _ _ D.i1z e,
   Tit.at' hm.1.t2 fun o e => hs'.extBut _ _ D.i2z e, Tup.at' hm.1.l1 fun o e => hs'.extBut _ _ D.l1z e, Tup.at' hm.1.l2 fun o e => hs'.extBut _ _ D.l2z e⟩ fun c o hc e => hs'.extBut _ _ (fun x => hc (by simp [x])) e
 apart := fun i T h hm hT => by
  obtain ⟨_, t1, t2, t3, t4⟩ := hm
  exact (al t1 (al t2 (al t3 (al t4 an))) : ∀ b ∈ [z, TO, i1, i2], T ≠ b) T hT rfl
 done := fun s Q E S hQ => by
  have hT : s.TypeIs (.ref z) "zip" := ⟨_, S.z, rfl⟩
  unfold pyNext
  refine wpAny_bind (wpAny_attempt (wpAny_callSpecial?_slot (name := Str.ofString "__next__") hT F.slot_zip_next (wpAny_call_entry F.slot_zip_next hT F.entry_zip_next (zt_end hh D S (Array.getElem?_eq_none (Nat.le_refl _)) fun h' e hk he => ?_) (F.args_zip_next_1 _))))
  obtain ⟨o, ho, hc⟩ := he
  refine wpAny_bind (wpAny_isInstance (T := "StopIteration") (b := true) ⟨o, ho, hc⟩ isSubtype_stop ?_)
  exact wpAny_pure (hQ h' s.toks fun c o hc e => hk c o (fun x => hc (by simp [x])) (fun x => hc (by simp [x])) (fun x => hc (by simp [x])) (fun x => hc (by simp [x])) e)
 self := fun i s Q E S hQ => wpAny_pyIter_zip S.z hQ
end
section
noncomputable abbrev zh1 (h : Heap) (l1 : Addr) : Heap := h.push { cls := .type "tuple_iterator", data := .fields #[.ref l1, .int 0 0] }
noncomputable abbrev zh2 (h : Heap) (l1 l2 : Addr) : Heap := (zh1 h l1).push { cls := .type "tuple_iterator", data := .fields #[.ref l2, .int 0 0] }
noncomputable abbrev zh3 (h : Heap) (l1 l2 : Addr) : Heap := (zh2 h l1 l2).push { cls := .type "tuple", data := .seq #[.ref h.objs.size, .ref (zh1 h l1).objs.size] }
noncomputable abbrev zh4 (h : Heap) (l1 l2 : Addr) : Heap := (zh3 h l1 l2).push { cls := .type "tuple", data := .seq #[.none, .none] }
noncomputable abbrev zh5 (h : Heap) (l1 l2 : Addr) : Heap := (zh4 h l1 l2).push { cls := .type "zip", data := .fields #[.none, .bool false, .bool false, .ref (zh2 h l1 l2).objs.size, .ref (zh3 h l1 l2).objs.size] }
theorem zt_new (l1 l2 : Addr) (xs ys : Array Value) : Meets (Builtin.«zip.__new__» ⟨[.type "zip", .ref l1, .ref l2], []⟩) (fun _ R s => s.heap.IsTuple l1 xs /\ s.heap.IsTuple l2 ys /\ R (.ok (.ret (.ref (zh4 s.heap l1 l2).objs.size))) { s with heap := zh5 s.heap l1 l2 }) :=
 .of_wp fun prog w A R s h => by
  obtain ⟨hp, g, d, tk, os⟩ := s
  obtain ⟨hl1, hl2, h⟩ := h
  have hsub := sub_zip
  have hL1 : Heap.IsTuple (Shared.heap ⟨hp, g, d, tk, os⟩) l1 xs := hl1
  have hL2 : Heap.IsTuple (Shared.heap ⟨hp.push { cls := .type "tuple_iterator", data := .fields #[.ref l1, .int 0 0] }, g, d, tk, os⟩) l2 ys := Heap.IsTuple.push hl2 _
  wp_walk using wpAny_pyIter_tuple hL1, wpAny_pyIter_tuple hL2
  exact ⟨_, rfl, h⟩
theorem zt_call {l1 l2 : Addr} {xs ys : Array Value} {Q : Value -> Shared -> Prop} (h1 : s.heap.IsTuple l1 xs) (h2 : s.heap.IsTuple l2 ys)
  (h : ∀ h' z TI TO i1 i2, ZipApart z TI TO i1 i2 l1 l2 -> Zt h' z TI TO i1 i2 l1 l2 xs ys 0 .none -> (∀ c o, s.heap.get? c = some o -> h'.get? c = some o) -> (∀ b ∈ [z, TI, TO, i1, i2], s.heap.get? b = none) ->
   Q (.ref z) { s with heap := h' }) : wpAny (Mo C) A (call (.type "zip") [.ref l1, .ref l2]) Q E s := by
 refine callType_new F.called_zip (by decide) (F.typeCall_zip_2 _ _) (F.newCall_zip_2 _ _) (fun obj => F.args_object_init_3 obj _ _) F.entry_zip_new (zt_new l1 l2 xs ys) ⟨h1, h2, ?_⟩
 have z1 : (zh1 s.heap l1).objs.size = s.heap.objs.size + 1 := Heap.size_push ..
 have z2 : (zh2 s.heap l1 l2).objs.size = s.heap.objs.size + 2 := by rw [Heap.size_push, z1]
 have z3 : (zh3 s.heap l1 l2).objs.size = s.heap.objs.size + 3 := by rw [Heap.size_push, z2]
 have z4 : (zh4 s.heap l1 l2).objs.size = s.heap.objs.size + 4 := by rw [Heap.size_push, z3]
 have g5 : (zh5 s.heap l1 l2).get? (zh4 s.heap l1 l2).objs.size = some _ := Heap.get?_push_size _ rfl
 have g4 : (zh5 s.heap l1 l2).get? (zh3 s.heap l1 l2).objs.size = some _ := Heap.get?_push_of_some _ (Heap.get?_push_size _ rfl)
 have g3 : (zh5 s.heap l1 l2).get? (zh2 s.heap l1 l2).objs.size = some _ := Heap.get?_push_of_some _ (Heap.get?_push_of_some _ (Heap.get?_push_size _ rfl))
 have g2 : (zh5 s.heap l1 l2).get? (zh1 s.heap l1).objs.size = some _ := Heap.get?_push_of_some _ (Heap.get?_push_of_some _ (Heap.get?_push_of_some _ (Heap.get?_push_size _ rfl)))
 have g1 : (zh5 s.heap l1 l2).get? s.heap.objs.size = some _ := Heap.get?_push_of_some _ (Heap.get?_push_of_some _ (Heap.get?_push_of_some _ (Heap.get?_push_of_some _ (Heap.get?_push_size _ rfl))))
 have kp : ∀ c o, s.heap.get? c = some o -> (zh5 s.heap l1 l2).get? c = some o := fun c o x => Qaa _ _ (Qaa _ _ (Qaa _ _ (Qaa _ _ (Qaa _ _ x))))
 show _ /\ _
 rw [z2, z3, z4] at g5
 rw [z1, z2] at g3
 rw [z3] at g4
 rw [z1] at g2
 rw [z4]
 refine ⟨⟨_, g5, rfl⟩, h _ _ _ _ _ _ (zipApart_new (Tup.lt h1) (Tup.lt h2)) ⟨g5, g3, ⟨_, _, g4⟩, ⟨_, g1, rfl, rfl⟩, ⟨_, g2, rfl, rfl⟩, Tup.at' h1 fun o e => kp _ o e, Tup.at' h2 fun o e => kp _ o e⟩ kp fun b hb => ?_⟩
 cases q : s.heap.get? b with
 | none => rfl
 | some o =>
  have h3 : b < s.heap.objs.size := Heap.lt_size q
  have h4 : ∀ b ∈ [s.heap.objs.size + 4, s.heap.objs.size + 2, s.heap.objs.size + 3, s.heap.objs.size, s.heap.objs.size + 1], s.heap.objs.size <= b := al (Nat.le_add_right _ 4) (al (Nat.le_add_right _ 2) (al (Nat.le_add_right _ 3) (al (Nat.le_refl _) (al (Nat.le_add_right _ 1) an))))
  exact absurd h3 (Nat.not_lt.mpr (h4 b hb))
end
end
section
set_option tactic.hygienic false
theorem St.isCode (st : St C s) : ∃ more, s.heap.IsCode C.tc C.PT (C.ps0 ++ more) /\ s.heap.TableAt C.tc C.PT (C.ps0 ++ more) := by
 obtain ⟨more, t⟩ := st.tab
 obtain ⟨o, vs, file, tf, flags, tg, inF, text, tt, op, ho, hd, a1, a2, a3, a4, a5, hop, hpd, htr, hne⟩ := st.base.isc
 exact ⟨more, ⟨o, vs, file, tf, flags, tg, inF, text, tt, _, st.keep _ _ hne ho, hd, a1, a2, a3, a4, a5, t.2, rfl, st.tri _ t.2, hne⟩, t⟩
theorem gcode {pos : Pos} {q : Str} {sc : Scope} (st : St C s) (hc : env.code = .ref C.tc) {Q : Value -> Shared -> Prop}
  (h : ∀ c' s', St C s' -> Kp C s s' -> s'.gens = s.gens -> (∀ b o, b ≠ C.PT -> s.heap.get? b = some o -> s'.heap.get? b = some o) -> s.heap.objs.size <= s'.heap.objs.size -> Q c' s') : wpAny (Mo C) A (genexprCode env pos q sc) Q E s := by
 obtain ⟨more, hic, hta⟩ := st.isCode
 cases hf : codeAmong pos (C.ps0 ++ more).toList with
 | some c' => exact wpAny_genexprCode_hit hc hic hf (h c' s st Kp.refl rfl (fun _ _ _ e => e) (Nat.le_refl _))
 | none =>
  refine Qbj st.pos (wpAny_genexprCodeX hc hic hta hf fun c' h' tk hx hge hlt hic' _ hta' _ hp => ?_)
  refine h _ _ ?_ (fun b o hb e => hx b o hb e) rfl (fun b o hb e => hx b o hb e) (Nat.le_trans hge (Nat.le_of_lt hlt))
  refine { base := st.base, keep := fun b o hb e => hx b o hb (st.keep b o hb e), tab := ⟨more ++ #[rawInt pos.line, rawInt pos.col, .ref c'], by rw [← Array.append_assoc]; exact hta'⟩, tri := fun vs e => ?_, bare := st.bare, os := st.os, pos := hp }
  obtain ⟨o, vs', file, tf, flags, tg, inF, text, tt, op, ho, hd, a1, a2, a3, a4, a5, hop, hpd, htr, hne⟩ := hic'
  have e' : h'.get? C.PT = some { cls := .none, data := .fields vs } := e
  rw [hop] at e'
  cases e'
  cases hpd
  exact htr
theorem callQ {x : Str} {np pos : Pos} {f : Value} {args : List Expr} {ds : List PV} {Q : Value -> Shared -> Prop} (rm : Room A n) (st : St C s) (ok : EnvOK C nm Xo env oa s.heap ρ ow) (hf : Ev C n nm ρ ow (.Name x np) (.raw f)) (hk : KeepF C f) (ha : EvL C n nm ρ ow args ds)
  (h : ∀ vs s₂, St C s₂ -> Kp C s s₂ -> RelL C (XS Xo env oa) s₂.heap ds vs -> wpAny (Mo C) A (call f vs) Q NoE s₂)
  (hp : ∀ env, (backTo pos (starEach args env)).any (·.1) = false := by k_all) : wpAny (Mo C) A (eval (.Call (.Name x np) args [] pos) env) Q NoE s := by
 refine Call_Name rfl (wpAny_mono (hf A Xo env oa s rm st ok) (fun v s₁ ⟨st1, k1, r1⟩ => ?_) nof)
 subst r1
 have ok1 := ok.kp st st1 k1
 refine callWith_of (P := fun h => ∃ t, St C t /\ t.heap = h) (by simp [hp env]) (fun h ⟨t, stt, e⟩ => e ▸ hk t stt) (Qeg (hp env) (wpAny_mono (ha A Xo env oa s₁ pos rm st1 ok1) (fun vs s₂ ⟨st2, k2, r2⟩ => ⟨⟨s₂, st2, rfl⟩, ?_⟩) nof))
 exact h vs s₂ st2 (k1.trans k2) r2
theorem builtinsQ (st : St C s) (hg : env.globals = mainGlobals) {Q : Addr -> Shared -> Prop} (h : Q builtinsNs s) : wpAny (Mo C) A (builtinsFor env.globals env.builtins) Q E s := by
 obtain ⟨bm, ob, h1, h2, h3, h4, h5, h6⟩ := st.base.bm
 exact wpAny_builtinsFor (by rw [hg]; exact st.g) h1 h2 (st.h0 h3 fun vs e => by rw [e] at h6; cases h6) h4 h5 h6 h
noncomputable def addUp (xs ys : List Int) : List PV := (List.zipWith (fun a b => a + b) xs ys).map .int
theorem relL_int_at {h : Heap} : ∀ {l : List Int} {vs : List Value}, RelL C X h (l.map PV.int) vs -> ∀ (i : Nat) (v : Value), vs[i]? = some v -> ∃ a t, l[i]? = some a /\ v = Value.int a t
 | [], vs, r, i, v, e => by subst r; simp at e
 | a :: l, vs, r, i, v, e => by
  obtain ⟨v', r', rfl, ⟨t, rfl⟩, r⟩ := r
  cases i with
  | zero => simp at e; subst e; exact ⟨a, t, rfl, rfl⟩
  | succ i => simp at e; obtain ⟨b, t', e1, e2⟩ := relL_int_at r i v e; exact ⟨b, t', by simpa using e1, e2⟩
theorem passing_all (m : Nat) : passing (fun _ => true) m 0 = List.range m := by simp [passing]
theorem ev_tupgen {e1 e2 : Expr} {xs ys : List Int} {np zp cp pa pb pt p1 p2 p3 gp pos : Pos} {kt : Nat} {sc : Scope} (G : Gl C) (hnm : nm = (Qaf 3).names) (h1 : Ev C n nm ρ ow e1 (.tup (xs.map .int))) (h2 : Ev C n nm ρ ow e2 (.tup (ys.map .int))) (hle : xs.length <= ys.length) (hsz : xs.length <= sizeLine)
  (hco : sc.isCoroutine = false) (hclos : ∀ env, closureFor sc env = pure []) (hcell : ∀ y ∈ sc.names, y.2 ≠ .cell) (h0 : sc.names.lookup (".0" : Str) = some NameKind.local) (hi : sc.names.lookup ("i" : Str) = some .local) (hj : sc.names.lookup ("j" : Str) = some .local) (hkind : sc.kind = .function)
  (hgt : gloB nm "tuple" = true) (hgz : gloB nm "zip" = true)
  (hz : ∀ env, (backTo cp (starEach [e1, e2] env)).any (·.1) = false := by k_all) (hl1 : ∀ env, starEach [e1, e2] env = (false, eval e1 env) :: starEach [e2] env := by k_all) (hl2 : ∀ env, starEach [e2] env = [(false, eval e2 env)] := by k_all) :
  Ev C n nm ρ ow (.Call (.Name "tuple" np) [.GeneratorExp (.BinOp (.Name "i" p1) .Add (.Name "j" p2) p3) [⟨.Tuple [.Name "i" pa, .Name "j" pb] kt pt, .Call (.Name "zip" zp) [e1, e2] [] cp, [], 0⟩] sc gp] [] pos) (.tup (addUp xs ys)) := by
 intro A Xo env oa s rm st ok
 have hcode := ok.code hnm
 have eT : Ev C n nm ρ ow (.Name "tuple" np) (.raw (.type "tuple")) := ev_bltv G.b_tuple hgt
 have eZ : Ev C n nm ρ ow (.Name "zip" zp) (.raw (.type "zip")) := ev_bltv G.b_zip hgz
 refine Call_Name1 (wpAny_mono (eT A Xo env oa s rm st ok) (fun v s₁ ⟨st1, k1, r1⟩ => ?_) nof) rfl
 subst r1
 have ok1 := ok.kp st st1 k1
 refine callWith_of (P := fun h => ∃ t, St C t /\ t.heap = h) rfl (fun h ⟨t, stt, e⟩ => e ▸ Qcj t stt) (Qeg rfl (Calls.spliced_cons ?_))
 refine Qbj st1.pos (wpAny_GeneratorExp_walksQTD rm.handled hco (hclos env) hcell h0 hi hj (by decide +kernel) hkind rm.lim ?_ (fun x => rfl))
 refine callQ rm st1 ok1 eZ Qcj (Qby h1 h2 hl1 hl2) (fun vs s₂ st2 k2 r2 => ?_) hz
 obtain ⟨_, _, rfl, ⟨l1, vs1, m1, rfl, hX1, g1, q1⟩, _, _, rfl, ⟨l2, vs2, m2, rfl, hX2, g2, q2⟩, rfl⟩ := r2
 have t1 : s₂.heap.IsTuple l1 vs1.toArray := ⟨_, g1, rfl, _, rfl⟩
 have t2 : s₂.heap.IsTuple l2 vs2.toArray := ⟨_, g2, rfl, _, rfl⟩
 refine zt_call t1 t2 fun h3 z TI TO i1 i2 D S k3 hnew => ?_
 refine wpAny_pyIter_zip S.z ?_
 have st3 : St C { s₂ with heap := h3 } := st2.of_keep k3 rfl rfl
 refine ⟨st3.lim, gcode st3 hcode fun c' s₃ st4 kp4 hg4 k4 sz4 => ?_⟩
 refine builtinsQ st4 ok.glob ?_
 have P2 : ∀ b ∈ [l1, l2], b ≠ C.PT := al (st2.pt_cont g1 Qbf) (al (st2.pt_cont g2 Qbf) an)
 have PTn : ∀ b ∈ [z, TI, TO, i1, i2, l1, l2], b ≠ C.PT := fun b hb => (List.mem_append.mp (show b ∈ [z, TI, TO, i1, i2] ++ [l1, l2] from hb)).elim (fun hb q => by
  obtain ⟨more, t⟩ := st2.tab
  have := hnew b hb
  rw [q, t.2] at this; cases this) (P2 b)
 have hlen1 : vs1.length = xs.length := by rw [q1.length, List.length_map]
 have hlen2 : vs2.length = ys.length := by rw [q2.length, List.length_map]
 have W : ∀ A' : Around, A'.handled = none -> WalksU Pr C.w A' z [z, TI, TO, i1, i2, l1, l2] [z, TO, i1, i2] vs1.toArray.size (fun i vs => ∃ x y, vs1.toArray[i]? = some x /\ vs2.toArray[i]? = some y /\ vs = #[x, y]) (fun i h => Zt h z TI TO i1 i2 l1 l2 vs1.toArray vs2.toArray i .none)
  (fun i T h => Zt h z TI TO i1 i2 l1 l2 vs1.toArray vs2.toArray (i + 1) (rawInt T) /\ T ≠ z /\ T ≠ TO /\ T ≠ i1 /\ T ≠ i2) := fun A' hA => zt_walks hA D (by simp [hlen1, hlen2, hle])
 have S4 : Zt s₃.heap z TI TO i1 i2 l1 l2 vs1.toArray vs2.toArray 0 .none := (W A rm.handled).frame 0 _ _ S fun b hb o e => k4 b o (PTn b hb) e
 have newW : ∀ b ∈ [z, TO, i1, i2], s₂.heap.get? b = none := fun b hb => hnew b ((List.mem_cons.mp hb).elim (fun e => e ▸ List.mem_cons_self) fun h => List.mem_cons_of_mem _ (List.mem_cons_of_mem _ h))
 refine ⟨z, [z, TI, TO, i1, i2, l1, l2], [z, TO, i1, i2], vs1.toArray.size, _, _, _, fun _ => true, fun i v => ∃ a b t, xs[i]? = some a /\ ys[i]? = some b /\ v = .int (a + b) t, rfl, W, fun i vals ⟨x, y, _, _, e⟩ => ⟨x, y, e⟩, S4, ?_, st4.lim, ?_, ?_, ?_⟩
 ·intro b hb
  revert b; refine al ?_ (al ?_ (al ?_ (al ?_ (al ?_ (al ?_ (al ?_ an))))))
  ·exact Heap.lt_size S4.z
  ·exact Heap.lt_size S4.ti
  ·obtain ⟨_, _, e⟩ := S4.to; exact Heap.lt_size e
  ·exact Tit.lt S4.t1
  ·exact Tit.lt S4.t2
  ·exact Tup.lt S4.l1
  ·exact Tup.lt S4.l2
 ·intro hm
  obtain ⟨_, hn, _⟩ := st2.lim
  obtain ⟨o, es, ep, ho, _⟩ := hn
  rw [newW _ hm] at ho; cases ho
 ·intro href hhref
  refine ⟨fun A' E' i va vb t m₂ _ _ _ _ _ _ _ _ => wpAny_pure ⟨rfl, t.heap, t.toks, rfl, fun _ _ e => e⟩, fun A' E' i va vb t m₂ hA hD hU hP _ hn ha hb _ => ?_⟩
  obtain ⟨x, y, ex, ey, e⟩ := hP
  obtain ⟨rfl, rfl⟩ : va = x /\ vb = y := by simpa using congrArg Array.toList e
  obtain ⟨a, ta, ea, rfl⟩ := relL_int_at q1 i va (by simpa using ex)
  obtain ⟨b, tb, eb, rfl⟩ := relL_int_at q2 i vb (by simpa using ey)
  have kd : (genEnv sc [] s₃.heap.objs.size c' builtinsNs env).scope.kind = .function := hkind
  refine wpAny_BinOp (wpAny_Name (wpAny_loadName_local kd hi hn ha (wpAny_Name (wpAny_loadName_local kd hj hn hb ?_) (by decide +kernel))) (by decide +kernel))
  exact PyProof.Rows.add_int ⟨⟨a, b, _, ea, eb, rfl⟩, t.heap, t.toks + 1, rfl, fun _ _ e => e⟩
 ·intro a h5 tk gs hgs hlt hsz5 k5 WS hat hpos
  have st5 : St C { s₃ with gens := s₃.gens.push gs, toks := tk, heap := h5 } :=
   {base := st4.base, keep := fun b o hb e => k5 b o (st4.keep b o hb e), tab := (let ⟨more, t⟩ := st4.tab; ⟨more, t.keeps k5⟩), tri := st4.tri_keep fun o e => k5 _ o e, bare := st4.bare.push hgs, os := st4.os, pos := hpos }
  refine Calls.spliced_nil ⟨⟨_, st5, rfl⟩, ?_⟩
  have hlen : (passing (fun _ => true) vs1.toArray.size 0).length = xs.length := by rw [passing_all, List.length_range]; simp [hlen1]
  refine call_tuple_gen WS.in4_3 (fun i s' st => st.1.typeIs) hat ?_ List.mem_cons_self (fun s6 acc mv hacc => ?_) (by rw [hlen]; exact hsz)
  ·intro b hb
   show b < h5.objs.size
   rw [hsz5]
   rcases List.mem_cons.mp hb with rfl | hb
   ·exact Nat.lt_succ_self _
   ·rcases List.mem_cons.mp hb with rfl | hb
    ·exact Nat.lt_succ_of_lt hlt
    ·exact Nat.lt_succ_of_lt (Nat.lt_trans (List.mem_range.mp hb) hlt)
  ·have nw : ∀ b o, s₃.heap.get? b = some o -> (s₂.heap.get? b = some o ∨ b = C.PT ∨ ∃ o', C.h0.get? b = some o') -> b ∉ s₃.heap.objs.size :: [z, TO, i1, i2] := by
    intro b o e q hm
    rcases List.mem_cons.mp hm with rfl | hm
    ·exact absurd (Heap.lt_size e) (Nat.lt_irrefl _)
    ·have n2 := newW b hm
     rcases q with q | rfl | ⟨o', q⟩
     ·rw [n2] at q; cases q
     ·obtain ⟨more, t⟩ := st2.tab
      rw [t.2] at n2; cases n2
     ·by_cases hb : b = C.PT
      ·subst hb
       obtain ⟨more, t⟩ := st2.tab
       rw [t.2] at n2; cases n2
      ·rw [st2.keep b o' hb q] at n2; cases n2
   have st6 : St C s6 :=
    {base := st4.base
     keep := fun b o hb e => (have e4 := st4.keep b o hb e; mv.heap b o (nw b o e4 (.inr (.inr ⟨o, e⟩))) (k5 b o e4))
     tab := by
      obtain ⟨more, ⟨o, vs, e1, r⟩, t⟩ := st4.tab
      obtain ⟨⟨o', vs', e1', r'⟩, t'⟩ := st4.base.tab
      exact ⟨more, ⟨o, vs, mv.heap _ _ (nw _ _ e1 (.inr (.inr ⟨o', e1'⟩))) (k5 _ _ e1), r⟩, mv.heap _ _ (nw _ _ t (.inr (.inl rfl))) (k5 _ _ t)⟩
     tri := st4.tri_keep fun o e => mv.heap _ _ (nw _ _ e (.inr (.inl rfl))) (k5 _ _ e)
     bare := AllBare.moved st5.bare mv.gens
     os := mv.os.trans st5.os
     pos := Nat.lt_of_lt_of_le hpos mv.toks }
   have kp6 : Kp C s s6 := fun b o hb e => by
    have e2 := k2 b o hb (k1 b o hb e)
    have e4 := k4 b o hb (k3 b o e2)
    exact mv.heap b o (nw b o e4 (.inl e2)) (k5 b o e4)
   refine ⟨st6.of_keep Qaa rfl rfl, fun b o hb e => Qaa b o (kp6 b o hb e), ?_⟩
   refine ⟨_, acc.toList, 0, rfl, fun q => ?_, ?_, ?_⟩
   ·obtain ⟨o, ho, hc⟩ := ok.low _ q
    have := Heap.lt_size (kp6 _ o (st.pt_cont ho hc) ho)
    exact absurd this (Nat.lt_irrefl _)
   ·have := Heap.get?_push_size s6.heap (o := { cls := .type "tuple", data := .seq acc }) rfl
    simpa [Qay] using this
   ·refine RelL.of_get ?_ fun j d v e1 e2 => ?_
    ·rw [Array.length_toList, hacc.1, hlen]
     simp [addUp, hle]
    ·obtain ⟨i, hi1, a', b', t, ea, eb, rfl⟩ := hacc.2 j v (by simpa using e2)
     have hij : i = j := by
      rw [passing_all, List.getElem?_range] at hi1
      ·exact (Option.some.inj hi1).symm
      ·have := (List.getElem?_eq_some_iff.mp hi1).1
       rw [List.length_range] at this
       exact this
     subst hij
     unfold addUp at e1
     rw [List.getElem?_map, List.getElem?_zipWith, ea, eb] at e1
     simp at e1
     subst e1
     exact Qbr
end
section
set_option tactic.hygienic false
inductive CV where
 | i (a : Int)
 | t (l : List Int)
noncomputable def CV.pv : CV -> PV
 | .i a => .int a
 | .t l => .tup (l.map .int)
noncomputable def CV.add : CV -> CV -> CV
 | .i c, .i o => .i (o + c)
 | .t c, .t o => .t (List.zipWith (fun a b => a + b) c o)
 | c, _ => c
noncomputable def CV.kd (m : Option Nat) : CV -> Prop
 | .i _ => m = none
 | .t l => m = some l.length
theorem CV.kd_add {m : Option Nat} : ∀ {c o : CV}, CV.kd m c -> CV.kd m o -> CV.kd m (CV.add c o)
 | .i _, .i _, h, _ => h
 | .i _, .t _, h, _ => h
 | .t _, .i _, h, _ => h
 | .t c, .t o, h, h' => by
  have h1 : m = some c.length := h
  have h2 : some c.length = some o.length := h1.symm.trans h'
  have h3 := Option.some.inj h2
  show m = some (List.zipWith _ c o).length
  rw [h1, List.length_zipWith, ← h3, Nat.min_self]
noncomputable def Qca (S : List (Int × CV)) : List (Int × PV) := S.map fun p => (p.1, p.2.pv)
noncomputable def addC (S : List (Int × CV)) (p : Int × CV) : List (Int × CV) := Qdb S p.1 (match Qcm S p.1 with | some o => CV.add p.2 o | none => p.2)
noncomputable def acF (T S : List (Int × CV)) : List (Int × CV) := S.foldl addC T
theorem Qfa (S : List (Int × CV)) (k : Int) : Qcm (Qca S) k = (Qcm S k).map CV.pv := dget_map CV.pv S k
theorem dhas_tabC (S : List (Int × CV)) (k : Int) : dhas (Qca S) k = dhas S k := by unfold dhas; rw [Qfa]; cases Qcm S k <;> rfl
theorem Qfs (S : List (Int × CV)) (k : Int) (v : CV) : Qdb (Qca S) k v.pv = Qca (Qdb S k v) := dset_map CV.pv S k v
theorem dset_len {K β : Type} [DecidableEq K] (S : List (K × β)) (k : K) (v : β) : (Qdb S k v).length <= S.length + 1 := by
 unfold Qdb; split <;> simp
theorem dset_new {K β : Type} [DecidableEq K] {S : List (K × β)} {k : K} (h : k ∉ S.map (·.1)) (v : β) : Qdb S k v = S ++ [(k, v)] := by
 unfold Qdb
 rw [if_neg]
 intro q
 simp only [List.any_eq_true, decide_eq_true_eq] at q
 obtain ⟨p, hp, e⟩ := q
 exact h (List.mem_map.mpr ⟨p, hp, e⟩)
theorem dcopy {K β : Type} [DecidableEq K] : ∀ (T acc : List (K × β)), ((acc ++ T).map (·.1)).Nodup -> T.foldl (fun a p => Qdb a p.1 p.2) acc = acc ++ T
 | [], acc, _ => by simp
 | p :: T, acc, h => by
  rw [List.foldl_cons, dset_new, dcopy T (acc ++ [p]) (by simpa using h)]
  ·simp
  ·intro q
   rw [List.map_append, List.nodup_append] at h
   exact h.2.2 _ q _ (by simp) rfl
theorem Qdg {K β : Type} [DecidableEq K] {l : List (K × β)} {k : K} {v : β} (h : Qcm l k = some v) : (k, v) ∈ l := by
 unfold Qcm at h
 rw [Option.map_eq_some_iff] at h
 obtain ⟨p, hp, rfl⟩ := h
 have h1 := List.find?_some hp
 simp only [decide_eq_true_eq] at h1
 have := List.mem_of_find?_eq_some hp
 rw [← h1]; exact this
theorem Qgf {K β : Type} [DecidableEq K] {P : β -> Prop} {S : List (K × β)} {k : K} {v : β} (h : ∀ p ∈ S, P p.2) (hv : P v) : ∀ p ∈ Qdb S k v, P p.2 := by
 intro p hp
 unfold Qdb at hp
 split at hp
 ·rw [List.mem_map] at hp
  obtain ⟨q, hq, rfl⟩ := hp
  by_cases e : q.1 = k
  ·simp [e, hv]
  ·simp [e, h q hq]
 ·rw [List.mem_append, List.mem_singleton] at hp
  rcases hp with hp | rfl
  ·exact h p hp
  ·exact hv
theorem addC_kd {m : Option Nat} {S : List (Int × CV)} {p : Int × CV} (h : ∀ q ∈ S, CV.kd m q.2) (hp : CV.kd m p.2) : ∀ q ∈ addC S p, CV.kd m q.2 := by
 unfold addC
 refine Qgf h ?_
 cases q : Qcm S p.1 with
 | none => exact hp
 | some o => exact CV.kd_add hp (h _ (Qdg q))
theorem CV.isinst (G : Gl C) {e : Expr} {c : CV} {m : Option Nat} {np p1 pos : Pos} (hk : CV.kd m c) (hx1 : gloB nm "isinstance" = true) (hx2 : gloB nm "tuple" = true) (he : Ev C n nm ρ ow e c.pv)
  (hp : ∀ env, (backTo pos (starEach [e, .Name "tuple" p1] env)).any (·.1) = false := by k_all) (hl1 : ∀ env, starEach [e, .Name "tuple" p1] env = (false, eval e env) :: starEach [.Name "tuple" p1] env := by k_all) :
  Ev C n nm ρ ow (.Call (.Name "isinstance" np) [e, .Name "tuple" p1] [] pos) (.bool m.isSome) := by
 have a := Qby he (ev_bltv (pos := p1) G.b_tuple hx2 : Ev C n nm ρ ow _ _) hl1
 cases c with
 | i x => unfold CV.kd at hk; subst hk; exact Qbh G.b_isinstance Qaq hx1 a opF_isinst_int (by decide +kernel) hp
 | t l => unfold CV.kd at hk; subst hk; exact Qbh G.b_isinstance Qaq hx1 a opF_isinst_tup (by decide +kernel) hp
theorem add_body (G : Gl C) (h4 : 4 <= n) {m : Option Nat} {T S : List (Int × CV)} (hT : ∀ p ∈ T, CV.kd m p.2) (hS : ∀ p ∈ S, CV.kd m p.2) (hn : (T.map (·.1)).Nodup) (hsz : T.length + S.length <= 1000) (hm : ∀ k, m = some k -> k <= 1000) :
  Ex C n (Qaf 3).names (Qax 3) [("target", .dctI (Qca T)), ("source", .dctI (Qca S))] none (fun _ _ => False) (fun e => e = .dctI (Qca (acF T S))) := by
 refine Qai (exs_new_dict (by k_all)) ?_
 refine Qbi (exs_forF (l := (Qca T).map fun kv => [("caller", kv.2), ("func", .int kv.1)]) (I := fun i ρ ow => ow = owned "new_callers" (.dctI (Qca ((T.take i).foldl (fun a p => Qdb a p.1 p.2) []))) /\ Qbp ρ "target" = some (.dctI (Qca T)) /\ Qbp ρ "source" = some (.dctI (Qca S)))
  (feed_items (Qab (by k_all) (by k_mem))) ⟨rfl, by k_mem, by k_mem⟩ ?_) ?_
 ·rintro i a ρ' _ ha ⟨rfl, h1, h2⟩
  have hi : i < T.length := by
   have := (List.getElem?_eq_some_iff.mp ha).1
   simpa [Qca] using this
  have e0 : T[i]? = some T[i] := by simp [hi]
  have e1 : a = [(("caller" : Str), T[i].2.pv), (("func" : Str), .int T[i].1)] := by
   rw [List.getElem?_map, Qca, List.getElem?_map, e0] at ha
   simpa using ha.symm
  subst e1
  refine ⟨fun p hp => ?_, ?_⟩
  ·revert p; refine al ?_ (al ?_ an)
   ·exact ⟨by k_all, Qba (show (("new_callers" : Str) == ("caller" : Str)) = false by decide +kernel)⟩
   ·exact ⟨by k_all, Qba (show (("new_callers" : Str) == ("func" : Str)) = false by decide +kernel)⟩
  have hnext : (T.take (i + 1)).foldl (fun a p => Qdb a p.1 p.2) [] = Qdb ((T.take i).foldl (fun a p => Qdb a p.1 p.2) []) T[i].1 T[i].2 := by
   rw [List.take_add_one, e0, List.foldl_append]; rfl
  have hl : ((T.take i).foldl (fun a p => Qdb a p.1 p.2) ([] : List (Int × CV))).length <= 1000 := by
   rw [dcopy _ _ (by simpa using hn.sublist (List.Sublist.map _ (List.take_sublist i T)))]
   simp; lia
  rw [hnext]
  generalize (T.take i).foldl (fun a p => Qdb a p.1 p.2) ([] : List (Int × CV)) = M at hl
  refine Qai (exs_dset (k := T[i].1) (d := T[i].2.pv) (by k_all) (Qab (by k_all) (by k_mem)) (Qab (by k_all) (by k_mem)) (by simp only [Qca, List.length_map]; unfold sizeLine; lia)) ?_
  exact Qcb ⟨by rw [Qfs], by k_mem, by k_mem⟩
 rintro ρ' _ ⟨rfl, h1, h2⟩
 have e0 : (T.take ((Qca T).map fun kv => [(("caller" : Str), kv.2), ("func", PV.int kv.1)]).length).foldl (fun a p => Qdb a p.1 p.2) [] = T := by
  rw [List.length_map]
  unfold Qca
  rw [List.length_map, List.take_length, dcopy _ _ (by simpa using hn)]; rfl
 rw [e0]
 refine Qbi (exs_forF (l := (Qca S).map fun kv => [("caller", kv.2), ("func", .int kv.1)]) (I := fun i ρ ow => ow = owned "new_callers" (.dctI (Qca (acF T (S.take i)))) /\ Qbp ρ "source" = some (.dctI (Qca S)))
  (feed_items (Qab (by k_all) (by k_mem))) ⟨rfl, by k_mem⟩ ?_) ?_
 ·rintro i a ρ' _ ha ⟨rfl, h2⟩
  have hi : i < S.length := by
   have := (List.getElem?_eq_some_iff.mp ha).1
   simpa [Qca] using this
  have e0 : S[i]? = some S[i] := by simp [hi]
  have e1 : a = [(("caller" : Str), S[i].2.pv), (("func" : Str), .int S[i].1)] := by
   rw [List.getElem?_map, Qca, List.getElem?_map, e0] at ha
   simpa using ha.symm
  subst e1
  refine ⟨fun p hp => ?_, ?_⟩
  ·revert p; refine al ?_ (al ?_ an)
   ·exact ⟨by k_all, Qba (show (("new_callers" : Str) == ("caller" : Str)) = false by decide +kernel)⟩
   ·exact ⟨by k_all, Qba (show (("new_callers" : Str) == ("func" : Str)) = false by decide +kernel)⟩
  have hnext : acF T (S.take (i + 1)) = addC (acF T (S.take i)) S[i] := by
   unfold acF
   rw [List.take_add_one, e0, List.foldl_append]; rfl
  have hl : (acF T (S.take i)).length <= 1000 := by
   have : ∀ (l T : List (Int × CV)), (acF T l).length <= T.length + l.length := by
    intro l
    induction l with
    | nil => intro T; simp [acF]
    | cons p l ih =>
     intro T
     have h1 := ih (addC T p)
     have h2 := dset_len T p.1 (match Qcm T p.1 with | some o => CV.add p.2 o | none => p.2)
     unfold acF at h1 ⊢
     rw [List.foldl_cons]
     unfold addC at h1 ⊢
     simp only [List.length_cons]; lia
   have h1 := this (S.take i) T
   rw [List.length_take] at h1; lia
  have hkd : ∀ q ∈ acF T (S.take i), CV.kd m q.2 := by
   have : ∀ (l T : List (Int × CV)), (∀ p ∈ T, CV.kd m p.2) -> (∀ p ∈ l, CV.kd m p.2) -> ∀ q ∈ acF T l, CV.kd m q.2 := by
    intro l
    induction l with
    | nil => intro T h _; exact h
    | cons p l ih => intro T h h'; exact ih (addC T p) (addC_kd h (h' p List.mem_cons_self)) fun q hq => h' q (List.mem_cons_of_mem _ hq)
   exact this _ _ hT fun p hp => hS p (List.mem_of_mem_take hp)
  have hSi : CV.kd m S[i].2 := hS _ (List.getElem_mem hi)
  rw [hnext]
  generalize acF T (S.take i) = M at hl hkd
  generalize S[i] = p at hSi
  have hz : (Qca M).length <= sizeLine := by simp only [Qca, List.length_map]; unfold sizeLine; lia
  refine Qbi (Qey (b := dhas (Qca M) p.1) (tv_in_own (Qab (by k_all) (by k_mem)) (evT_own (by k_all))) (fun hb => ?_) fun hb => ?_) (fun ρ' ow' h => Qcb h)
  ·rw [dhas_tabC] at hb
   obtain ⟨o, ho⟩ := Option.isSome_iff_exists.mp (show (Qcm M p.1).isSome = true from hb)
   have hko := hkd _ (Qdg ho)
   have hac : addC M p = Qdb M p.1 (CV.add p.2 o) := by unfold addC; rw [ho]
   rw [hac]
   refine Qbi (Qey (b := m.isSome) (tv_bool (CV.isinst G hSi (by k_all) (by k_all) (Qab (by k_all) (by k_mem)))) (fun hm' => ?_) fun hm' => ?_) (fun ρ' ow' h => Qcb h)
   ·obtain ⟨k, rfl⟩ := Option.isSome_iff_exists.mp hm'
    obtain ⟨pk, pv⟩ := p
    cases pv with
    | i a => cases hSi
    | t xs =>
     cases o with
     | i a => cases hko
     | t ys =>
      have l1 : k = xs.length := by simpa [CV.kd] using hSi
      have l2 : k = ys.length := by simpa [CV.kd] using hko
      have hk := hm k rfl
      refine Qai (exs_dset (k := pk) (d := (CV.t (List.zipWith (fun a b => a + b) xs ys)).pv) (by k_all) ?_ (Qab (by k_all) (by k_mem)) hz) ?_
      ·exact ev_tupgen G rfl (Qab (by k_all) (by k_mem)) (Qdl (evT_own (by k_all)) (Qab (by k_all) (by k_mem)) (by rw [Qfa, ho]; rfl)) (by lia) (by unfold sizeLine; lia) (by rfl) (by intro env; with_unfolding_all rfl) (by decide +kernel) (by rfl) (by rfl) (by rfl) (by rfl) (by k_all) (by k_all)
      ·exact Qcb ⟨by rw [Qfs]; rfl, by k_mem⟩
   ·have hmn : m = none := by cases m with | none => rfl | some _ => cases hm'
    subst hmn
    obtain ⟨pk, pv⟩ := p
    cases pv with
    | t xs => cases hSi
    | i a =>
     cases o with
     | t ys => cases hko
     | i b =>
      refine Qai (exs_daug (k := pk) (d1 := .int b) (d2 := .int a) (d := .int (b + a)) (by k_all) (Qab (by k_all) (by k_mem)) (by rw [Qfa, ho]; rfl) (Qab (by k_all) (by k_mem)) op_iadd_int hz) ?_
      exact Qcb ⟨by have := Qfs M pk (CV.i (b + a)); unfold CV.pv at this; simp only [] at this; rw [this]; rfl, by k_mem⟩
  ·rw [dhas_tabC] at hb
   have ho : Qcm M p.1 = none := by
    cases q : Qcm M p.1 with
    | none => rfl
    | some o => unfold dhas at hb; rw [q] at hb; cases hb
   have hac : addC M p = Qdb M p.1 p.2 := by unfold addC; rw [ho]
   rw [hac]
   refine Qai (exs_dset (k := p.1) (d := p.2.pv) (by k_all) (Qab (by k_all) (by k_mem)) (Qab (by k_all) (by k_mem)) hz) ?_
   exact Qcb ⟨by rw [Qfs], by k_mem⟩
 rintro ρ' _ ⟨rfl, h2⟩
 have e1 : S.take ((Qca S).map fun kv => [(("caller" : Str), kv.2), ("func", PV.int kv.1)]).length = S := by
  rw [List.length_map]
  unfold Qca
  rw [List.length_map, List.take_length]
 rw [e1]
 exact ex_freeze (Qef (Qab (by k_all) (by k_mem)) rfl)
theorem sp_add (G : Gl C) {m : Option Nat} {T S : List (Int × CV)} (hT : ∀ p ∈ T, CV.kd m p.2) (hS : ∀ p ∈ S, CV.kd m p.2) (hn : (T.map (·.1)).Nodup) (hsz : T.length + S.length <= 1000) (hm : ∀ k, m = some k -> k <= 1000) :
  Spec C 5 "add_callers" [.dctI (Qca T), .dctI (Qca S)] (.dctI (Qca (acF T S))) :=
 .of (xs := ["target", "source"]) G.add_callers (by decide +kernel) (by decide +kernel) rfl (fun pm cd doc vs h => by obtain ⟨a, b, rfl⟩ := vs2 h; rfl) (add_body G (Nat.le_refl _) hT hS hn hsz hm)
end
section
set_option tactic.hygienic false
open PySem.Sre
noncomputable def mkM (c t : Array Nat) (lim st pc pos hd : Nat) (mu o : Bool) (fr : List Sre.Frame) (w : Nat) (ans : Option Bool) (sn : Sre.Seen) (out : Option Sre.Outcome) : Sre.M :=
 {code := c, text := t, lim := lim, start := st, lastStart := lim, mustAdvance := mu, pc := pc, pos := pos, handed := hd, outermost := o, marks := #[], frames := fr, weight := w, answer := ans, seen := sn, outcome := out }
theorem sb0 {n d : Nat} (h : n - d <= 0) : n <= d := Nat.le_of_sub_eq_zero (Nat.le_zero.mp h)
theorem sb1 {n d : Nat} (h : d < n) : n - d = n - (d + 1) + 1 := (Nat.succ_pred_eq_of_pos (Nat.sub_pos_of_lt h)).symm
theorem sbk {n d k : Nat} (h : n - d <= k + 1) : n - (d + 1) <= k := Nat.pred_le_pred h
theorem sbk2 {n d k : Nat} (h : n - d <= k + 1) : n - (d + 2) <= k := Nat.le_trans (Nat.pred_le _) (sbk h)
theorem Qes {m : Sre.M} (h : m.outcome.isSome = true) : ∀ b, M.runFor b m = m
 | 0 => rfl
 | b + 1 => if_pos h
theorem runFor_step {m : Sre.M} (h : m.outcome = none) (b : Nat) : M.runFor (b + 1) m = M.runFor b m.step := by
 show (if m.outcome.isSome = true then m else _) = _
 rw [if_neg (by rw [h]; exact Bool.false_ne_true)]
theorem runFor_add (a b : Nat) (m : Sre.M) : M.runFor (a + b) m = M.runFor b (M.runFor a m) := by
 induction a generalizing m with
 | zero => rw [Nat.zero_add]; rfl
 | succ a ih =>
  rw [Nat.succ_add]
  cases h : m.outcome with
  | none => rw [runFor_step h, runFor_step h, ih]
  | some x =>
   have hs : m.outcome.isSome = true := by rw [h]; rfl
   rw [Qes hs, Qes hs, Qes hs]
noncomputable def Gets (k : Nat) (m m' : Sre.M) : Prop := ∃ j, j <= k /\ M.runFor j m = m'
theorem Gets.refl {m : Sre.M} : Gets 0 m m := ⟨0, Nat.le_refl _, rfl⟩
theorem Gets.trans {a b : Nat} {m m' m'' : Sre.M} (x : Gets a m m') (y : Gets b m' m'') : Gets (a + b) m m'' := by
 apply byc;intro kz
 obtain ⟨j, hj, e⟩ := x
 obtain ⟨l, hl, e'⟩ := y
 apply kz;clear kz
 exact ⟨j + l, by lia, by rw [runFor_add, e, e']⟩
theorem Gets.step {a : Nat} {m m' : Sre.M} (h : m.outcome = none) (y : Gets a m.step m') : Gets (a + 1) m m' := by
 obtain ⟨l, hl, e'⟩ := y
 exact ⟨l + 1, by lia, by rw [runFor_step h]; exact e'⟩
theorem Gets.le {a b : Nat} {m m' : Sre.M} (x : Gets a m m') (h : a <= b) : Gets b m m' := let ⟨j, hj, e⟩ := x; ⟨j, Nat.le_trans hj h, e⟩
section
variable {c t : Array Nat} {lim st pos hd w : Nat} {mu o : Bool} {fr : List Sre.Frame} {sn : Sre.Seen}
theorem step_run {pc : Nat} (hp : pc < c.size) : (mkM c t lim st pc pos hd mu o fr w none sn none).step = (mkM c t lim st pc pos hd mu o fr w none sn none).exec := by
 unfold M.step
 exact if_pos hp
theorem Qfd {pc x : Nat} (hp : pc < c.size) (h0 : c.getD pc 0 = 16) (h1 : c.getD (pc + 1) 0 = x) : (mkM c t lim st pc pos hd mu o fr w none sn none).step =
  if pos ≥ lim then mkM c t lim st pc pos hd mu o fr w (some false) (sn.add 16) none else if (t.getD pos 0 == x) = true then mkM c t lim st (pc + 2) (pos + 1) hd mu o fr w none (sn.add 16) none else mkM c t lim st pc pos hd mu o fr w (some false) (sn.add 16) none := by
 rw [step_run hp]
 have e0 : (mkM c t lim st pc pos hd mu o fr w none sn none).word 0 = 16 := h0
 unfold M.exec
 rw [e0]
 show (if pos ≥ lim then _ else _) = _
 by_cases h : pos ≥ lim
 ·rw [if_pos h, if_pos h]; rfl
 ·rw [if_neg h, if_neg h]
  have e1 : ∀ sn, accepts c pc (t.getD pos 0) sn = .ok (t.getD pos 0 == x, sn) := fun sn => by
   unfold accepts
   rw [h0, h1]
   rfl
  show (match accepts c pc (t.getD pos 0) _ with | .error why => _ | .ok (false, seen) => _ | .ok (true, seen) => _) = _
  rw [e1]
  have e2 : itemWidth c pc = 2 := by unfold itemWidth; rw [h0]; rfl
  cases q : (t.getD pos 0 == x) with
  | false => rfl
  | true =>
   rw [if_pos rfl]
   show (⟨_, _, _, _, _, _, _, pc + itemWidth c pc, _, _, _, _, _, _, _, _, _, _, _, _, _⟩ : Sre.M) = _
   rw [e2]; rfl
theorem step_at1 : (mkM c1 t lim st 5 pos hd mu o fr w none sn none).step = if (pos == 0 || t.getD (pos - 1) 0 == 10) = true then mkM c1 t lim st 7 pos hd mu o fr w none ((sn.add 6).add 44) none else mkM c1 t lim st 5 pos hd mu o fr w (some false) ((sn.add 6).add 44) none := by
 unfold M.step
 rfl
theorem step_succ {pc : Nat} (hp : pc < c.size) (h0 : c.getD pc 0 = 1) (hne : pos ≠ st) : (mkM c t lim st pc pos hd mu o fr w none sn none).step = mkM c t lim st pc pos pos mu o fr w (some true) (sn.add 1) none := by
 rw [step_run hp]
 have e0 : (mkM c t lim st pc pos hd mu o fr w none sn none).word 0 = 1 := h0
 unfold M.exec
 rw [e0]
 show (if (o && (false && pos != lim || mu && pos == st)) = true then _ else _) = _
 have : (pos == st) = false := by simpa using hne
 rw [this]
 simp only [Bool.false_and, Bool.and_false, Bool.or_false, Bool.false_eq_true, if_false]
 rfl
theorem step_jump {pc d : Nat} (hp : pc < c.size) (h0 : c.getD pc 0 = 15) (h1 : pc + 1 + c.getD (pc + 1) 0 = d) : (mkM c t lim st pc pos hd mu o fr w none sn none).step = mkM c t lim st d pos hd mu o fr w none (sn.add 15) none := by
 rw [step_run hp, ← h1]
 have e0 : (mkM c t lim st pc pos hd mu o fr w none sn none).word 0 = 15 := h0
 unfold M.exec
 rw [e0]
 rfl
noncomputable def fS (pc s : Nat) (o : Bool) : Sre.Frame := { wait := .nextStart, pc := pc, pos := s, outermost := o }
theorem step_yes {pc pos' s pc' : Nat} {o o' : Bool} : (mkM c t lim st pc pos hd mu o [fS pc' s o'] w (some true) sn none).step = mkM c t lim st pc' s hd mu o' [] (w - 1) (some true) sn none := rfl
theorem step_matched {pc : Nat} : (mkM c t lim st pc pos hd mu o [] w (some true) sn none).step = mkM c t lim st pc pos hd mu o [] w (some true) sn (some .matched) := rfl
theorem step_failed {pc : Nat} : (mkM c t lim st pc pos hd mu o [] w (some false) sn none).step = mkM c t lim st pc pos hd mu o [] w (some false) sn (some .failed) := rfl
noncomputable def Ends (k : Nat) (m : Sre.M) (r : Option (Nat × Nat)) : Prop := ∃ m', Gets k m m' /\ match r with | some (a, b) => m'.outcome = some .matched /\ m'.start = a /\ m'.handed = b | none => m'.outcome = some .failed
theorem Ends.of {a b : Nat} {m m' : Sre.M} {r : Option (Nat × Nat)} (x : Gets a m m') (y : Ends b m' r) : Ends (a + b) m r := let ⟨m'', g, h⟩ := y; ⟨m'', x.trans g, h⟩
theorem Ends.step {a : Nat} {m : Sre.M} {r : Option (Nat × Nat)} (h : m.outcome = none) (y : Ends a m.step r) : Ends (a + 1) m r := let ⟨m'', g, h'⟩ := y; ⟨m'', g.step h, h'⟩
theorem Ends.le {a b : Nat} {m : Sre.M} {r : Option (Nat × Nat)} (x : Ends a m r) (h : a <= b) : Ends b m r := let ⟨m', g, h'⟩ := x; ⟨m', g.le h, h'⟩
theorem ends_yes {pc s pc' : Nat} {o o' : Bool} : Ends 2 (mkM c t lim st pc pos hd mu o [fS pc' s o'] w (some true) sn none) (some (st, hd)) := by
 refine Ends.step rfl ?_
 rw [step_yes (pos' := pos)]
 refine Ends.step rfl ?_
 rw [step_matched]
 exact ⟨_, .refl, rfl, rfl, rfl⟩
theorem ends_no {pc : Nat} : Ends 1 (mkM c t lim st pc pos hd mu o [] w (some false) sn none) none := by
 refine Ends.step rfl ?_
 rw [step_failed]
 exact ⟨_, .refl, rfl⟩
noncomputable def p1 (t : Array Nat) (j : Nat) : Bool := (j == 0 || t.getD (j - 1) 0 == 10) && t.getD j 0 == 46
noncomputable def Qbl (p : Nat -> Bool) : Nat -> Nat -> Option Nat
 | 0, _ => none
 | k + 1, s => if p s then some s else Qbl p k (s + 1)
noncomputable abbrev at1 (t : Array Nat) (lim s hd : Nat) (mu o : Bool) (sn : Sre.Seen) : Sre.M := mkM c1 t lim s 5 s hd mu o [fS 5 s o] 1 none sn none
theorem no1 {s pc : Nat} : Gets 1 (mkM c1 t lim s pc pos hd mu o [fS 5 s o] 1 (some false) sn none) (if s < lim then at1 t lim (s + 1) (s + 1) false false sn else mkM c1 t lim s 5 s hd mu o [] 0 (some false) sn none) := by
 refine Gets.step rfl ?_
 show Gets 0 (if s < lim then _ else _) _
 by_cases h : s < lim
 ·rw [if_pos h, if_pos h]; exact ⟨0, Nat.le_refl _, rfl⟩
 ·rw [if_neg h, if_neg h]; exact ⟨0, Nat.le_refl _, rfl⟩
theorem run1 : ∀ (k s hd : Nat) (mu o : Bool) (sn : Sre.Seen), s + k = lim -> Ends (6 * (k + 1)) (at1 t lim s hd mu o sn) ((Qbl (p1 t) k s).map fun j => (j, j + 1)) := by
 intro k
 induction k with
 | zero =>
  intro s hd mu o sn hk
  have hs : s = lim := by lia
  refine Ends.le (a := (1 + (1 + 0)) + 1 + 1) ?_ (by lia)
  refine Ends.step rfl ?_
  rw [step_at1]
  have fin : ∀ pc pos sn, Ends 2 (mkM c1 t lim s pc pos hd mu o [fS 5 s o] 1 (some false) sn none) none := by
   intro pc pos sn
   refine Ends.of (a := 1) (b := 1) no1 ?_
   rw [if_neg (by lia)]
   exact ends_no
  split
  ·refine Ends.step rfl ?_
   rw [Qfd (x := 46) (by decide) rfl rfl, if_pos (by lia)]
   exact fin _ _ _
  ·exact (fin _ _ _).le (by lia)
 | succ k ih =>
  intro s hd mu o sn hk
  have hs : s < lim := by lia
  unfold Qbl
  have next : ∀ pc pos sn, Ends (1 + 6 * (k + 1)) (mkM c1 t lim s pc pos hd mu o [fS 5 s o] 1 (some false) sn none) ((Qbl (p1 t) k (s + 1)).map fun j => (j, j + 1)) := by
   intro pc pos sn
   refine Ends.of no1 ?_
   rw [if_pos hs]
   exact ih _ _ _ _ _ (by lia)
  refine Ends.le (a := (1 + 6 * (k + 1)) + 1 + 1) ?_ (by lia)
  refine Ends.step rfl ?_
  rw [step_at1]
  cases h1 : (s == 0 || t.getD (s - 1) 0 == 10) with
  | false =>
   have : p1 t s = false := by unfold p1; rw [h1]; rfl
   rw [this]
   exact (next _ _ _).le (by lia)
  | true =>
   rw [if_pos rfl]
   refine Ends.step rfl ?_
   rw [Qfd (x := 46) (by decide) rfl rfl, if_neg (by lia)]
   cases h2 : (t.getD s 0 == 46) with
   | false =>
    have : p1 t s = false := by unfold p1; rw [h1, h2]; rfl
    rw [this]
    exact next _ _ _
   | true =>
    have : p1 t s = true := by unfold p1; rw [h1, h2]; rfl
    rw [this]
    refine Ends.le (a := 2 + 1) ?_ (by lia)
    refine Ends.step rfl ?_
    rw [if_pos rfl, step_succ (by decide) rfl (by lia)]
    exact ends_yes
theorem search1 {s : Nat} (h : s <= lim) (mu : Bool) : Ends (6 * (lim + 1)) (Sre.forSearch c1 t 0 s lim mu) ((Qbl (p1 t) (lim - s) s).map fun j => (j, j + 1)) := by
 by_cases hl : s = lim
 ·subst hl
  rw [Nat.sub_self]
  refine Ends.le (a := 1) ?_ (by lia)
  have e : (Sre.forSearch c1 t 0 s s mu).answer = some false /\ (Sre.forSearch c1 t 0 s s mu).frames = [] /\ (Sre.forSearch c1 t 0 s s mu).outcome = none := by
   have hb : (decide (s > s) || decide (s - s < 1)) = true := by simp
   have e0 : ∃ m : Sre.M, Sre.forSearch c1 t 0 s s mu = m.say false /\ m.frames = [] /\ m.outcome = none := by
    refine ⟨_, (show (if (decide (s > s) || decide (s - s < 1)) = true then M.say _ false else M.attemptFrom _ s true) = _ from if_pos hb), rfl, rfl⟩
   apply byc;intro kz
   obtain ⟨m, e0, e1, e2⟩ := e0
   apply kz;clear kz
   rw [e0]
   exact ⟨rfl, e1, e2⟩
  obtain ⟨e1, e2, e3⟩ := e
  refine Ends.step e3 ⟨_, .refl, ?_⟩
  show (M.step _).outcome = _
  unfold M.step
  rw [e1, e2, e3]
  rfl
 ·have e : Sre.forSearch c1 t 0 s lim mu = at1 t lim s s mu true (({} : Sre.Seen).add 14) := by
   have hb : ¬ (decide (s > lim) || decide (lim - s < 1)) = true := by simp; lia
   exact (show (if (decide (s > lim) || decide (lim - s < 1)) = true then M.say _ false else M.attemptFrom _ s true) = _ from if_neg hb)
  rw [e]
  refine (run1 (lim - s) s s mu true _ (by lia)).le ?_
  have : lim - s + 1 <= lim + 1 := by lia
  exact Nat.mul_le_mul_left 6 this
noncomputable def p3 (t : Array Nat) (j : Nat) : Bool := t.getD j 0 == 10 || t.getD j 0 == 13
noncomputable def len3 (t : Array Nat) (lim j : Nat) : Nat := if t.getD j 0 == 13 && (decide (j + 1 < lim) && t.getD (j + 1) 0 == 10) then 2 else 1
theorem inSet3 (ch : Nat) (sn : Sre.Seen) : ∃ sn', inSet c3 ch c3.size 5 true sn = .ok (ch == 10 || ch == 13, sn') := by
 show ∃ sn', (if (ch == 10) = true then _ else (if (ch == 13) = true then _ else _)) = _
 cases h : (ch == 10) with
 | true => exact ⟨_, rfl⟩
 | false =>
  rw [if_neg Bool.false_ne_true]
  cases h : (ch == 13) with
  | true => exact ⟨_, rfl⟩
  | false => exact ⟨_, rfl⟩
theorem admitted3 (m : Sre.M) (hc : m.code = c3) (ht : m.text = t) (hl : m.lim = lim) : ∀ (k s : Nat) (sn : Sre.Seen), s + k = lim -> ∃ sn', M.admitted m (k + 1) s sn = .ok (Qbl (p3 t) k s, sn') := by
 intro k
 induction k with
 | zero =>
  intro s sn hk
  exact ⟨_, if_pos (by lia)⟩
 | succ k ih =>
  intro s sn hk
  rw [show M.admitted m (k + 1 + 1) s sn = _ from if_neg (by lia), hc, ht]
  obtain ⟨sn', e⟩ := inSet3 (t.getD s 0) sn
  rw [e]
  unfold Qbl p3
  cases h : (t.getD s 0 == 10 || t.getD s 0 == 13) with
  | true => exact ⟨_, rfl⟩
  | false => exact ih (s + 1) sn' (by lia)
noncomputable def kp0 : Sre.Kept := { lastmark := -1, lastindex := -1, whole := false, marks := #[] }
noncomputable def fB (a s : Nat) (o : Bool) : Sre.Frame := { wait := .nextBranch, pc := a, pos := s, outermost := o, kept := kp0 }
noncomputable def fN (s : Nat) (o : Bool) : Sre.Frame := { wait := .lookNot, pc := 26, pos := s, outermost := o, kept := kp0 }
theorem s_br : (mkM c3 t lim st 10 pos hd mu o fr 1 none sn none).step = mkM c3 t lim st 12 pos pos mu o (fB 11 pos o :: fr) 2 none (sn.add 7) none := rfl
theorem s_nb1 {pc pos' : Nat} {o' : Bool} : (mkM c3 t lim st pc pos' hd mu o' (fB 11 pos o :: fr) 2 (some false) sn none).step = mkM c3 t lim st 19 pos pos mu o (fB 18 pos o :: fr) 2 none sn none := rfl
theorem s_nb2 {pc pos' : Nat} {o' : Bool} : (mkM c3 t lim st pc pos' hd mu o' (fB 18 pos o :: fr) 2 (some false) sn none).step = mkM c3 t lim st 24 pos pos mu o (fB 23 pos o :: fr) 2 none sn none := rfl
theorem s_nby {pc pos' a : Nat} {o' : Bool} : (mkM c3 t lim st pc pos' hd mu o' (fB a pos o :: fr) 2 (some true) sn none).step = mkM c3 t lim st a pos hd mu o fr 1 (some true) sn none := rfl
theorem s_an : (mkM c3 t lim st 26 pos hd mu o fr 2 none sn none).step = mkM c3 t lim st 29 pos pos mu false (fN pos o :: fr) 3 none (sn.add 5) none := by
 rw [step_run (by decide)]
 have e0 : (mkM c3 t lim st 26 pos hd mu o fr 2 none sn none).word 0 = 5 := rfl
 unfold M.exec
 rw [e0]
 have h : ¬ pos < 0 := by lia
 exact (show (if pos < 0 then _ else M.attempt _ _ _ _ _) = _ from if_neg h)
theorem s_ln {pc pos' : Nat} {o' : Bool} : (mkM c3 t lim st pc pos' hd mu o' (fN pos o :: fr) 3 (some false) sn none).step = mkM c3 t lim st 32 pos hd mu o fr 2 none sn none := rfl
theorem fin3 {pc p a s : Nat} {o o' : Bool} (hne : p ≠ s) : Ends 4 (mkM c3 t lim s 35 p hd mu o [fB a s o', fS 10 s o'] 2 none sn none) (some (s, p)) := by
 refine Ends.step rfl ?_
 rw [step_succ (by decide) rfl hne]
 refine Ends.step rfl ?_
 rw [s_nby]
 exact ends_yes
theorem try3 {s : Nat} (hs : s < lim) (h : p3 t s = true) : Ends 20 (mkM c3 t lim s 10 s hd mu o [fS 10 s o] 1 none sn none) (some (s, s + len3 t lim s)) := by
 refine Ends.step (a := 19) rfl ?_
 rw [s_br]
 refine Ends.step (a := 18) rfl ?_
 rw [Qfd (x := 13) (by decide) rfl rfl, if_neg (by lia)]
 by_cases h13 : t.getD s 0 = 13
 ·rw [if_pos (by simpa using h13)]
  refine Ends.step (a := 17) rfl ?_
  rw [Qfd (x := 10) (by decide) rfl rfl]
  by_cases hn : s + 1 < lim /\ t.getD (s + 1) 0 = 10
  ·have hlen : len3 t lim s = 2 := by unfold len3; rw [h13, hn.2]; simp [hn.1]
   rw [hlen, if_neg (by lia), if_pos (by simpa using hn.2)]
   refine Ends.step (a := 16) rfl ?_
   rw [step_jump (d := 35) (by decide) rfl rfl]
   exact (fin3 (pc := 0) (by lia)).le (by lia)
  ·have hlen : len3 t lim s = 1 := by
    unfold len3
    rw [if_neg]
    intro q
    simp only [Bool.and_eq_true, decide_eq_true_eq, beq_iff_eq] at q
    exact hn q.2
   rw [hlen]
   have back : ∀ pc pos' o' sn hd, Ends 16 (mkM c3 t lim s pc pos' hd mu o' [fB 11 s o, fS 10 s o] 2 (some false) sn none) (some (s, s + 1)) := by
    intro pc pos' o' sn hd
    refine Ends.step (a := 15) rfl ?_
    rw [s_nb1]
    refine Ends.step (a := 14) rfl ?_
    rw [Qfd (x := 10) (by decide) rfl rfl, if_neg (by lia), if_neg (by simp [h13])]
    refine Ends.step (a := 13) rfl ?_
    rw [s_nb2]
    refine Ends.step (a := 12) rfl ?_
    rw [Qfd (x := 13) (by decide) rfl rfl, if_neg (by lia), if_pos (by simpa using h13)]
    refine Ends.step (a := 11) rfl ?_
    rw [s_an]
    refine Ends.step (a := 10) rfl ?_
    rw [Qfd (x := 10) (by decide) rfl rfl]
    have fin : ∀ pc pos' o' sn hd, Ends 9 (mkM c3 t lim s pc pos' hd mu o' [fN (s + 1) o, fB 23 s o, fS 10 s o] 3 (some false) sn none) (some (s, s + 1)) := by
     intro pc pos' o' sn hd
     refine Ends.step (a := 8) rfl ?_
     rw [s_ln]
     refine Ends.step (a := 7) rfl ?_
     rw [step_jump (d := 35) (by decide) rfl rfl]
     exact (fin3 (pc := 0) (by lia)).le (by lia)
    by_cases hge : s + 1 ≥ lim
    ·rw [if_pos hge]; exact (fin _ _ _ _ _).le (by lia)
    ·rw [if_neg hge, if_neg]
     ·exact (fin _ _ _ _ _).le (by lia)
     ·intro q
      exact hn ⟨by lia, by simpa using q⟩
   by_cases hge : s + 1 ≥ lim
   ·rw [if_pos hge]; exact (back _ _ _ _ _).le (by lia)
   ·rw [if_neg hge, if_neg]
    ·exact (back _ _ _ _ _).le (by lia)
    ·intro q
     exact hn ⟨by lia, by simpa using q⟩
 ·rw [if_neg (by simpa using h13)]
  have h10 : t.getD s 0 = 10 := by
   unfold p3 at h
   simp only [Bool.or_eq_true, beq_iff_eq] at h
   exact h.resolve_right h13
  have hlen : len3 t lim s = 1 := by unfold len3; rw [h10]; rfl
  rw [hlen]
  refine Ends.step (a := 17) rfl ?_
  rw [s_nb1]
  refine Ends.step (a := 16) rfl ?_
  rw [Qfd (x := 10) (by decide) rfl rfl, if_neg (by lia), if_pos (by simpa using h10)]
  refine Ends.step (a := 15) rfl ?_
  rw [step_jump (d := 35) (by decide) rfl rfl]
  exact (fin3 (pc := 0) (by lia)).le (by lia)
theorem Qct {p : Nat -> Bool} : ∀ {k s j : Nat}, Qbl p k s = some j -> s <= j /\ j < s + k /\ p j = true /\ ∀ i, s <= i -> i < j -> p i = false
 | 0, s, j, h => by cases h
 | k + 1, s, j, h => by
  unfold Qbl at h
  cases q : p s with
  | true =>
   rw [q] at h
   cases h
   exact ⟨Nat.le_refl _, by lia, q, fun i h1 h2 => by lia⟩
  | false =>
   rw [q] at h
   apply byc;intro kz
   obtain ⟨h1, h2, h3, h4⟩ := Qct h
   apply kz;clear kz
   refine ⟨by lia, by lia, h3, fun i h5 h6 => ?_⟩
   by_cases hi : i = s
   ·subst hi; exact q
   ·exact h4 i (by lia) h6
theorem firstP_none {p : Nat -> Bool} : ∀ {k s : Nat}, Qbl p k s = none -> ∀ i, s <= i -> i < s + k -> p i = false
 | 0, s, h, i, h1, h2 => by lia
 | k + 1, s, h, i, h1, h2 => by
  unfold Qbl at h
  cases q : p s with
  | true => rw [q] at h; cases h
  | false =>
   rw [q] at h
   by_cases hi : i = s
   ·subst hi; exact q
   ·exact firstP_none h i (by lia) (by lia)
theorem search3 {s : Nat} (h : s <= lim) (mu : Bool) : Ends (6 * (lim + 1) + 20) (Sre.forSearch c3 t 0 s lim mu) ((Qbl (p3 t) (lim - s) s).map fun j => (j, j + len3 t lim j)) := by
 by_cases hl : s = lim
 ·subst hl
  rw [Nat.sub_self]
  refine Ends.le (a := 1) ?_ (by lia)
  have e : (Sre.forSearch c3 t 0 s s mu).answer = some false /\ (Sre.forSearch c3 t 0 s s mu).frames = [] /\ (Sre.forSearch c3 t 0 s s mu).outcome = none := by
   have hb : (decide (s > s) || decide (s - s < 1)) = true := by simp
   have e0 : ∃ m : Sre.M, Sre.forSearch c3 t 0 s s mu = m.say false /\ m.frames = [] /\ m.outcome = none := by
    refine ⟨_, (show (if (decide (s > s) || decide (s - s < 1)) = true then M.say _ false else M.attemptFrom _ s true) = _ from if_pos hb), rfl, rfl⟩
   apply byc;intro kz
   obtain ⟨m, e0, e1, e2⟩ := e0
   apply kz;clear kz
   rw [e0]
   exact ⟨rfl, e1, e2⟩
  obtain ⟨e1, e2, e3⟩ := e
  refine Ends.step e3 ⟨_, .refl, ?_⟩
  show (M.step _).outcome = _
  unfold M.step
  rw [e1, e2, e3]
  rfl
 ·have e : Sre.forSearch c3 t 0 s lim mu = M.attemptFrom (mkM c3 t lim s 10 s s mu true [] 0 none (({} : Sre.Seen).add 14) none) s true := by
   have hb : ¬ (decide (s > lim) || decide (lim - s < 1)) = true := by simp; lia
   exact (show (if (decide (s > lim) || decide (lim - s < 1)) = true then M.say _ false else M.attemptFrom _ s true) = _ from if_neg hb)
  rw [e]
  obtain ⟨sn', ea⟩ := admitted3 (t := t) (lim := lim) (mkM c3 t lim s 10 s s mu true [] 0 none (({} : Sre.Seen).add 14) none) rfl rfl rfl (lim - s) s (({} : Sre.Seen).add 14) (by lia)
  have hf : lim + 1 - s = (lim - s) + 1 := by lia
  unfold M.attemptFrom
  show Ends _ (match M.admitted _ (lim + 1 - s) s (({} : Sre.Seen).add 14) with | .ok (some s, seen) => _ | .ok (none, seen) => _ | .error why => _) _
  rw [hf, ea]
  cases q : Qbl (p3 t) (lim - s) s with
  | none =>
   refine Ends.le (a := 1) ?_ (by lia)
   exact ends_no
  | some j =>
   apply byc;intro kz
   obtain ⟨h1, h2, h3, _⟩ := Qct q
   apply kz;clear kz
   have hj : j < lim := by lia
   exact Ends.le (a := 20) (try3 hj h3) (by lia)
end
end
section
set_option tactic.hygienic false
open PySem.Builtin.Re
variable {C : Cfg} {A : Around} {s s' : Shared} {E : Value -> Shared -> Prop} {n : Nat}
theorem sub_slot : Slot "re.Pattern" "sub" "re.Pattern.sub" :=
 .of (owner := "re.Pattern") (n := "sub") (by rw [typeLookup_type, builtinLookup_eq_fast]; kernel_rfl) (by decide +kernel) (by decide +kernel) (by decide +kernel)
  (by first | exact .inl (by decide +kernel) | exact .inr (by decide +kernel)) (by rw [isSubtype_type]; kernel_rfl)
theorem sub_type : typeOf (.builtin "re.Pattern.sub") = pure (.type "method_descriptor") := by show builtinType _ = _; rw [builtinType_eq_fast]; kernel_rfl
theorem sub_plain : PlainAttrs "re.Pattern" :=
 ⟨⟨"object.__getattribute__", by rw [typeLookup_type, builtinLookup_eq_fast]; kernel_rfl, by decide +kernel⟩, by rw [typeLookup_type, builtinLookup_eq_fast]; kernel_rfl⟩
theorem sub_entry : entryFor table "re.Pattern.sub" = some Builtin.«re.Pattern.sub» := entryFor_of_tree (by kernel_rfl)
theorem loop_entry : entryFor table "re.Pattern.sub.loop" = some Builtin.«re.Pattern.sub.loop» := entryFor_of_tree (by kernel_rfl)
theorem loop_plain : plainId "re.Pattern.sub.loop" = true := by decide +kernel
theorem sub_args (a b c : Value) : argsOk "re.Pattern.sub" ⟨[a, b, c], []⟩ := by
 unfold argsOk; kernel_rfl
theorem named_sub (a b : Value) : reNamed "re.Pattern.sub" "sub" ["repl", "string", "count"] 2 [a, b] [] = pure [some a, some b, none] := by rfl
theorem call_str : typeLookup (.type "str") "__call__" = pure none := by rw [typeLookup_type, builtinLookup_eq_fast]; kernel_rfl
theorem call_bytes : typeLookup (.type "bytes") "__call__" = pure none := by rw [typeLookup_type, builtinLookup_eq_fast]; kernel_rfl
theorem buf_bytes : typeLookup (.type "bytes") "__buffer__" = pure (some (.builtin "bytes.__buffer__")) := by rw [typeLookup_type, builtinLookup_eq_fast]; kernel_rfl
theorem rel_bytes' : typeLookup (.type "bytes") "__release_buffer__" = pure none := by rw [typeLookup_type, builtinLookup_eq_fast]; kernel_rfl
theorem sub_bytes : isSubtype (.type "bytes") (.type "bytes") = pure true := by rw [isSubtype_type]; kernel_rfl
theorem drive_of {m m' : Sre.M} {Q : Sre.M -> Shared -> Prop} (hm : m'.outcome.isSome = true) (h : Q m' s) : ∀ (turns j : Nat), j <= turns * 4 -> turns ≠ 0 -> Sre.M.runFor j m = m' -> wpAny (Mo C) A (reDrive turns m) Q E s := by
 intro turns
 induction turns generalizing m with
 | zero => intro j _ h0; exact absurd rfl h0
 | succ k ih =>
  intro j hj _ e
  have h4 : Sre.M.runFor (4 + (j - 4)) m = m' ∨ j < 4 := by
   by_cases h : j < 4
   ·exact .inr h
   ·left; rw [show 4 + (j - 4) = j by lia]; exact e
  have done4 : j < 4 -> Sre.M.runFor 4 m = m' := fun hlt => by
   have : Sre.M.runFor (j + (4 - j)) m = m' := by rw [runFor_add, e, Qes hm]
   rwa [show j + (4 - j) = 4 from Nat.add_sub_cancel' (Nat.le_of_lt hlt)] at this
  show wpAny _ _ (if (Sre.M.runFor 4 m).outcome.isSome = true then pure (Sre.M.runFor 4 m) else (rule "sre.turn" >>= fun _ => reDrive k (Sre.M.runFor 4 m))) _ _ _
  by_cases hd : (Sre.M.runFor 4 m).outcome.isSome = true
  ·rw [if_pos hd]
   have : Sre.M.runFor 4 m = m' := by
    rcases h4 with h4 | h4
    ·rw [runFor_add, Qes hd] at h4; exact h4
    ·exact done4 h4
   rw [this]
   exact wpAny_pure h
  ·rw [if_neg hd]
   refine wpAny_bind (wpAny_rule ?_)
   rcases h4 with h4 | h4
   ·have hk : k ≠ 0 := by
     rintro rfl
     have h44 : 4 + (j - 4) = 4 := by lia
     rw [h44] at h4
     rw [h4] at hd
     exact hd hm
    rw [runFor_add] at h4
    exact ih (j - 4) (by lia) hk h4
   ·rw [done4 h4] at hd
    exact absurd hm hd
theorem rules_of {Q : PUnit -> Shared -> Prop} (sn : Sre.Seen) (nm : Nat -> String) (h : Q ⟨⟩ s) : ∀ l : List Nat, wpAny (Mo C) A (forIn l PUnit.unit fun i _ => (if sn.has i = true then do rule (nm i); pure (ForInStep.yield PUnit.unit) else pure (ForInStep.yield PUnit.unit) : Sem (ForInStep PUnit))) Q E s
 | [] => by rw [List.forIn_nil]; exact wpAny_pure h
 | i :: l => by
  rw [List.forIn_cons]
  refine wpAny_bind ?_
  split
  ·exact wpAny_bind (wpAny_rule (wpAny_pure (rules_of sn nm h l)))
  ·exact wpAny_pure (rules_of sn nm h l)
theorem toEnd_of {m : Sre.M} {k : Nat} {r : Option (Nat × Nat)} {Q : Option Sre.M -> Shared -> Prop} (he : Ends k m r) (hk : k <= 2 ^ 64) (h : match r with | some (a, b) => ∀ m' : Sre.M, m'.start = a -> m'.handed = b -> Q (some m') s | none => Q none s) : wpAny (Mo C) A (reRunToEnd m) Q E s := by
 apply byc;intro kz
 obtain ⟨m', ⟨j, hj, e⟩, hr⟩ := he
 apply kz;clear kz
 have hs : m'.outcome.isSome = true := by
  cases r with
  | none => have : m'.outcome = some .failed := hr; rw [this]; rfl
  | some p => have : m'.outcome = some .matched := hr.1; rw [this]; rfl
 unfold reRunToEnd
 refine wpAny_bind (drive_of hs ?_ (2 ^ 64) j (by lia) (by decide) e)
 refine wpAny_bind (rules_of m'.seen (fun i => Sre.names.getD i "") ?_ _)
 cases r with
 | none =>
  have : m'.outcome = some .failed := hr
  rw [this]
  exact wpAny_pure h
 | some p =>
  apply byc;intro kz
  obtain ⟨a, b⟩ := p
  obtain ⟨h1, h2, h3⟩ := hr
  apply kz;clear kz
  rw [h1]
  exact wpAny_pure (h m' h2 h3)
noncomputable def PAll (P : Value -> List Nat -> Prop) : List Value -> List (List Nat) -> Prop
 | [], ls => ls = []
 | v :: vs, ls => ∃ l r, ls = l :: r /\ P v l /\ PAll P vs r
theorem PAll.push {P : Value -> List Nat -> Prop} {v : Value} {l : List Nat} (h : P v l) : ∀ {vs : List Value} {ls : List (List Nat)}, PAll P vs ls -> PAll P (vs ++ [v]) (ls ++ [l])
 | [], _, e => by unfold PAll at e; subst e; exact ⟨l, [], rfl, h, rfl⟩
 | u :: vs, _, e => by obtain ⟨k, r, rfl, h1, h2⟩ := e; exact ⟨k, r ++ [l], rfl, h1, PAll.push h h2⟩
noncomputable def subL (p : Nat -> Bool) (len : Nat -> Nat) (rp T : List Nat) : Nat -> Nat -> List Nat
 | 0, d => T.drop d
 | k + 1, d => match Qbl p (T.length - d) d with
  | some j => (T.drop d).take (j - d) ++ rp ++ subL p len rp T k (j + len j)
  | none => T.drop d
structure Knd (C : Cfg) (kind : Nat) (P : Value -> List Nat -> Prop) : Prop where
 slice : ∀ (A : Around) (E : Value -> Shared -> Prop) (s : Shared) (T : Array Nat) (b e : Nat) (Q : Value -> Shared -> Prop), T.size <= sizeLine -> (∀ v, P v (T.extract b e).toList -> Q v { s with toks := s.toks + 1 }) -> wpAny (Mo C) A (reSlice T kind b e) Q E s
 join : ∀ (A : Around) (E : Value -> Shared -> Prop) (s : Shared) (lst : Addr) (vs : List Value) (ls : List (List Nat)) (m : Nat) (jv : Value) (Q : Value -> Shared -> Prop), s.heap.get? lst = some (Qay "list" vs m) -> P jv [] -> PAll P vs ls -> ls.flatten.length <= sizeLine -> vs ≠ [] ->
  (∀ v tk, P v ls.flatten -> Q v { s with toks := tk }) -> wpAny (Mo C) A (call (.builtin (if (kind == 0) = true then "str.join" else "bytes.join")) [jv, .ref lst]) Q E s
structure Tg0 (C : Cfg) (a : Addr) (code : Array Nat) (kind : Nat) (sv : Value) (T : Array Nat) (rv : Value) (rp : List Nat) (P : Value -> List Nat -> Prop) : Prop where
 kd : kind = 0 ∨ kind = 1
 pat : ∃ o fs ct co nn, C.h0.get? a = some o /\ o.data = .fields fs /\ (o.cls = .type "re.Pattern" /\ o.dict = none) /\ fs.getD 2 .none = rawInt 0 /\ fs.getD 5 .none = .ref ct /\ fs.getD 6 .none = rawInt (kind : Nat) /\ C.h0.get? ct = some co /\ co.data = .seq (code.map fun (w : Nat) => rawInt (w : Int)) nn
 text : ∀ (A : Around) (E : Value -> Shared -> Prop) (s : Shared) (Q : Array Nat × Nat -> Shared -> Prop), Q (T, kind) s -> wpAny (Mo C) A (reTextOf sv) Q E s
 quiet : ∀ (A : Around) (E : Value -> Shared -> Prop) (s : Shared) (Q : Unit -> Shared -> Prop), Q () s -> wpAny (Mo C) A (reNoCollectionInside sv kind) Q E s
 lit : ∀ (A : Around) (E : Value -> Shared -> Prop) (s : Shared) (Q : Unit -> Shared -> Prop), Q () s -> wpAny (Mo C) A (reLiteralCannotBeTurned rv) Q E s
 nocall : ∀ (A : Around) (E : Value -> Shared -> Prop) (s : Shared) (Q : Option Value -> Shared -> Prop), Q none s -> wpAny (Mo C) A (specialOf rv "__call__") Q E s
 plain : (∃ x, asStr? rv = pure (some x) /\ x.cps.contains 92 = false) ∨ (asStr? rv = pure none /\ ∃ b : Array UInt8, (∀ (A : Around) (E : Value -> Shared -> Prop) (s : Shared) (Q : Option (Array UInt8) -> Shared -> Prop), Q (some b) s -> wpAny (Mo C) A (Builtin.Bytes.bufferQuiet? "re.Pattern.sub" rv) Q E s) /\ b.contains 92 = false)
 ne : (rv != .none) = true
 rep : P rv rp
 rlen : rp.length <= 2
section
variable {a : Addr} {code : Array Nat} {kind : Nat} {sv rv : Value} {T : Array Nat} {rp : List Nat} {P : Value -> List Nat -> Prop} {p : Nat -> Bool} {len : Nat -> Nat}
theorem target_of (st : St C s) (G : Tg0 C a code kind sv T rv rp P) {Q : ReTarget -> Shared -> Prop} (h : Q { pattern := .ref a, string := sv, code := code, text := T, kind := kind, groups := 0, pos := 0, lim := T.size } s) : wpAny (Mo C) A (reWholeTarget (.ref a) sv) Q E s := by
 apply byc;intro kz
 obtain ⟨o, fs, ct, co, nn, h1, h2, h3, h4, h5, h6, h7, h8⟩ := G.pat
 apply kz;clear kz
 have ho : s.heap.get? a = some o := st.h0 h1 fun vs e => by subst e; cases h3.1
 have hc : s.heap.get? ct = some co := st.h0 h7 fun vs e => by subst e; cases h8
 unfold reWholeTarget
 refine wpAny_bind (wpAny_fieldsOf ho h2 ?_)
 refine wpAny_bind (G.text _ _ _ _ ?_)
 have hw : reRawNat (fs.getD 6 .none) = kind := by rw [h6]; rfl
 have hg : reRawNat (fs.getD 2 .none) = 0 := by rw [h4]; rfl
 dsimp only
 rw [hw, hg, h5]
 have key : wpAny (Mo C) A (do reNoCollectionInside sv kind; pure ({ pattern := .ref a, string := sv, code := Array.map (fun x => x.toNat) (← reRawItems (.ref ct)), text := T, kind := kind, groups := 0, pos := 0, lim := T.size } : ReTarget)) Q E s := by
  refine wpAny_bind (G.quiet _ _ _ _ ?_)
  refine wpAny_bind ?_
  unfold reRawItems
  refine wpAny_bind (wpAny_seqItems hc h8 (wpAny_pure (wpAny_pure ?_)))
  have e : Array.map (fun x => x.toNat) (Array.map reRawOf ((some (code.map fun (w : Nat) => rawInt (w : Int))).getD #[])) = code := by
   simp only [Option.getD_some, Array.map_map]
   conv => rhs; rw [← Array.map_id code]
   apply Array.map_congr_left
   intro w _
   rfl
  rw [e]
  exact h
 rcases G.kd with rfl | rfl <;> exact key
theorem extract_list (T : Array Nat) (b e : Nat) : (T.extract b e).toList = (T.toList.drop b).take (e - b) := by
 rw [Array.toList_extract, List.extract_eq_take_drop]
theorem list_push {h : Heap} {lst : Addr} {vs : List Value} {m : Nat} {v : Value} (e : h.get? lst = some (Qay "list" vs m)) :
  ∃ m', (h.update lst (Obj.mapSeq fun xs => xs.push v)).get? lst = some (Qay "list" (vs ++ [v]) m') := by
 have e2 : IsL h lst vs.toArray m := e
 have e3 := e2.update (fun xs => xs.push v)
 have e4 : vs.toArray.push v = (vs ++ [v]).toArray := by simp
 generalize (if (vs.toArray.push v).size == vs.toArray.size then m else m + 1) = m' at e3
 rw [e4] at e3
 exact ⟨m', e3⟩
theorem loop_step (K : Knd C kind P) (G : Tg0 C a code kind sv T rv rp P) (hsz : 4 * T.size + 4 <= sizeLine) (hf : ∀ d mu, d <= T.size -> Ends (6 * (T.size + 1) + 20) (Sre.forSearch code T 0 d T.size mu) ((Qbl p (T.size - d) d).map fun j => (j, j + len j)))
  {d : Nat} {lst : Addr} {vs : List Value} {ls : List (List Nat)} {m : Nat} {nn : Int} {t1 t2 t3 t4 t5 : Tok} {must : Bool} {R : Result -> Shared -> Prop} (hd : d <= T.size) (st : St C s) (hl0 : C.h0.get? lst = none) (hg : s.heap.get? lst = some (Qay "list" vs m)) (hP : PAll P vs ls)
  (hv : vs.length <= 2 * d) (hL : ls.flatten.length <= 3 * d)
  (hnext : ∀ j, Qbl p (T.size - d) d = some j -> ∀ (s' : Shared) vs' m' must', St C s' -> s'.heap.get? lst = some (Qay "list" vs' m') -> PAll P vs' (ls ++ (if d < j then [(T.toList.drop d).take (j - d)] else []) ++ [rp]) -> vs'.length <= vs.length + 2 -> (∃ h' tk, s' = { s with heap := h', toks := tk } /\ Heap.SameBut lst s.heap h') ->
   codeAny (Mo C) A (.builtin "re.Pattern.sub.loop" ⟨[.ref a, sv, rv, .int 0 0, .int 0 0, .int (nn + 1) 0, .int (j + len j : Nat) 0, .int (j + len j : Nat) 0, .bool must', .ref lst, .bool false], []⟩) R s')
  (hend : Qbl p (T.size - d) d = none -> ∀ v h' tk, P v (ls.flatten ++ T.toList.drop d) -> 0 < tk -> Heap.SameBut lst s.heap h' -> R (.ok (.ret v)) { s with heap := h', toks := tk }) :
  codeAny (Mo C) A (.builtin "re.Pattern.sub.loop" ⟨[.ref a, sv, rv, .int 0 t1, .int 0 t2, .int nn t3, .int d t4, .int d t5, .bool must, .ref lst, .bool false], []⟩) R s := by
 have hpt : lst ≠ C.PT := fun q => by
  subst q
  exact st.pt_cont hg Qbf rfl
 have hT : T.size <= sizeLine := by lia
 refine codeAny_builtin loop_entry ?_
 rw [Around.under_plainId loop_plain _]
 show wpAny _ _ (reWholeTarget (.ref a) sv >>= _) _ _ _
 refine wpAny_bind (target_of st G ?_)
 show wpAny _ _ (reLiteralCannotBeTurned rv >>= _) _ _ _
 refine wpAny_bind (G.lit _ _ _ _ ?_)
 have hK := hf d must hd
 have hb : 6 * (T.size + 1) + 20 <= 2 ^ 64 := by unfold sizeLine at hsz; lia
 refine wpAny_bind (show wpAny _ _ (reRunToEnd (Sre.forSearch code T 0 d T.size must)) _ _ _ from toEnd_of hK hb ?_)
 cases q : Qbl p (T.size - d) d with
 | none =>
  show wpAny _ _ (if d < T.size then _ else _) _ _ _
  have fin : ∀ (s2 : Shared) vs2 ls2 m2, St C s2 -> s2.heap.get? lst = some (Qay "list" vs2 m2) -> PAll P vs2 ls2 -> ls2.flatten = ls.flatten ++ T.toList.drop d -> (∃ h' tk, s2 = { s with heap := h', toks := tk } /\ Heap.SameBut lst s.heap h') ->
    wpAny (Mo C) A.in1 (reSlice T kind 0 0 >>= fun joiner => seqItems? (.ref lst) >>= fun its => (if (its.getD #[]).isEmpty = true then (pure joiner >>= fun text => ret text) else (call (.builtin (if (kind == 0) = true then "str.join" else "bytes.join")) [joiner, .ref lst] >>= fun text => ret text)) : Sem PySem.Fin)
     (fun fin s' => match fin with | .done f => R (.ok f) s' | .again c' => c'.quiet = true /\ codeAny (model Pr C.w) A c' R s') (fun e s' => R (.error e) s') s2 := by
   intro s2 vs2 ls2 m2 st2 hg2 hP2 hfl ⟨h', tk, e2, hsb⟩
   refine wpAny_bind (K.slice _ _ _ _ _ _ _ hT fun jv hj => ?_)
   have hj' : P jv [] := by simpa [extract_list] using hj
   refine wpAny_bind (wpAny_seqItems hg2 rfl ?_)
   subst e2
   cases vs2 with
   | nil =>
    have e0 : ls2 = [] := hP2
    subst e0
    show wpAny _ _ (pure jv >>= _) _ _ _
    refine wpAny_bind (wpAny_pure ?_)
    refine wpAny_pure ?_
    exact hend q jv h' _ (by rw [← hfl]; exact hj') (Nat.succ_pos _) hsb
   | cons v vs2 =>
    show wpAny _ _ (call _ _ >>= _) _ _ _
    refine wpAny_bind (Qbj (Nat.succ_pos _) (K.join _ _ _ lst (v :: vs2) ls2 m2 jv _ hg2 hj' hP2 ?_ (by simp) fun w tk' hw hp => ?_))
    ·rw [hfl, List.length_append, List.length_drop]
     have e := Array.length_toList (xs := T)
     lia
    ·refine wpAny_pure ?_
     exact hend q w h' tk' (by rw [← hfl]; exact hw) hp hsb
  by_cases hlt : d < T.size
  ·rw [if_pos hlt]
   show wpAny _ _ (reSlice T kind d T.size >>= _) _ _ _
   refine wpAny_bind (K.slice _ _ _ _ _ _ _ hT fun pv hpv => ?_)
   refine wpAny_bind (wpAny_updateSeq hg rfl ?_ (by simp; lia) (by simp; lia))
   obtain ⟨m', hg'⟩ := list_push (v := pv) hg
   have hsb : Heap.SameBut lst s.heap (s.heap.update lst (Obj.mapSeq fun xs => xs.push pv)) := Heap.SameBut.update ..
   refine fin _ _ (ls ++ [(T.extract d T.size).toList]) _ (st.same_but hsb hl0 hpt (Nat.succ_pos _)) hg' (hP.push hpv) ?_ ⟨_, _, rfl, hsb⟩
   rw [List.flatten_append, extract_list]
   simp [List.take_of_length_le]
  ·rw [if_neg hlt]
   refine fin s vs ls m st hg hP ?_ ⟨_, _, rfl, Heap.SameBut.refl ..⟩
   rw [List.drop_of_length_le (by rw [Array.length_toList]; lia), List.append_nil]
 | some j =>
  intro m' hs hh
  apply byc;intro kz
  obtain ⟨g1, g2, g3, _⟩ := Qct q
  apply kz;clear kz
  show wpAny _ _ (if d < m'.start then _ else _) _ _ _
  rw [hs]
  have fin : ∀ (s2 : Shared) vs2 ls2 m2, St C s2 -> s2.heap.get? lst = some (Qay "list" vs2 m2) -> PAll P vs2 ls2 -> ls2 = ls ++ (if d < j then [(T.toList.drop d).take (j - d)] else []) -> vs2.length <= vs.length + 1 -> (∃ h' tk, s2 = { s with heap := h', toks := tk } /\ Heap.SameBut lst s.heap h') ->
    wpAny (Mo C) A.in1 (if (rv != .none) = true then (updateSeq lst (fun x => x.push rv) >>= fun _ => again (.builtin "re.Pattern.sub.loop" ⟨[.ref a, sv, rv, rawInt 0, rawInt 0, rawInt (nn + 1), rawInt m'.handed, rawInt m'.handed, .bool (m'.handed == j), .ref lst, .bool false], []⟩)) else again (.builtin "re.Pattern.sub.loop" ⟨[.ref a, sv, rv, rawInt 0, rawInt 0, rawInt (nn + 1), rawInt m'.handed, rawInt m'.handed, .bool (m'.handed == j), .ref lst, .bool false], []⟩) : Sem PySem.Fin)
     (fun fin s' => match fin with | .done f => R (.ok f) s' | .again c' => c'.quiet = true /\ codeAny (model Pr C.w) A c' R s') (fun e s' => R (.error e) s') s2 := by
   intro s2 vs2 ls2 m2 st2 hg2 hP2 hfl hv2 ⟨h', tk, e2, hsb⟩
   rw [if_pos G.ne, hh]
   refine wpAny_bind (wpAny_updateSeq hg2 rfl ?_ (by simp; lia) (by simp; lia))
   obtain ⟨m3, hg3⟩ := list_push (v := rv) hg2
   have hsb3 : Heap.SameBut lst s2.heap (s2.heap.update lst (Obj.mapSeq fun xs => xs.push rv)) := Heap.SameBut.update ..
   refine wpAny_pure ⟨plainId_quiet loop_plain _, ?_⟩
   refine hnext j q _ _ _ _ (st2.same_but (tk := s2.toks) hsb3 hl0 hpt) hg3 ?_ ?_ ?_
   ·have := hP2.push G.rep
    rw [hfl] at this; exact this
   ·simp; lia
   ·subst e2; exact ⟨_, _, rfl, hsb.trans hsb3⟩
  by_cases hlt : d < j
  ·rw [if_pos hlt]
   show wpAny _ _ (reSlice T kind d j >>= _) _ _ _
   refine wpAny_bind (K.slice _ _ _ _ _ _ _ hT fun pv hpv => ?_)
   refine wpAny_bind (wpAny_updateSeq hg rfl ?_ (by simp; lia) (by simp; lia))
   obtain ⟨m2, hg'⟩ := list_push (v := pv) hg
   have hsb : Heap.SameBut lst s.heap (s.heap.update lst (Obj.mapSeq fun xs => xs.push pv)) := Heap.SameBut.update ..
   refine fin _ _ (ls ++ [(T.extract d j).toList]) _ (st.same_but hsb hl0 hpt (Nat.succ_pos _)) hg' (hP.push hpv) ?_ (by simp) ⟨_, _, rfl, hsb⟩
   rw [if_pos hlt, extract_list]
  ·rw [if_neg hlt]
   refine fin s vs ls m st hg hP ?_ (by lia) ⟨_, _, rfl, Heap.SameBut.refl ..⟩
   rw [if_neg hlt, List.append_nil]
theorem sub_loop (K : Knd C kind P) (G : Tg0 C a code kind sv T rv rp P) (hsz : 4 * T.size + 4 <= sizeLine) (hf : ∀ d mu, d <= T.size -> Ends (6 * (T.size + 1) + 20) (Sre.forSearch code T 0 d T.size mu) ((Qbl p (T.size - d) d).map fun j => (j, j + len j)))
  (hlen : ∀ j, p j = true -> j < T.size -> 1 <= len j /\ j + len j <= T.size) :
  ∀ (k d : Nat) (s : Shared) (lst : Addr) (vs : List Value) (ls : List (List Nat)) (m : Nat) (nn : Int) (t1 t2 t3 t4 t5 : Tok) (must : Bool) (A : Around) (R : Result -> Shared -> Prop), T.size - d <= k -> d <= T.size -> St C s -> C.h0.get? lst = none -> s.heap.get? lst = some (Qay "list" vs m) -> PAll P vs ls ->
   vs.length <= 2 * d -> ls.flatten.length <= 3 * d ->
   (∀ v h' tk, P v (ls.flatten ++ subL p len rp T.toList k d) -> 0 < tk -> Heap.SameBut lst s.heap h' -> R (.ok (.ret v)) { s with heap := h', toks := tk }) ->
   codeAny (Mo C) A (.builtin "re.Pattern.sub.loop" ⟨[.ref a, sv, rv, .int 0 t1, .int 0 t2, .int nn t3, .int d t4, .int d t5, .bool must, .ref lst, .bool false], []⟩) R s := by
 intro k
 induction k with
 | zero =>
  intro d s lst vs ls m nn t1 t2 t3 t4 t5 must A R hk hd st hl0 hg hP hv hL hR
  refine loop_step K G hsz hf hd st hl0 hg hP hv hL (fun j q => ?_) fun q => ?_
  ·rw [show T.size - d = 0 by lia] at q; cases q
  ·exact hR
 | succ k ih =>
  intro d s lst vs ls m nn t1 t2 t3 t4 t5 must A R hk hd st hl0 hg hP hv hL hR
  refine loop_step K G hsz hf hd st hl0 hg hP hv hL (fun j q => ?_) fun q => ?_
  ·apply byc;intro kz
   obtain ⟨g1, g2, g3, _⟩ := Qct q
   apply kz;clear kz
   have hj : j < T.size := by lia
   obtain ⟨l1, l2⟩ := hlen j g3 hj
   intro s' vs' m' must' st' hg' hP' hv' hz
   apply byc;intro kz
   obtain ⟨h', tk, e, hsb⟩ := hz
   apply kz;clear kz
   refine ih (j + len j) s' lst vs' _ m' (nn + 1) 0 0 0 0 0 must' A R (by lia) l2 st' hl0 hg' hP' (by lia) ?_ ?_
   ·have := G.rlen
    have hL' := hL
    rw [List.length_flatten] at hL'
    rw [List.flatten_append, List.flatten_append, List.length_append, List.length_append]
    split
    ·simp; lia
    ·simp; lia
   ·intro v h2 tk2 hv2 hp2 hsb2
    subst e
    refine hR v h2 tk2 ?_ hp2 (hsb.trans hsb2)
    have e1 : subL p len rp T.toList (k + 1) d = (T.toList.drop d).take (j - d) ++ rp ++ subL p len rp T.toList k (j + len j) := by
     show (match Qbl p (T.toList.length - d) d with | some j => _ | none => _) = _
     rw [Array.length_toList, q]
    rw [e1]
    have e2 : (ls ++ (if d < j then [(T.toList.drop d).take (j - d)] else []) ++ [rp]).flatten ++ subL p len rp T.toList k (j + len j) = ls.flatten ++ ((T.toList.drop d).take (j - d) ++ rp ++ subL p len rp T.toList k (j + len j)) := by
     split
     ·simp
     ·have : j - d = 0 := by lia
      rw [this]; simp
    rw [← e2]; exact hv2
  ·have e1 : subL p len rp T.toList (k + 1) d = T.toList.drop d := by
    show (match Qbl p (T.toList.length - d) d with | some j => _ | none => _) = _
    rw [Array.length_toList, q]
   rw [e1] at hR
   exact hR
theorem call_sub (K : Knd C kind P) (G : Tg0 C a code kind sv T rv rp P) (hsz : 4 * T.size + 4 <= sizeLine) (hf : ∀ d mu, d <= T.size -> Ends (6 * (T.size + 1) + 20) (Sre.forSearch code T 0 d T.size mu) ((Qbl p (T.size - d) d).map fun j => (j, j + len j)))
  (hlen : ∀ j, p j = true -> j < T.size -> 1 <= len j /\ j + len j <= T.size) {X : Addr -> Prop} {d : PV} (hd : ∀ v h, P v (subL p len rp T.toList T.size 0) -> Rel C X h d v) (st : St C s) :
  wpAny (Mo C) A (call (.builtin "re.Pattern.sub") [.ref a, rv, sv]) (Post C X s d) NoE s := by
 have hT : s.TypeIs (.ref a) "re.Pattern" := by
  apply byc;intro kz
  obtain ⟨o, fs, ct, co, nn, h1, h2, h3, _⟩ := G.pat
  apply kz;clear kz
  exact ⟨o, st.h0 h1 (fun vs e => by subst e; cases h3.1), h3.1⟩
 refine wpAny_call (codeAny_call_builtin sub_slot.plain sub_entry (sub_slot.check _ _ _ _ _ _ _ _ hT (sub_args _ _ _) ?_))
 show wpAny _ _ (reNamed "re.Pattern.sub" "sub" ["repl", "string", "count"] 2 [rv, sv] [] >>= _) _ _ _
 refine wpAny_bind (wpAny_of_eq (named_sub _ _) ?_)
 show wpAny _ _ (specialOf rv "__call__" >>= _) _ _ _
 refine wpAny_bind (G.nocall _ _ _ _ ?_)
 have go : wpAny (Mo C) A.in1 (holding [rv] (reWholeTarget (.ref a) sv) >>= fun _ => newList [] >>= fun l => again (.builtin "re.Pattern.sub.loop" ⟨[.ref a, sv, rv, rawInt 0, rawInt 0, rawInt 0, rawInt 0, rawInt 0, .bool false, l, .bool false], []⟩) : Sem PySem.Fin)
   (fun fin s' => match fin with | .done f => wants (Post C X s d) NoE (.ok f) s' | .again c' => c'.quiet = true /\ codeAny (model Pr C.w) A c' (wants (Post C X s d) NoE) s') (fun e s' => wants (Post C X s d) NoE (.error e) s') s := by
  refine wpAny_bind (wpAny_holding (target_of st G ?_))
  refine wpAny_bind (wpAny_newList ?_ (by simp))
  refine wpAny_pure ⟨plainId_quiet loop_plain _, ?_⟩
  have hn : s.heap.get? s.heap.objs.size = none := Qbg
  have st1 : St C { s with heap := s.heap.push { cls := .type "list", data := .seq (([] : List Value).toArray) } } := st.of_keep Qaa rfl rfl
  refine sub_loop K G hsz hf hlen T.size 0 _ s.heap.objs.size [] [] 0 0 0 0 0 0 0 false A _ (by lia) (by lia) st1 (Qbb st hn) (Heap.get?_push_size _ rfl) rfl (by simp) (by simp) ?_
  intro v h' tk hv hp hsb
  have hk : ∀ b o, s.heap.get? b = some o -> h'.get? b = some o := fun b o e => (hsb.2 b (fun q => by subst q; rw [hn] at e; cases e)).trans (Qaa _ _ e)
  exact ⟨st.of_keep hk rfl rfl hp, fun b o _ e => hk b o e, hd v _ (by simpa using hv)⟩
 rcases G.plain with ⟨x, e1, e2⟩ | ⟨e1, b, e2, e3⟩
 ·refine wpAny_bind (wpAny_of_eq e1 ?_)
  show wpAny _ _ (pure (!x.cps.contains 92) >>= _) _ _ _
  rw [e2]
  exact wpAny_bind (wpAny_pure go)
 ·refine wpAny_bind (wpAny_of_eq e1 ?_)
  show wpAny _ _ (Builtin.Bytes.bufferQuiet? "re.Pattern.sub" rv >>= _) _ _ _
  refine wpAny_bind (e2 _ _ _ _ ?_)
  show wpAny _ _ (pure (!b.contains 92) >>= _) _ _ _
  rw [e3]
  exact wpAny_bind (wpAny_pure go)
end
end
section
set_option tactic.hygienic false
open PySem.Builtin.Re
noncomputable def Qbd (l : List Nat) : Str := ⟨l.toArray⟩
noncomputable def P0 (v : Value) (l : List Nat) : Prop := ∃ t, v = .str (Qbd l) t
theorem all_strs : ∀ {vs : List Value} {ls : List (List Nat)}, PAll P0 vs ls -> StrsAre vs (ls.map Qbd)
 | [], _, h => by unfold PAll at h; subst h; exact .nil
 | v :: vs, _, h => by
  obtain ⟨l, r, rfl, ⟨t, rfl⟩, h⟩ := h
  exact .cons _ t (all_strs h)
theorem join_nil (ls : List (List Nat)) : Txt.join (Qbd []) (ls.map Qbd) = Qbd ls.flatten := by
 have key : ∀ (r : List (List Nat)) (acc : Array Nat), (r.map Qbd).foldl (fun acc p => acc ++ (Qbd []).cps ++ p.cps) acc = acc ++ r.flatten.toArray := by
  intro r
  induction r with
  | nil => intro acc; simp
  | cons a r ih => intro acc; rw [List.map_cons, List.foldl_cons, ih]; simp [Qbd]
 unfold Txt.join Builtin.Str.glued
 cases ls with
 | nil => rfl
 | cons a r =>
  rw [List.map_cons, List.drop_succ_cons, List.drop_zero, key]
  simp [Qbd]
theorem knd0 : Knd C 0 P0 where
 slice := fun A E s T b e Q hT h => by
  show wpAny _ _ (mkStr ⟨T.extract b e⟩) _ _ _
  refine wpAny_mkStr (h _ ⟨s.toks, ?_⟩) ?_
  ·show _ = Value.str ⟨(T.extract b e).toList.toArray⟩ _; rw [Array.toArray_toList]
  ·show (T.extract b e).size <= _
   rw [Array.size_extract]; lia
 join := fun A E s lst vs ls m jv Q hg hj hP hL hne h => by
  obtain ⟨t, rfl⟩ := hj
  have il : s.heap.IsList lst vs.toArray := ⟨_, hg, rfl, _, rfl⟩
  show wpAny _ _ (call (.builtin "str.join") [.str (Qbd []) t, .ref lst]) _ _ _
  refine join_list il (by simpa using all_strs hP) ?_ fun t' k => ?_
  ·have e1 : ((ls.map Qbd).map (·.length)).sum = ls.flatten.length := by
    rw [List.map_map, List.length_flatten]; rfl
   rw [e1]
   show _ + _ * 0 <= _
   unfold sizeLine at hL; lia
  ·rw [join_nil]; exact h _ _ ⟨t', rfl⟩
noncomputable def Qau : Bool -> List Nat -> List Nat
 | _, [] => []
 | b, c :: r => if b && c == 46 then 46 :: 46 :: Qau false r else c :: Qau (c == 10) r
noncomputable def Qch : Bool -> List Nat -> List Nat
 | _, [] => []
 | b, c :: r => if b && c == 10 then Qch false r else if c == 13 then 13 :: 10 :: Qch true r else if c == 10 then 13 :: 10 :: Qch false r else c :: Qch false r
theorem fixG_true {c : Nat} {r : List Nat} (h : c ≠ 10) : Qch true (c :: r) = Qch false (c :: r) := by
 unfold Qch
 have : (c == 10) = false := by simpa using h
 simp [this]
theorem Qfp {T : List Nat} {d : Nat} {c : Nat} {r : List Nat} (h : T.drop d = c :: r) : T.toArray.getD d 0 = c /\ d < T.length /\ T.drop (d + 1) = r := by
 have hl : d < T.length := by
  rcases Nat.lt_or_ge d T.length with h' | h'
  ·exact h'
  ·rw [List.drop_of_length_le h'] at h; cases h
 have e := List.drop_eq_getElem_cons hl
 rw [h] at e
 simp only [List.cons.injEq] at e
 refine ⟨?_, hl, e.2.symm⟩
 simp [Array.getD, hl, e.1]
theorem subL_next {p : Nat -> Bool} {len : Nat -> Nat} {rp T : List Nat} {k d : Nat} (hl : d < T.length) (hp : p d = false) : subL p len rp T (k + 1) d = (T.drop d).take 1 ++ subL p len rp T (k + 1) (d + 1) := by
 have e0 : Qbl p (T.length - d) d = Qbl p (T.length - (d + 1)) (d + 1) := by
  obtain ⟨f, hf⟩ : ∃ f, T.length - d = f + 1 := ⟨_, sb1 hl⟩
  rw [hf, show T.length - (d + 1) = f from Nat.succ.inj ((sb1 hl).symm.trans hf)]
  show (if p d = true then _ else _) = _
  rw [hp]; rfl
 have e1 : T.drop d = (T.drop d).take 1 ++ T.drop (d + 1) := by
  rw [← List.drop_drop, List.take_append_drop]
 show (match Qbl p (T.length - d) d with | some j => _ | none => _) = _ ++ (match Qbl p (T.length - (d + 1)) (d + 1) with | some j => _ | none => _)
 rw [e0]
 cases q : Qbl p (T.length - (d + 1)) (d + 1) with
 | none => exact e1
 | some j =>
  obtain ⟨g1, _⟩ := Qct q
  show (T.drop d).take (j - d) ++ rp ++ _ = _ ++ ((T.drop (d + 1)).take (j - (d + 1)) ++ rp ++ _)
  have e2 : (T.drop d).take (j - d) = (T.drop d).take 1 ++ (T.drop (d + 1)).take (j - (d + 1)) := by
   have h1 : j - d = 1 + (j - (d + 1)) := by lia
   rw [h1, List.take_add, List.drop_drop]
  rw [e2]
  simp
theorem subL_here {p : Nat -> Bool} {len : Nat -> Nat} {rp T : List Nat} {k d : Nat} (hl : d < T.length) (hp : p d = true) : subL p len rp T (k + 1) d = rp ++ subL p len rp T k (d + len d) := by
 have e0 : Qbl p (T.length - d) d = some d := by
  obtain ⟨f, hf⟩ : ∃ f, T.length - d = f + 1 := ⟨_, sb1 hl⟩
  rw [hf]
  show (if p d = true then _ else _) = _
  rw [hp]; rfl
 show (match Qbl p (T.length - d) d with | some j => _ | none => _) = _
 rw [e0]
 show (T.drop d).take (d - d) ++ rp ++ _ = _
 rw [Nat.sub_self]; simp
theorem Qec {p : Nat -> Bool} {len : Nat -> Nat} {rp T : List Nat} {k d : Nat} (hl : T.length <= d) : subL p len rp T k d = [] := by
 have e0 : T.drop d = [] := List.drop_of_length_le hl
 cases k with
 | zero => exact e0
 | succ k =>
  show (match Qbl p (T.length - d) d with | some j => _ | none => _) = _
  rw [Nat.sub_eq_zero_of_le hl]
  exact e0
theorem Qfk {p : Nat -> Bool} {len : Nat -> Nat} {rp T : List Nat} (hlen : ∀ j, p j = true -> j < T.length -> 1 <= len j) : ∀ (k d : Nat), T.length - d <= k -> subL p len rp T (k + 1) d = subL p len rp T k d
 | 0, d, h => by rw [Qec (sb0 h), Qec (sb0 h)]
 | k + 1, d, h => by
  show (match Qbl p (T.length - d) d with | some j => _ | none => _) = (match Qbl p (T.length - d) d with | some j => _ | none => _)
  cases q : Qbl p (T.length - d) d with
  | none => rfl
  | some j =>
   obtain ⟨g1, g2, g3, _⟩ := Qct q
   have := hlen j g3 (by lia)
   show _ ++ _ ++ _ = _ ++ _ ++ _
   rw [Qfk hlen k (j + len j) (by lia)]
theorem quote_eq (T : List Nat) : ∀ (k d : Nat), T.length - d <= k -> d <= T.length -> subL (p1 T.toArray) (fun _ => 1) [46, 46] T k d = Qau (d == 0 || T.toArray.getD (d - 1) 0 == 10) (T.drop d) := by
 intro k
 induction k with
 | zero =>
  intro d hk hd
  rw [Qec (sb0 hk), List.drop_of_length_le (sb0 hk)]; rfl
 | succ k ih =>
  intro d hk hd
  cases e : T.drop d with
  | nil =>
   have : T.length <= d := by simpa using e
   rw [Qec this]; rfl
  | cons c r =>
   obtain ⟨h1, h2, h3⟩ := Qfp e
   have hnext : (d + 1 == 0 || T.toArray.getD (d + 1 - 1) 0 == 10) = (c == 10) := by
    rw [Nat.add_sub_cancel, h1]; simp
   have hp : p1 T.toArray d = ((d == 0 || T.toArray.getD (d - 1) 0 == 10) && c == 46) := by unfold p1; rw [h1]
   unfold Qau
   cases q : ((d == 0 || T.toArray.getD (d - 1) 0 == 10) && c == 46) with
   | true =>
    rw [q] at hp
    rw [subL_here h2 hp, if_pos rfl, ih (d + 1) (sbk hk) h2, hnext, h3]
    simp only [Bool.and_eq_true, beq_iff_eq] at q
    rw [q.2]
    rfl
   | false =>
    rw [q] at hp
    rw [subL_next h2 hp, if_neg Bool.false_ne_true, e, Qfk (fun _ _ _ => Nat.le_refl _) _ _ (sbk hk), ih (d + 1) (sbk hk) h2, hnext, h3]
    rfl
theorem fix_eq (T : List Nat) : ∀ (k d : Nat), T.length - d <= k -> d <= T.length -> subL (p3 T.toArray) (len3 T.toArray T.length) [13, 10] T k d = Qch false (T.drop d) := by
 intro k
 induction k with
 | zero =>
  intro d hk hd
  rw [Qec (sb0 hk), List.drop_of_length_le (sb0 hk)]; rfl
 | succ k ih =>
  intro d hk hd
  cases e : T.drop d with
  | nil =>
   have : T.length <= d := by simpa using e
   rw [Qec this]; rfl
  | cons c r =>
   obtain ⟨h1, h2, h3⟩ := Qfp e
   have hp : p3 T.toArray d = (c == 10 || c == 13) := by unfold p3; rw [h1]
   by_cases h13 : c = 13
   ·subst h13
    rw [subL_here h2 hp]
    have e0 : Qch false (13 :: r) = 13 :: 10 :: Qch true r := by rw [Qch]; simp
    rw [e0]
    cases r with
    | nil =>
     have hl : len3 T.toArray T.length d = 1 := by
      unfold len3
      have : ¬ d + 1 < T.length := by
       have : T.length <= d + 1 := by simpa using h3
       lia
      simp [this]
     rw [hl, ih (d + 1) (sbk hk) h2, h3]; rfl
    | cons c2 r2 =>
     obtain ⟨g1, g2, g3⟩ := Qfp h3
     by_cases h10 : c2 = 10
     ·subst h10
      have hl : len3 T.toArray T.length d = 2 := by unfold len3; rw [h1, g1]; simp [g2]
      have e1 : Qch true (10 :: r2) = Qch false r2 := by rw [Qch]; simp
      rw [hl, ih (d + 2) (sbk2 hk) (by lia), e1]
      show [13, 10] ++ Qch false (T.drop (d + 1 + 1)) = _
      rw [g3]; rfl
     ·have hl : len3 T.toArray T.length d = 1 := by unfold len3; rw [h1, g1]; simp [h10]
      rw [hl, ih (d + 1) (sbk hk) h2, h3, fixG_true h10]; rfl
   ·by_cases h10 : c = 10
    ·subst h10
     have hl : len3 T.toArray T.length d = 1 := by unfold len3; rw [h1]; rfl
     have e0 : Qch false (10 :: r) = 13 :: 10 :: Qch false r := by rw [Qch]; simp
     rw [subL_here h2 hp, hl, ih (d + 1) (sbk hk) h2, h3, e0]; rfl
    ·have hp' : p3 T.toArray d = false := by rw [hp]; simp [h10, h13]
     have e0 : Qch false (c :: r) = c :: Qch false r := by rw [Qch]; simp [h10, h13]
     rw [e0, subL_next h2 hp', e, Qfk (fun j _ _ => by unfold len3; split <;> lia) _ _ (sbk hk), ih (d + 1) (sbk hk) h2, h3]
     rfl
theorem finder1 (T : Array Nat) (d : Nat) (mu : Bool) (hd : d <= T.size) : Ends (6 * (T.size + 1) + 20) (Sre.forSearch c1 T 0 d T.size mu) ((Qbl (p1 T) (T.size - d) d).map fun j => (j, j + (fun _ => 1) j)) := (search1 hd mu).le (by lia)
theorem finder3 (T : Array Nat) (d : Nat) (mu : Bool) (hd : d <= T.size) : Ends (6 * (T.size + 1) + 20) (Sre.forSearch c3 T 0 d T.size mu) ((Qbl (p3 T) (T.size - d) d).map fun j => (j, j + len3 T T.size j)) := search3 hd mu
theorem len3_ok (T : Array Nat) : ∀ j, p3 T j = true -> j < T.size -> 1 <= len3 T T.size j /\ j + len3 T T.size j <= T.size := by
 intro j _ hj
 have h : (len3 T T.size j = 2 /\ j + 1 < T.size) ∨ len3 T T.size j = 1 := by
  unfold len3
  cases q : (T.getD j 0 == 13 && (decide (j + 1 < T.size) && T.getD (j + 1) 0 == 10)) with
  | true =>
   simp only [Bool.and_eq_true, decide_eq_true_eq] at q
   exact .inl ⟨if_pos rfl, q.2.1⟩
  | false => exact .inr (if_neg Bool.false_ne_true)
 rcases h with ⟨h1, h2⟩ | h1 <;> rw [h1] <;> lia
theorem tg_str {name : Str} {code : Array Nat} {a : Addr} {x r : Str} {t u : Tok} (pat : ∃ o fs ct co nn, C.h0.get? a = some o /\ o.data = .fields fs /\ (o.cls = .type "re.Pattern" /\ o.dict = none) /\ fs.getD 2 .none = rawInt 0 /\ fs.getD 5 .none = .ref ct /\ fs.getD 6 .none = rawInt ((0 : Nat) : Int) /\ C.h0.get? ct = some co /\ co.data = .seq (code.map fun (w : Nat) => rawInt (w : Int)) nn)
  (hr : r.cps.contains 92 = false) (hl : r.length <= 2) : Tg0 C a code 0 (.str x t) x.cps (.str r u) r.cps.toList P0 where
 kd := .inl rfl
 pat := pat
 text := fun A E s Q h => by
  unfold reTextOf
  exact wpAny_bind (wpAny_pure (wpAny_pure h))
 quiet := fun A E s Q h => by
  unfold reNoCollectionInside
  exact wpAny_pure h
 lit := fun A E s Q h => by
  unfold reLiteralCannotBeTurned
  exact wpAny_bind (wpAny_pure (wpAny_pure h))
 nocall := fun A E s Q h => wpAny_specialOf (T := "str") rfl call_str h
 plain := .inl ⟨r, rfl, hr⟩
 ne := rfl
 rep := ⟨u, by show _ = Value.str ⟨r.cps.toList.toArray⟩ u; rw [Array.toArray_toList]⟩
 rlen := by rw [Array.length_toList]; exact hl
noncomputable def quoteS (x : Str) : Str := Qbd (Qau true x.cps.toList)
noncomputable def fixS (x : Str) : Str := Qbd (Qch false x.cps.toList)
theorem opF_sub1 {a : Addr} {x : Str} (pat : ∃ o fs ct co nn, C.h0.get? a = some o /\ o.data = .fields fs /\ (o.cls = .type "re.Pattern" /\ o.dict = none) /\ fs.getD 2 .none = rawInt 0 /\ fs.getD 5 .none = .ref ct /\ fs.getD 6 .none = rawInt ((0 : Nat) : Int) /\ C.h0.get? ct = some co /\ co.data = .seq (c1.map fun (w : Nat) => rawInt (w : Int)) nn)
  (hsz : 4 * x.length + 4 <= sizeLine) : OpF C n (.builtin "re.Pattern.sub") [.raw (.ref a), .str "..", .str x] (.str (quoteS x)) := by
 intro A X s vs rm st lo r
 obtain ⟨_, _, rfl, rfl, _, _, rfl, ⟨u, rfl⟩, _, _, rfl, ⟨t, rfl⟩, rfl⟩ := r
 refine call_sub knd0 (tg_str (name := "") pat (by decide +kernel) (by decide +kernel)) hsz (finder1 x.cps) (fun j h h' => ⟨Nat.le_refl _, h'⟩) (fun v h hv => ?_) st
 obtain ⟨t', rfl⟩ := hv
 refine ⟨t', ?_⟩
 have := quote_eq x.cps.toList x.cps.size 0 (by rw [Array.length_toList]; lia) (Nat.zero_le _)
 rw [List.drop_zero] at this
 have e : subL (p1 x.cps) (fun _ => 1) [46, 46] x.cps.toList x.cps.size 0 = Qau true x.cps.toList := this
 show Value.str (Qbd (subL (p1 x.cps) (fun _ => 1) [46, 46] x.cps.toList x.cps.size 0)) t' = _
 rw [e]; rfl
theorem opF_sub3 {a : Addr} {x : Str} (pat : ∃ o fs ct co nn, C.h0.get? a = some o /\ o.data = .fields fs /\ (o.cls = .type "re.Pattern" /\ o.dict = none) /\ fs.getD 2 .none = rawInt 0 /\ fs.getD 5 .none = .ref ct /\ fs.getD 6 .none = rawInt ((0 : Nat) : Int) /\ C.h0.get? ct = some co /\ co.data = .seq (c3.map fun (w : Nat) => rawInt (w : Int)) nn)
  (hsz : 4 * x.length + 4 <= sizeLine) : OpF C n (.builtin "re.Pattern.sub") [.raw (.ref a), .str "\r\n", .str x] (.str (fixS x)) := by
 intro A X s vs rm st lo r
 obtain ⟨_, _, rfl, rfl, _, _, rfl, ⟨u, rfl⟩, _, _, rfl, ⟨t, rfl⟩, rfl⟩ := r
 refine call_sub knd0 (tg_str (name := "") pat (by decide +kernel) (by decide +kernel)) hsz (finder3 x.cps) (len3_ok x.cps) (fun v h hv => ?_) st
 obtain ⟨t', rfl⟩ := hv
 refine ⟨t', ?_⟩
 have := fix_eq x.cps.toList x.cps.size 0 (by rw [Array.length_toList]; lia) (Nat.zero_le _)
 rw [List.drop_zero, Array.length_toList] at this
 have e : subL (p3 x.cps) (len3 x.cps x.cps.size) [13, 10] x.cps.toList x.cps.size 0 = Qch false x.cps.toList := this
 show Value.str (Qbd (subL (p3 x.cps) (len3 x.cps x.cps.size) [13, 10] x.cps.toList x.cps.size 0)) t' = _
 rw [e]; rfl
end
section
set_option tactic.hygienic false
open PySem.Builtin.Re
theorem own_name : (!("bytes.__buffer__" : String).endsWith ("." ++ "__buffer__")) = false := by decide +kernel
theorem own_base : ("bytes.__buffer__" : String).dropRight (("__buffer__" : String).length + 1) = "bytes" := by decide +kernel
theorem slotOwn_buf {b : Array UInt8} {t : Tok} {Q : Bool -> Shared -> Prop} (h : Q true s) : wpAny (Mo C) A (Builtin.Bytes.slotIsOwn (.bytes b t) "__buffer__") Q E s := by
 unfold Builtin.Bytes.slotIsOwn
 refine wpAny_bind (wpAny_specialOf (T := "bytes") rfl buf_bytes ?_)
 show wpAny _ _ (if (!("bytes.__buffer__" : String).endsWith ("." ++ "__buffer__")) = true then _ else _) _ _ _
 rw [own_name, if_neg Bool.false_ne_true, own_base]
 exact wpAny_isInstance (T := "bytes") (U := "bytes") rfl sub_bytes h
theorem slotOwn_rel {b : Array UInt8} {t : Tok} {Q : Bool -> Shared -> Prop} (h : Q true s) : wpAny (Mo C) A (Builtin.Bytes.slotIsOwn (.bytes b t) "__release_buffer__") Q E s := by
 unfold Builtin.Bytes.slotIsOwn
 exact wpAny_bind (wpAny_specialOf (T := "bytes") rfl rel_bytes' (wpAny_pure h))
theorem buffer_bytes {id : String} {full : Bool} {b : Array UInt8} {t : Tok} {Q : Option (Array UInt8) -> Shared -> Prop} (h : Q (some b) s) : wpAny (Mo C) A (Builtin.Bytes.buffer? id (.bytes b t) full) Q E s := by
 unfold Builtin.Bytes.buffer?
 refine wpAny_bind (wpAny_specialOf (T := "bytes") rfl buf_bytes ?_)
 refine wpAny_bind (slotOwn_buf ?_)
 show wpAny _ _ (specialOf (.bytes b t) "__buffer__" >>= _) _ _ _
 refine wpAny_bind (wpAny_specialOf (T := "bytes") rfl buf_bytes ?_)
 show wpAny _ _ (Builtin.Bytes.ownRelease (.bytes b t) >>= _) _ _ _
 unfold Builtin.Bytes.ownRelease
 refine wpAny_bind (wpAny_bind (slotOwn_rel (wpAny_pure ?_)))
 show wpAny _ _ (Builtin.Bytes.payload (.bytes b t) >>= _) _ _ _
 unfold Builtin.Bytes.payload
 exact wpAny_bind (wpAny_bind (wpAny_pure (wpAny_pure (wpAny_pure h))))
theorem Qfv {id : String} {b : Array UInt8} {t : Tok} {Q : Option (Array UInt8) -> Shared -> Prop} (h : Q (some b) s) : wpAny (Mo C) A (Builtin.Bytes.bufferQuiet? id (.bytes b t)) Q E s := by
 unfold Builtin.Bytes.bufferQuiet?
 exact wpAny_bind (wpAny_attempt (buffer_bytes (wpAny_pure h)))
theorem takeBuffer_bytes {id : String} {b : Array UInt8} {t : Tok} {Q : Option (Array UInt8 × Option Value) -> Shared -> Prop} (h : Q (some (b, none)) s) : wpAny (Mo C) A (Builtin.Bytes.takeBufferQuiet? id (.bytes b t) 0) Q E s := by
 unfold Builtin.Bytes.takeBufferQuiet? Builtin.Bytes.takeBuffer?
 refine wpAny_bind (wpAny_attempt ?_)
 refine wpAny_bind (wpAny_specialOf (T := "bytes") rfl buf_bytes ?_)
 refine wpAny_bind (slotOwn_buf ?_)
 show wpAny _ _ (specialOf (.bytes b t) "__buffer__" >>= _) _ _ _
 refine wpAny_bind (wpAny_specialOf (T := "bytes") rfl buf_bytes ?_)
 show wpAny _ _ (Builtin.Bytes.buffer? _ _ _ >>= _) _ _ _
 exact wpAny_bind (buffer_bytes (wpAny_pure (wpAny_pure h)))
theorem bjoin_slot : Slot "bytes" "join" "bytes.join" :=
 .of (owner := "bytes") (n := "join") (by rw [typeLookup_type, builtinLookup_eq_fast]; kernel_rfl) (by decide +kernel) (by decide +kernel) (by decide +kernel)
  (by first | exact .inl (by decide +kernel) | exact .inr (by decide +kernel)) (by rw [isSubtype_type]; kernel_rfl)
theorem bjoin_entry : entryFor table "bytes.join" = some Builtin.«bytes.join» := entryFor_of_tree (by kernel_rfl)
theorem bjoin_args (a b : Value) : argsOk "bytes.join" ⟨[a, b], []⟩ := by
 unfold argsOk; kernel_rfl
noncomputable def byteL (l : List Nat) : Array UInt8 := (l.map Nat.toUInt8).toArray
noncomputable def P1 (v : Value) (l : List Nat) : Prop := ∃ t, v = .bytes (byteL l) t
theorem PAll.get {P : Value -> List Nat -> Prop} : ∀ {vs : List Value} {ls : List (List Nat)}, PAll P vs ls -> ∀ {j : Nat} {v : Value}, vs[j]? = some v -> ∃ l, ls[j]? = some l /\ P v l
 | [], _, _, j, v, e => by simp at e
 | u :: vs, _, h, j, v, e => by
  apply byc;intro kz
  obtain ⟨l, r, rfl, h1, h2⟩ := h
  apply kz;clear kz
  cases j with
  | zero => simp at e; subst e; exact ⟨l, rfl, h1⟩
  | succ j => simp at e; obtain ⟨l', e1, e2⟩ := h2.get e; exact ⟨l', by simpa using e1, e2⟩
theorem PAll.len {P : Value -> List Nat -> Prop} : ∀ {vs : List Value} {ls : List (List Nat)}, PAll P vs ls -> ls.length = vs.length
 | [], _, h => by unfold PAll at h; subst h; rfl
 | u :: vs, _, h => by obtain ⟨l, r, rfl, _, h2⟩ := h; simp [h2.len]
theorem forIn_inv {β : Type} {f : Nat -> β -> Sem (ForInStep β)} (I : Nat -> β -> Prop) : ∀ (k i : Nat) (b : β) {Q : β -> Shared -> Prop}, I i b -> (∀ j b, i <= j -> j < i + k -> I j b -> ∀ Q' : ForInStep β -> Shared -> Prop, (∀ b', I (j + 1) b' -> Q' (.yield b') s) -> wpAny (Mo C) A (f j b) Q' E s) -> (∀ b, I (i + k) b -> Q b s) ->
  wpAny (Mo C) A (forIn (List.range' i k 1) b f) Q E s
 | 0, i, b, Q, h0, _, hQ => by
  show wpAny _ _ (forIn [] b f) _ _ _
  rw [List.forIn_nil]
  exact wpAny_pure (hQ b h0)
 | k + 1, i, b, Q, h0, hs, hQ => by
  rw [List.range'_succ, List.forIn_cons]
  refine wpAny_bind (hs i b (Nat.le_refl _) (by lia) h0 _ fun b' hb' => ?_)
  exact forIn_inv I k (i + 1) b' hb' (fun j b h1 h2 => hs j b (by lia) (by lia)) fun b h => hQ b (by rw [show i + (k + 1) = i + 1 + k by lia]; exact h)
theorem joined_nil (l : List (Array UInt8)) : (Builtin.Bytes.joined #[] l).toList = (l.map Array.toList).flatten := by
 have key : ∀ (l : List (Array UInt8)) (k : Nat) (acc : Array UInt8), ((l.zipIdx k).foldl (fun out (x : Array UInt8 × Nat) => (if x.2 > 0 then out ++ (#[] : Array UInt8) else out) ++ x.1) acc).toList = acc.toList ++ (l.map Array.toList).flatten := by
  intro l
  induction l with
  | nil => intro k acc; simp
  | cons a l ih =>
   intro k acc
   rw [List.zipIdx_cons, List.foldl_cons, ih]
   have : ((if k > 0 then acc ++ (#[] : Array UInt8) else acc) ++ a).toList = acc.toList ++ a.toList := by split <;> simp
   rw [this]
   simp
 exact (key l 0 #[]).trans (by simp)
theorem letGo_bytes {keep : List Value} {Q : Unit -> Shared -> Prop} (h : Q () s) : ∀ {tk : List (Value × Option Value)}, (∀ p ∈ tk, p.2 = none) -> wpAny (Mo C) A (Builtin.Bytes.joinLetGo tk keep) Q E s
 | [], _ => wpAny_pure h
 | (x, w) :: r, ht => by
  have hw : w = none := ht _ List.mem_cons_self
  subst hw
  show wpAny _ _ (letGo _ _ >>= _) _ _ _
  exact wpAny_bind (wpAny_letGo (letGo_bytes h fun p hp => ht p (List.mem_cons_of_mem _ hp)))
theorem byteL_len (l : List Nat) : (byteL l).size = l.length := by simp [byteL]
theorem bjoin_walk {lst : Addr} {vs : List Value} {ls : List (List Nat)} {m : Nat} {t : Tok} {Q : Value -> Shared -> Prop} (hg : s.heap.get? lst = some (Qay "list" vs m)) (hP : PAll P1 vs ls) (hL : ls.flatten.length <= sizeLine) (hne : vs ≠ [])
  (h : ∀ v tk, P1 v ls.flatten -> Q v { s with toks := tk }) : wpAny (Mo C) A (call (.builtin "bytes.join") [.bytes #[] t, .ref lst]) Q E s := by
 refine wpAny_call (codeAny_call_builtin bjoin_slot.plain bjoin_entry (bjoin_slot.check _ _ _ _ _ _ _ _ rfl (bjoin_args _ _) ?_))
 show wpAny _ _ (Builtin.Bytes.joinItems (.ref lst) >>= _) _ _ _
 have tl : s.TypeIs (.ref lst) "list" := ⟨_, hg, rfl⟩
 refine wpAny_bind ?_
 unfold Builtin.Bytes.joinItems
 refine wpAny_bind (wpAny_typeOf tl (wpAny_pure ?_))
 refine wpAny_bind (wpAny_seqItems hg rfl ?_)
 show wpAny _ _ (if (Builtin.Bytes.Kind.bytes == Builtin.Bytes.Kind.bytes) = true then _ else _) _ _ _
 rw [if_pos (show (Builtin.Bytes.Kind.bytes == Builtin.Bytes.Kind.bytes) = true from rfl)]
 have hlen := hP.len
 have one : ∀ v, vs = [v] -> ∃ b t, v = .bytes b t /\ P1 v ls.flatten := by
  rintro v rfl
  apply byc;intro kz
  obtain ⟨l, r, rfl, ⟨t, rfl⟩, h2⟩ := hP
  apply kz;clear kz
  have : r = [] := h2
  subst this
  exact ⟨_, t, rfl, t, by simp⟩
 by_cases hone : ∃ x, vs = [x]
 ·apply byc;intro kz
  obtain ⟨x, hv⟩ := hone
  obtain ⟨b, t', rfl, hp⟩ := one x hv
  apply kz;clear kz
  subst hv
  show wpAny _ _ (typeOf (.bytes b t') >>= _) _ _ _
  refine wpAny_bind (wpAny_typeOf (T := "bytes") rfl ?_)
  show wpAny _ _ (rule _ >>= _) _ _ _
  exact wpAny_bind (wpAny_rule (wpAny_pure (h _ s.toks hp)))
 ·obtain ⟨x, y, r, hv⟩ : ∃ x y r, vs = x :: y :: r := by
   match vs, hne, hone with
   | [x], _, h => exact absurd ⟨x, rfl⟩ h
   | x :: y :: r, _, _ => exact ⟨x, y, r, rfl⟩
  subst hv
  show wpAny _ _ ((forIn [:(x :: y :: r).toArray.size] ((#[] : Array (Array UInt8)), ([] : List (Value × Option Value))) _ : Sem (Array (Array UInt8) × List (Value × Option Value))) >>= _) _ _ _
  generalize hvs : (x :: y :: r) = vs at *
  rw [Std.Legacy.Range.forIn_eq_forIn_range']
  have hsz : Std.Legacy.Range.size [:vs.toArray.size] = vs.length := by simp [Std.Legacy.Range.size]
  show wpAny _ _ (forIn (List.range' 0 (Std.Legacy.Range.size [:vs.toArray.size]) 1) _ _ >>= _) _ _ _
  rw [hsz]
  refine wpAny_bind (forIn_inv (I := fun j (st : Array (Array UInt8) × List (Value × Option Value)) => st.1.toList = (ls.take j).map byteL /\ ∀ p ∈ st.2, p.2 = none /\ p.1.onHeap = false) vs.length 0 _ ⟨by simp, by simp⟩ ?_ ?_)
  ·rintro j ⟨parts, taken⟩ _ hj ⟨h1, h2⟩ Q' hQ'
   have hj' : j < vs.length := by lia
   have ej : vs[j]? = some vs[j] := by simp [hj']
   apply byc;intro kz
   obtain ⟨l, el, t', ev⟩ := hP.get ej
   apply kz;clear kz
   refine wpAny_bind (wpAny_seqItems hg rfl ?_)
   have eg : vs.toArray.getD j Value.none = .bytes (byteL l) t' := by rw [← ev]; simp [Array.getD, hj']
   have et : (taken.any fun x => x.1.onHeap) = false := by
    rw [List.any_eq_false]
    intro p hp
    rw [(h2 p hp).2]; exact Bool.false_ne_true
   show wpAny _ _ (if (Builtin.Bytes.Kind.bytes == Builtin.Bytes.Kind.bytearray || taken.any fun x => x.1.onHeap) = true then _ else _) _ _ _
   rw [et]
   show wpAny _ _ (holding _ (Builtin.Bytes.takeBufferQuiet? _ (vs.toArray.getD j Value.none) 0) >>= _) _ _ _
   rw [eg]
   refine wpAny_bind (wpAny_holding (takeBuffer_bytes ?_))
   show wpAny _ _ (seqItems? (.ref lst) >>= _) _ _ _
   refine wpAny_bind (wpAny_seqItems hg rfl ?_)
   show wpAny _ _ (if (vs.toArray.size != vs.toArray.size) = true then _ else _) _ _ _
   rw [bne_self_eq_false, if_neg Bool.false_ne_true]
   refine wpAny_pure (hQ' _ ⟨?_, ?_⟩)
   ·show (parts.push (byteL l)).toList = _
    rw [Array.toList_push, h1, List.take_add_one, el]
    simp
   ·intro p hp
    have hp' : p ∈ taken ++ [(Value.bytes (byteL l) t', none)] := hp
    rw [List.mem_append, List.mem_singleton] at hp'
    rcases hp' with hp' | rfl
    ·exact h2 p hp'
    ·exact ⟨rfl, rfl⟩
  ·rintro ⟨parts, taken⟩ ⟨h1, h2⟩
   have e1 : parts.toList = ls.map byteL := by
    rw [h1, Nat.zero_add, ← hlen, List.take_length]
   have e2 : Builtin.Bytes.joined #[] parts.toList = byteL ls.flatten := by
    apply Array.toList_inj.mp
    rw [joined_nil, e1, List.map_map]
    simp [byteL, Function.comp_def, List.map_flatten]
   have e3 : (parts.foldl (fun x1 x2 => x1 + x2.size) ((#[] : Array UInt8).size * (parts.size - 1))) = ls.flatten.length := by
    rw [← Array.foldl_toList, e1]
    have key : ∀ (l : List (List Nat)) (a : Nat), (l.map byteL).foldl (fun x1 x2 => x1 + x2.size) a = a + l.flatten.length := by
     intro l
     induction l with
     | nil => intro a; simp
     | cons x l ih => intro a; rw [List.map_cons, List.foldl_cons, ih, byteL_len]; simp; lia
    rw [key]; simp
   show wpAny _ _ (Builtin.Bytes.payload (.bytes #[] t) >>= _) _ _ _
   unfold Builtin.Bytes.payload
   refine wpAny_bind (wpAny_bind (wpAny_pure (wpAny_pure ?_)))
   show wpAny _ _ (if Builtin.Bytes.tooLong (parts.foldl (fun x1 x2 => x1 + x2.size) ((#[] : Array UInt8).size * (parts.size - 1))) = true then _ else _) _ _ _
   rw [e3, if_neg (by unfold Builtin.Bytes.tooLong; simpa using hL)]
   show wpAny _ _ (mkBytes (Builtin.Bytes.joined #[] parts.toList) >>= _) _ _ _
   rw [e2]
   refine wpAny_bind (wpAny_mkBytes ?_ (by rw [byteL_len]; exact hL))
   refine wpAny_bind (wpAny_holding (wpAny_point ?_))
   refine wpAny_bind (letGo_bytes ?_ fun p hp => (h2 p hp).1)
   exact wpAny_pure (h _ _ ⟨s.toks, rfl⟩)
theorem knd1 : Knd C 1 P1 where
 slice := fun A E s T b e Q hT h => by
  show wpAny _ _ (mkBytes ((T.extract b e).map (·.toUInt8))) _ _ _
  refine wpAny_mkBytes (h _ ⟨s.toks, ?_⟩) ?_
  ·have : (T.extract b e).map (·.toUInt8) = byteL (T.extract b e).toList := by
    apply Array.toList_inj.mp; simp [byteL]
   rw [this]
  ·rw [Array.size_map, Array.size_extract]; lia
 join := fun A E s lst vs ls m jv Q hg hj hP hL hne h => by
  obtain ⟨t, rfl⟩ := hj
  exact bjoin_walk (t := t) hg hP hL hne h
theorem tg_bytes {code : Array Nat} {a : Addr} {b r : Array UInt8} {t u : Tok} (pat : ∃ o fs ct co nn, C.h0.get? a = some o /\ o.data = .fields fs /\ (o.cls = .type "re.Pattern" /\ o.dict = none) /\ fs.getD 2 .none = rawInt 0 /\ fs.getD 5 .none = .ref ct /\ fs.getD 6 .none = rawInt ((1 : Nat) : Int) /\ C.h0.get? ct = some co /\ co.data = .seq (code.map fun (w : Nat) => rawInt (w : Int)) nn)
  {rl : List Nat} (hrl : r = byteL rl) (hr : r.contains 92 = false) (hl : rl.length <= 2) : Tg0 C a code 1 (.bytes b t) (b.map (·.toNat)) (.bytes r u) rl P1 where
 kd := .inr rfl
 pat := pat
 text := fun A E s Q h => by
  unfold reTextOf
  refine wpAny_bind (show wpAny _ _ (pure none : Sem (Option Str)) _ _ _ from wpAny_pure ?_)
  show wpAny _ _ (Builtin.Bytes.bufferQuiet? "_sre" (.bytes b t) >>= _) _ _ _
  exact wpAny_bind (Qfv (wpAny_pure h))
 quiet := fun A E s Q h => by
  unfold reNoCollectionInside
  show wpAny _ _ (isInstance (.bytes b t) (.type "bytes") >>= _) _ _ _
  exact wpAny_bind (wpAny_isInstance (T := "bytes") rfl sub_bytes (wpAny_pure h))
 lit := fun A E s Q h => by
  unfold reLiteralCannotBeTurned
  refine wpAny_bind (show wpAny _ _ (pure none : Sem (Option Str)) _ _ _ from wpAny_pure ?_)
  show wpAny _ _ (isInstance (.bytes r u) (.type "bytes") >>= _) _ _ _
  exact wpAny_bind (wpAny_isInstance (T := "bytes") rfl sub_bytes (wpAny_pure h))
 nocall := fun A E s Q h => wpAny_specialOf (T := "bytes") rfl call_bytes h
 plain := .inr ⟨rfl, r, fun A E s Q h => Qfv h, hr⟩
 ne := rfl
 rep := ⟨u, by rw [hrl]⟩
 rlen := hl
noncomputable def quoteB (b : Array UInt8) : Array UInt8 := byteL (Qau true (b.toList.map UInt8.toNat))
theorem opF_sub2 {a : Addr} {b : Array UInt8} (pat : ∃ o fs ct co nn, C.h0.get? a = some o /\ o.data = .fields fs /\ (o.cls = .type "re.Pattern" /\ o.dict = none) /\ fs.getD 2 .none = rawInt 0 /\ fs.getD 5 .none = .ref ct /\ fs.getD 6 .none = rawInt ((1 : Nat) : Int) /\ C.h0.get? ct = some co /\ co.data = .seq (c1.map fun (w : Nat) => rawInt (w : Int)) nn)
  (hsz : 4 * b.size + 4 <= sizeLine) : OpF C n (.builtin "re.Pattern.sub") [.raw (.ref a), .bytes #[46, 46], .bytes b] (.bytes (quoteB b)) := by
 intro A X s vs rm st lo r
 apply byc;intro kz
 obtain ⟨_, _, rfl, rfl, _, _, rfl, ⟨u, rfl⟩, _, _, rfl, ⟨t, rfl⟩, rfl⟩ := r
 apply kz;clear kz
 have hT : (b.map (·.toNat)).size = b.size := by simp
 refine call_sub knd1 (tg_bytes pat (rl := [46, 46]) rfl (by decide +kernel) (by decide +kernel)) (by rw [hT]; exact hsz) (finder1 (b.map (·.toNat))) (fun j h h' => ⟨Nat.le_refl _, h'⟩) (fun v h hv => ?_) st
 obtain ⟨t', rfl⟩ := hv
 refine ⟨t', ?_⟩
 have := quote_eq (b.map (·.toNat)).toList (b.map (·.toNat)).size 0 (by rw [Array.length_toList]; lia) (Nat.zero_le _)
 rw [List.drop_zero] at this
 have e : subL (p1 (b.map (·.toNat))) (fun _ => 1) [46, 46] (b.map (·.toNat)).toList (b.map (·.toNat)).size 0 = Qau true (b.map (·.toNat)).toList := this
 show Value.bytes (byteL (subL (p1 (b.map (·.toNat))) (fun _ => 1) [46, 46] (b.map (·.toNat)).toList (b.map (·.toNat)).size 0)) t' = _
 rw [e, Array.toList_map]; rfl
end
section
set_option tactic.hygienic false
theorem ev_methS {T id : String} {name : Str} {o : Expr} {apos pos : Pos} {args : List Expr} {d1 d : PV} {ds : List PV} (pa : PlainAttrs T) (slot : Slot T name id) (hty : typeOf (.builtin id) = pure (.type "method_descriptor"))
  (ho : Ev C n nm ρ ow o d1) (hT : ∀ X s v, St C s -> Rel C X s.heap d1 v -> TyV T s v) (ha : EvL C n nm ρ ow args ds) (hop : OpF C n (.builtin id) (d1 :: ds) d)
  (hbase : ∀ env, attributeBase o name env (eval o env) = eval o env := by k_all)
  (hform : ∀ env, methodCallForm (args.length + 0) (backTo pos (starEach args env)) [] = true := by k_all)
  (hline : (apos.endLine == pos.line) = true := by k_all)
  (hargs : ∀ env, ((backTo pos (starEach args env)).head?.elim true fun p => !p.1) = true := by k_all)
  (hplain : ∀ env, (backTo pos (starEach args env)).any (·.1) = false := by k_all) : Ev C n nm ρ ow (.Call (.Attribute o name apos) args [] pos) d := by
 intro A Xo env oa s rm st ok
 refine call_meth (wpAny_mono (ho A Xo env oa s rm st ok) (fun v s₁ hz => ?_) nof) (hbase env) (hform env) hline (star_head (hargs env)) (hplain env)
 apply byc;intro kz
 obtain ⟨st1, k1, r1⟩ := hz
 obtain ⟨h1, h2⟩ := hT _ _ _ st1 r1
 apply kz;clear kz
 have ok1 := ok.kp st st1 k1
 refine ⟨T, id, h1, pa, slot, hty, h2, wpAny_mono (ha A Xo env oa s₁ pos rm st1 ok1) (fun vs s₂ hz => ?_) nof⟩
 apply byc;intro kz
 obtain ⟨st2, k2, r2⟩ := hz
 apply kz;clear kz
 exact wpAny_mono (hop A _ s₂ (v :: vs) rm st2 (ok1.kp st1 st2 k2).lowX (Qbc (r1.kp st1 k2) r2)) (fun v s₃ p => p.of (k1.trans k2)) nof
theorem ev_sub {name : Str} {code : Array Nat} {kind : Nat} {np apos pos : Pos} {e1 e2 : Expr} {d1 d2 d : PV} (P : PatIn C name code kind) (hx : gloB nm name = true) (h1 : Ev C n nm ρ ow e1 d1) (h2 : Ev C n nm ρ ow e2 d2)
  (hop : ∀ a, (∃ o fs ct co nn, C.h0.get? a = some o /\ o.data = .fields fs /\ (o.cls = .type "re.Pattern" /\ o.dict = none) /\ fs.getD 2 .none = rawInt 0 /\ fs.getD 5 .none = .ref ct /\ fs.getD 6 .none = rawInt (kind : Int) /\ C.h0.get? ct = some co /\ co.data = .seq (code.map fun (w : Nat) => rawInt (w : Int)) nn) -> OpF C n (.builtin "re.Pattern.sub") [.raw (.ref a), d1, d2] d)
  (hb : (name == ("__debug__" : Str)) = false := by k_all)
  (hl1 : ∀ env, starEach [e1, e2] env = (false, eval e1 env) :: starEach [e2] env := by k_all) (hl2 : ∀ env, starEach [e2] env = [(false, eval e2 env)] := by k_all)
  (hbase : ∀ env, attributeBase (.Name name np) "sub" env (eval (.Name name np) env) = eval (.Name name np) env := by k_all)
  (hline : (apos.endLine == pos.line) = true := by k_all) : Ev C n nm ρ ow (.Call (.Attribute (.Name name np) "sub" apos) [e1, e2] [] pos) d := by
 apply byc;intro kz
 obtain ⟨a, o, fs, ct, co, nn, g1, g2, g3, g4, g⟩ := P
 apply kz;clear kz
 refine ev_methS sub_plain sub_slot sub_type (ev_glo (v := .ref a) hx g1 hb) (fun X s v st r => ?_) (Qby h1 h2 hl1 hl2) (hop a ⟨o, fs, ct, co, nn, g2, g3, g4, g⟩) hbase (fun env => by rw [hl1, hl2]; rfl) hline (fun env => by rw [hl1, hl2]; rfl) (fun env => by rw [hl1, hl2]; rfl)
 subst r
 have ho : s.heap.get? a = some o := st.h0 g2 fun vs e => by subst e; cases g4.1
 exact ⟨⟨o, ho, g4.1⟩, fun b q => by cases q; exact ⟨o, ho, g4.2⟩⟩
theorem Qfl : ∀ (b : Bool) (l : List Nat), (Qau b l).length <= 2 * l.length
 | _, [] => Nat.le_refl _
 | b, c :: r => by
  have h1 := Qfl false r
  have h2 := Qfl (c == 10) r
  unfold Qau
  split <;> simp only [List.length_cons] <;> lia
theorem fixG_len : ∀ (b : Bool) (l : List Nat), (Qch b l).length <= 2 * l.length
 | _, [] => Nat.le_refl _
 | b, c :: r => by
  have h1 := fixG_len false r
  have h2 := fixG_len true r
  unfold Qch
  split
  ·simp only [List.length_cons]; lia
  ·split
   ·simp only [List.length_cons]; lia
   ·split <;> simp only [List.length_cons] <;> lia
theorem fixS_len (x : Str) : (fixS x).length <= 2 * x.length := by
 have := fixG_len false x.cps.toList
 rw [Qal] at this
 exact this
theorem sp_quotedata (G : Gl C) {x : Str} (hsz : 8 * x.length + 4 <= sizeLine) : Spec C (n + 1) "quotedata" [.str x] (.str (quoteS (fixS x))) := by
 have h2 := fixS_len x
 exact .of (xs := ["data"]) G.quotedata (by decide +kernel) (by decide +kernel) rfl (fun pm cd doc vs h => by obtain ⟨a, rfl⟩ := vs1 h; rfl)
  (Qef (ev_sub G.re1 (by k_all) Qdf (ev_sub G.re3 (by k_all) (ev_gstr G.crlf (by k_all)) (Qab (by k_all) (by k_mem)) fun a p => opF_sub3 p (by lia)) fun a p => opF_sub1 p (by lia)) rfl)
theorem sp_fix_eols (G : Gl C) {x : Str} (hsz : 8 * x.length + 4 <= sizeLine) : Spec C (n + 1) "_fix_eols" [.str x] (.str (fixS x)) :=
 .of (xs := ["data"]) G.fix_eols (by decide +kernel) (by decide +kernel) rfl (fun pm cd doc vs h => by obtain ⟨a, rfl⟩ := vs1 h; rfl)
  (Qef (ev_sub G.re3 (by k_all) (ev_gstr G.crlf (by k_all)) (Qab (by k_all) (by k_mem)) fun a p => opF_sub3 p (by lia)) rfl)
theorem sp_quote_periods (G : Gl C) {b : Array UInt8} (hsz : 4 * b.size + 4 <= sizeLine) : Spec C (n + 1) "_quote_periods" [.bytes b] (.bytes (quoteB b)) :=
 .of (xs := ["bindata"]) G.quote_periods (by decide +kernel) (by decide +kernel) rfl (fun pm cd doc vs h => by obtain ⟨a, rfl⟩ := vs1 h; rfl)
  (Qef (ev_sub G.re2 (by k_all) ev_bytes (Qab (by k_all) (by k_mem)) fun a p => opF_sub2 p hsz) rfl)
end
section
set_option tactic.hygienic false
noncomputable def parts (st : Stmt) : List Stmt × Expr := match st with | .ClassDef _ _ _ b .. => (b, .Constant .none 0 default) | .For _ t b .. => (b, t) | .If t b .. => (b, t) | _ => ([], .Constant .none 0 default)
noncomputable def clsBody (i : Nat) : List Stmt := (parts (stmtAt i)).1
noncomputable def methAt (k : Nat) : Stmt := ((clsBody 2)[k]?).getD (.Pass default)
noncomputable def mAt (k : Nat) : DefRec := (DefRec.ofStmt? (methAt k)).getD ⟨"", ⟨[], [], .none, [], [], .none, []⟩, [], default, default⟩
noncomputable def mBody (k : Nat) : List Stmt := (mAt k).body
noncomputable def mParams (k : Nat) : Arguments := (mAt k).params
noncomputable def mScope (k : Nat) : Scope := (mAt k).scope
theorem tc_weight (a b : Addr) : (Code.builtin "type.__call__" ⟨[.ref a, .ref b], []⟩).weight = 1 := by kernel_rfl
theorem tc_units (a : Args) : (Code.builtin "type.__call__" a).cUnits = 1 := by kernel_rfl
theorem Room.tc {a b : Addr} (x : Room A (n + 1)) : Room (A.under (.builtin "type.__call__" ⟨[.ref a, .ref b], []⟩)) n := by
 refine ⟨x.handled, ?_, ?_⟩
 ·have := x.depth
  show A.depth + (Code.builtin "type.__call__" ⟨[.ref a, .ref b], []⟩).weight + n < _
  rw [tc_weight]; lia
 ·have := x.units
  show A.units + (Code.builtin "type.__call__" ⟨[.ref a, .ref b], []⟩).cUnits + 20 * n < _
  rw [tc_units]; lia
inductive MethIn (C : Cfg) (f : Addr) (q name : Str) (k : Nat) : Prop
 | mk (o : PySem.Obj) (pm cd doc : Value) (h1 : C.h0.get? f = some o) (h2 : o.data = .func (defQ q name (mParams k) (mBody k) (mScope k) pm cd doc)) (h3 : C.h0.CodeRec cd q) (h4 : ∀ c o' vs, cd = .ref c -> C.h0.get? c = some o' -> o'.data = .fields vs -> o'.cls ≠ .none)
structure JFacts (C : Cfg) (K : Frag) (fi fc : Addr) : Prop where
 inn : K.In C.h0
 tabs : ∀ a vs, K.lookup a ≠ some { cls := .none, data := .fields vs }
 name : C.mg "TupleComp" = some (.ref C.CT)
 keepC : keepIn K (.ref C.CT) = true
 makes : makesIn K C.CT = true
 init : findIn K (.ref C.CT) "__init__" = some (some (.ref fi))
 initF : typeIn K (.ref fi) = some (.type "function")
 seta : findIn K (.ref C.CT) "__setattr__" = some (some (.builtin "object.__setattr__"))
 over : plainOver K C.CT = true
 taker : takerIn K C.CT "comp_select_list" = some none
 hasD : hasDictIn K C.CT = true
 get : plainGet K C.CT "" = true
 own : ∃ attr, findIn K (.ref C.CT) "comp_select_list" = some attr /\ noGet K attr = true
 cmp : findIn K (.ref C.CT) "compare" = some (some (.ref fc))
 cmpF : typeIn K (.ref fc) = some (.type "function")
 keepF : keepIn K (.ref fc) = true
 mi : MethIn C fi "TupleComp.__init__" "__init__" 0
 mc : MethIn C fc "TupleComp.compare" "compare" 1
theorem JFacts.at {K : Frag} {fi fc : Addr} (J : JFacts C K fi fc) (st : St C s) : K.In s.heap := fun a o e => st.h0 (J.inn a o e) fun vs q => J.tabs a vs (q ▸ e)
noncomputable abbrev csl (way : Int) : PV := .tup [.tup [.int 1, .int 7], .tup [.int 2, .int way]]
theorem judge_new {K : Frag} {fi fc : Addr} (J : JFacts C K fi fc) {way : Int} : OpF C (n + 2) (.ref C.CT) [csl way] (.judge way) := by
 intro A X s vs rm st lo r
 have hX := J.at st
 apply byc;intro kz
 obtain ⟨_, _, rfl, ⟨t, vs0, m0, rfl, xt, ht, _, _, rfl, ⟨t1, vs1, m1, rfl, x1, h1, _, _, rfl, ⟨k1, rfl⟩, _, _, rfl, ⟨k2, rfl⟩, rfl⟩, _, _, rfl, ⟨t2, vs2, m2, rfl, x2, h2, _, _, rfl, ⟨k3, rfl⟩, _, _, rfl, ⟨k4, rfl⟩, rfl⟩, rfl⟩, rfl⟩ := r
 obtain ⟨hh, g, d, tk, os⟩ := s
 apply kz;clear kz
 refine wpAny_call (make_core (makes_of hX J.makes) (looks_findIn hX J.init) (fun self => bind_fn hX self J.initF) (.inl rfl) ?_)
 have kp : ∀ b o, hh.get? b = some o -> ((hh.push emptyDict).push (instObj C.CT hh.objs.size)).get? b = some o := fun b o e => Qaa _ _ (Qaa _ _ e)
 have st2 : St C ⟨(hh.push emptyDict).push (instObj C.CT hh.objs.size), g, d, tk, os⟩ := st.of_keep (s' := ⟨(hh.push emptyDict).push (instObj C.CT hh.objs.size), g, d, tk, os⟩) kp rfl rfl st.pos
 have lo2 : LowX X ((hh.push emptyDict).push (instObj C.CT hh.objs.size)) := fun a q => let ⟨o, ho, hc⟩ := lo a q; ⟨o, kp a o ho, hc⟩
 apply byc;intro kz
 obtain ⟨o, pm, cd, doc, g1, g2, g3, g4⟩ := J.mi
 apply kz;clear kz
 have rr : RelL C X ((hh.push emptyDict).push (instObj C.CT hh.objs.size)) [.raw (.ref (hh.objs.size + 1)), csl way] [.ref (hh.objs.size + 1), .ref t] := by
  refine Qbc rel_raw (Qbc ?_ Qbw)
  refine Rel.mono (X := X) (h := hh) (fun _ _ _ e => e) (fun b o _ _ e => kp b o e) _ ?_
  exact ⟨t, _, m0, rfl, xt, ht, _, _, rfl, ⟨t1, _, m1, rfl, x1, h1, _, _, rfl, ⟨k1, rfl⟩, _, _, rfl, ⟨k2, rfl⟩, rfl⟩, _, _, rfl, ⟨t2, _, m2, rfl, x2, h2, _, _, rfl, ⟨k3, rfl⟩, _, _, rfl, ⟨k4, rfl⟩, rfl⟩, rfl⟩
 refine fn_enterZ (k := 0) (n := n) (xs := ["self", "comp_select_list"]) g1 g2 g3 g4 (by decide +kernel) (fun e => absurd e (by decide +kernel)) (by decide +kernel) rfl (fun vs h => by obtain ⟨a, b, rfl⟩ := vs2 h; rfl) rm.tc st2 lo2 rr fun env s₁ st3 ok3 keep eL eGO mL lnew cnew => ?_
 obtain ⟨m, hm, hmm⟩ := mL
 have e1 := hmm "comp_select_list" (.ref t) (by with_unfolding_all rfl) (by k_all)
 have e2 := hmm "self" (.ref (hh.objs.size + 1)) (by with_unfolding_all rfl) (by k_all)
 have hx2 : ((hh.push emptyDict).push (instObj C.CT hh.objs.size)).get? (hh.objs.size + 1) = some (instObj C.CT hh.objs.size) := by
  have := Heap.get?_push_size (hh.push emptyDict) (o := instObj C.CT hh.objs.size) rfl
  rwa [Heap.size_push] at this
 have hd2 : ((hh.push emptyDict).push (instObj C.CT hh.objs.size)).get? hh.objs.size = some emptyDict := Qaa _ _ (Heap.get?_push_size _ rfl)
 have hx3 := keep _ _ hx2
 have hd3 := keep _ _ hd2
 have szL : env.locals = hh.objs.size + 2 := by rw [eL, Heap.size_push, Heap.size_push]
 have FF : Fr hh env.locals s₁.heap m := ⟨hm, fun b o e => keep b o (kp b o e), by rw [szL]; exact Nat.le_add_right _ 2⟩
 have NN : News hh env.locals s₁.heap [(hh.objs.size + 1, instObj C.CT hh.objs.size), (hh.objs.size, dictOf [] 0)] := by
  intro p hp
  simp only [List.mem_cons, List.not_mem_nil, or_false] at hp
  have none_ge : ∀ a, hh.objs.size <= a -> hh.get? a = none := fun a h => by
   cases q : hh.get? a with
   | none => rfl
   | some o => exact absurd (Heap.lt_size q) (Nat.not_lt.mpr h)
  rcases hp with rfl | rfl
  ·exact ⟨hx3, by rw [szL]; exact Nat.ne_of_lt (Nat.lt_succ_self _), none_ge _ (Nat.le_succ _)⟩
  ·exact ⟨hd3, by rw [szL]; exact Nat.ne_of_lt (Nat.lt_add_of_pos_right (by decide)), none_ge _ (Nat.le_refl _)⟩
 have II : InstAt s₁.heap (hh.objs.size + 1) (instObj C.CT hh.objs.size) C.CT (some (dictOf [] 0)) := ⟨hx3, rfl, rfl, hd3⟩
 refine wpAny_execs_cons (plainObj_wpAny_Assign_Attribute ?_ rfl)
 refine wpAny_Name (wpAny_loadName_local ok3.kind (ok3.kindL "comp_select_list" (by k_all)) hm e1 ?_) (by decide +kernel)
 refine wpAny_Name (wpAny_loadName_local ok3.kind (ok3.kindL "self" (by k_all)) hm e2 ?_) (by decide +kernel)
 refine set_dict FF hX NN II rfl J.seta J.over J.taker J.hasD rfl rfl (.tail (by show hh.objs.size + 1 ≠ hh.objs.size; lia) (.head (fun _ h => nomatch h))) (Nat.le_of_ble_eq_true rfl) fun h' F' N' => ?_
 refine wpAny_execs_nil ?_
 refine ⟨rfl, ?_⟩
 have gx := (N' _ (List.mem_cons_self)).1
 have gd := (N' _ (List.mem_cons_of_mem _ List.mem_cons_self)).1
 dsimp only at gx gd
 have kF : ∀ b o, hh.get? b = some o -> h'.get? b = some o := F'.keep
 refine ⟨st.of_keep (s' := ⟨h', s₁.gens, s₁.drawn, s₁.toks + 2, s₁.os⟩) kF eGO.1 eGO.2 (Nat.succ_pos _), fun b o _ e => kF b o e, ?_⟩
 have nX : ∀ a, hh.objs.size <= a -> ¬ X a := fun a ha q => by
  obtain ⟨o, ho, _⟩ := lo a q
  exact absurd (Heap.lt_size ho) (Nat.not_lt.mpr ha)
 refine ⟨hh.objs.size + 1, hh.objs.size, t, t1, t2, k1, k2, k3, k4, m0, m1, m2, _, _, _, rfl, nX _ (Nat.le_succ _), gx, nX _ (Nat.le_refl _), gd, trivial, ?_, ?_, xt, kF _ _ ht, x1, kF _ _ h1, x2, kF _ _ h2⟩
 ·have : getL "comp_select_list" (putL "comp_select_list" (PyData.keyHash C.w.params "comp_select_list") (.str "comp_select_list" (s₁.toks + 1)) (.ref t) []) = some (some (.ref t)) := rfl
  exact this
 ·rfl
end
section
set_option tactic.hygienic false
theorem ev_csl {K : Frag} {fi fc : Addr} (J : JFacts C K fi fc) {way : Int} {x : Str} {np pos : Pos} (h : Ev C n nm ρ ow (.Name x np) (.judge way)) : Ev C n nm ρ ow (.Attribute (.Name x np) "comp_select_list" pos) (csl way) := by
 intro A Xo env oa s rm st ok
 refine Attribute_name (wpAny_mono (h A Xo env oa s rm st ok) (fun v s₁ ⟨st1, k1, r1⟩ => ?_) nof)
 obtain ⟨a, dx, t, t1, t2, q1, q2, q3, q4, n0, n1, n2, es, sl, dn, rfl, xa, ha, xd, hd, _, f1, f2, xt, ht, x1, h1, x2, h2⟩ := r1
 obtain ⟨attr, o1, o2⟩ := J.own
 have II : InstAt s₁.heap a { cls := .ref C.CT, dict := some dx, data := .plain, slots := sl } C.CT (some { cls := .type "dict", data := .dict es dn }) := ⟨ha, rfl, rfl, hd⟩
 refine get_value (J.at st1) II (plainGet_of J.get).1 (findObj_own J.hasD o1 o2 f1) rfl ?_
 refine ⟨st1.tok _, k1, ?_⟩
 exact ⟨t, _, n0, rfl, xt, ht, _, _, rfl, ⟨t1, _, n1, rfl, x1, h1, _, _, rfl, ⟨q1, rfl⟩, _, _, rfl, ⟨q2, rfl⟩, rfl⟩, _, _, rfl, ⟨t2, _, n2, rfl, x2, h2, _, _, rfl, ⟨q3, rfl⟩, _, _, rfl, ⟨q4, rfl⟩, rfl⟩, rfl⟩
noncomputable def cmpV (way h lv : Int) : Int := if h < lv then -way else if lv < h then way else 0
theorem compare_body {K : Frag} {fi fc : Addr} (J : JFacts C K fi fc) {way h lv : Int} : Ex C n (mScope 1).names (mBody 1) [("self", .judge way), ("left", .tup [.int 0, .int 5, .int h]), ("right", .tup [.int 1, .int 5, .int lv])] none (fun _ _ => False) (fun e => e = .int (cmpV way h lv)) := by
 refine Qbi (Qez (l := [((1 : Int), (7 : Int)), (2, way)]) (pv := fun p => .tup [.int p.1, .int p.2]) (bd := fun p => [("direction", .int p.2), ("index", .int p.1)]) (I := fun i ρ ow => ow = none /\ Qbp ρ "left" = some (.tup [.int 0, .int 5, .int h]) /\ Qbp ρ "right" = some (.tup [.int 1, .int 5, .int lv]) /\ (i = 2 -> h = lv))
  (Ev.itF (d := csl way) (ev_csl J (Qab (by k_all) (by k_mem))) rfl) feedFor_pair ⟨rfl, by k_mem, by k_mem, fun h => by cases h⟩ ?_) ?_
 ·rintro i ⟨ix, dr⟩ ρ' _ hi ⟨rfl, h1, h2, _⟩
  refine ⟨fun p hp => ?_, ?_⟩
  ·revert p; refine al ?_ (al ?_ an)
   ·exact ⟨by k_all, Qad⟩
   ·exact ⟨by k_all, Qad⟩
  obtain ⟨lq, rq, hpos, hsmall, hL, hR, hcase⟩ : ∃ a b : Int, 0 <= ix /\ ix < 2 ^ 63 /\ [PV.int 0, .int 5, .int h][ix.toNat]? = some (.int a) /\ [PV.int 1, .int 5, .int lv][ix.toNat]? = some (.int b) /\ ((i = 0 /\ a = 5 /\ b = 5) ∨ (i = 1 /\ dr = way /\ a = h /\ b = lv)) := by
   match i, hi with
   | 0, hi => simp at hi; obtain ⟨rfl, rfl⟩ := hi; exact ⟨5, 5, by decide, by decide, rfl, rfl, .inl ⟨rfl, rfl, rfl⟩⟩
   | 1, hi => simp at hi; obtain ⟨rfl, rfl⟩ := hi; exact ⟨h, lv, by decide, by decide, rfl, rfl, .inr ⟨rfl, rfl, rfl, rfl⟩⟩
   | i + 2, hi => simp at hi
  refine Qai (Qak (d := .int lq) (Qdk (Ev.tt (Qab (by k_all) (by k_mem))) (Qab (by k_all) (by k_mem)) hpos hL hsmall) (by k_all) Qad) ?_
  refine Qai (Qak (d := .int rq) (Qdk (Ev.tt (Qab (by k_all) (by k_mem))) (Qab (by k_all) (by k_mem)) hpos hR hsmall) (by k_all) Qad) ?_
  refine Qbi (Qey (N := fun a b => a = (("r" : Str), PV.int rq) :: (("l" : Str), PV.int lq) :: (("direction" : Str), PV.int dr) :: (("index" : Str), PV.int ix) :: ρ' /\ b = none /\ ¬ lq < rq) (b := decide (lq < rq)) (Qbk (Qab (by k_all) (by k_mem)) (Qab (by k_all) (by k_mem)) opc_lt) (fun hb => ?_) fun hb => Qcb ⟨rfl, rfl, by simpa using hb⟩) ?_
  ·have hlt : lq < rq := by simpa using hb
   refine Qef (ev_neg (Qab (by k_all) (by k_mem))) ?_
   rcases hcase with ⟨_, rfl, rfl⟩ | ⟨_, rfl, rfl, rfl⟩
   ·lia
   ·unfold cmpV; rw [if_pos hlt]
  ·rintro _ _ ⟨rfl, rfl, hn⟩
   refine Qbi (Qey (N := fun a b => a = (("r" : Str), PV.int rq) :: (("l" : Str), PV.int lq) :: (("direction" : Str), PV.int dr) :: (("index" : Str), PV.int ix) :: ρ' /\ b = none /\ ¬ rq < lq) (b := decide (rq < lq)) (Qbk (Qab (by k_all) (by k_mem)) (Qab (by k_all) (by k_mem)) opc_gt) (fun hb => ?_) fun hb => Qcb ⟨rfl, rfl, by simpa using hb⟩) ?_
   ·have hlt : rq < lq := by simpa using hb
    refine Qef (Qab (by k_all) (by k_mem)) ?_
    rcases hcase with ⟨_, rfl, rfl⟩ | ⟨_, rfl, rfl, rfl⟩
    ·lia
    ·unfold cmpV; rw [if_neg hn, if_pos hlt]
   ·rintro _ _ ⟨rfl, rfl, hn2⟩
    refine Qcb ⟨rfl, by k_mem, by k_mem, fun hi2 => ?_⟩
    rcases hcase with ⟨h0, _⟩ | ⟨_, _, rfl, rfl⟩
    ·lia
    ·lia
 ·rintro ρ' _ ⟨rfl, _, _, he⟩
  have : h = lv := he rfl
  subst this
  refine Qef Qag ?_
  unfold cmpV
  simp
theorem opF_compare {K : Frag} {fi fc : Addr} (J : JFacts C K fi fc) {way h lv : Int} : OpF C (n + 1) (.ref fc) [.judge way, .tup [.int 0, .int 5, .int h], .tup [.int 1, .int 5, .int lv]] (.int (cmpV way h lv)) := by
 obtain ⟨o, pm, cd, doc, g1, g2, g3, g4⟩ := J.mc
 exact fn_opQ (xs := ["self", "left", "right"]) g1 g2 g3 g4 (by decide +kernel) (fun e => absurd e (by decide +kernel)) (by decide +kernel) rfl (fun vs h => by obtain ⟨a, b, c, rfl⟩ := vs3 h; rfl) (compare_body J)
theorem ev_compare {K : Frag} {fi fc : Addr} (J : JFacts C K fi fc) {way : Int} {o : Expr} {apos pos : Pos} {args : List Expr} {ds : List PV} {d : PV} (ho : Ev C n nm ρ ow o (.judge way)) (ha : EvL C n nm ρ ow args ds) (hop : OpF C n (.ref fc) (.judge way :: ds) d)
  (hbase : ∀ env, attributeBase o "compare" env (eval o env) = eval o env := by k_all)
  (hform : ∀ env, methodCallForm (args.length + 0) (backTo pos (starEach args env)) [] = true := by k_all)
  (hline : (apos.endLine == pos.line) = true := by k_all)
  (hplain : ∀ env, (backTo pos (starEach args env)).any (·.1) = false := by k_all) : Ev C n nm ρ ow (.Call (.Attribute o "compare" apos) args [] pos) d := by
 intro A Xo env oa s rm st ok
 rw [arm_eval_Call, hbase]
 refine wpAny_bind (wpAny_mono (ho A Xo env oa s rm st ok) (fun ov s₁ ⟨st1, k1, r1⟩ => ?_) nof)
 have r1' := r1
 obtain ⟨a, dx, t, t1, t2, q1, q2, q3, q4, n0, n1, n2, es, sl, dn, rfl, xa, hga, xd, hd, _, f1, f2, _⟩ := r1'
 have II : InstAt s₁.heap a { cls := .ref C.CT, dict := some dx, data := .plain, slots := sl } C.CT (some { cls := .type "dict", data := .dict es dn }) := ⟨hga, rfl, rfl, hd⟩
 have ok1 := ok.kp st st1 k1
 refine wpAny_bind (wpAny_standAt ?_)
 have hk : backToKw pos (keywordEach [] env) = [] := rfl
 rw [hk]
 unfold methodCall
 rw [show methodCallForm (args.length + ([] : List Keyword).length) (backTo pos (starEach args env)) [] = true from hform env]
 refine wpAny_bind (wpAny_holding ?_)
 unfold calleeOf
 simp only [if_true]
 refine method_fn (J.at st1) II (plainGet_of J.get).1 (plainGet_of J.get).2 J.cmp J.cmpF (by show (lookIn "compare" _).map _ = _; rw [f2]; rfl) ?_
 have hpos : methodCallPos true o env apos pos = pure pos := by unfold methodCallPos; simp [hline]
 refine wpAny_bind (wpAny_of_eq hpos ?_)
 obtain ⟨o', pm, cd, doc, g1, g2, _⟩ := J.mc
 refine callWith_of (P := fun h => ∃ t, St C t /\ t.heap = h) (by simp [hplain env]) (fun h ⟨t, stt, e⟩ => e ▸ keepF_func g1 g2 t stt) (Qeg (hplain env) (wpAny_mono (ha A Xo env oa s₁ pos rm st1 ok1) (fun vs s₂ ⟨st2, k2, r2⟩ => ⟨⟨s₂, st2, rfl⟩, ?_⟩) nof))
 exact wpAny_mono (hop A _ s₂ (.ref a :: vs) rm st2 (ok1.kp st1 st2 k2).lowX (Qbc (r1.kp st1 k2) r2)) (fun v s₃ p => p.of (k1.trans k2)) nof
end
section
set_option tactic.hygienic false
noncomputable def insL (lv : List Int) (h : Int) : List Int := if lv.contains h then lv else lv.take (lv.countP fun l => decide (h < l)) ++ [h] ++ lv.drop (lv.countP fun l => decide (h < l))
noncomputable def Qcc (high : List Int) : List Int := high.foldl insL []
theorem insL_len (lv : List Int) (h : Int) : (insL lv h).length <= lv.length + 1 := by
 unfold insL
 split
 ·exact Nat.le_succ _
 ·rw [List.length_append, List.length_append, Nat.add_right_comm, ← List.length_append, List.take_append_drop]
  exact Nat.le_refl _
theorem levF_len : ∀ (high lv : List Int), (high.foldl insL lv).length <= lv.length + high.length
 | [], lv => by simp
 | h :: high, lv => by
  have h1 := levF_len high (insL lv h)
  have h2 := insL_len lv h
  rw [List.foldl_cons, List.length_cons]; lia
theorem cmpV_lt {way h l : Int} (hw : way ≠ 0) : decide (cmpV way h l * way < 0) = decide (h < l) := by
 have h2 : 0 < way * way := by
  rcases Int.lt_or_gt_of_ne hw with h | h
  ·exact Int.mul_pos_of_neg_of_neg h h
  ·exact Int.mul_pos h h
 unfold cmpV
 by_cases h1 : h < l
 ·rw [if_pos h1, Int.neg_mul]; simp [h1]; exact h2
 ·rw [if_neg h1]
  by_cases h3 : l < h
  ·rw [if_pos h3]; simp [h1]; lia
  ·rw [if_neg h3]; simp [h1]
theorem cmpV_zero {way h l : Int} (hw : way ≠ 0) : (cmpV way h l == 0) = (h == l) := by
 unfold cmpV
 rw [Bool.eq_iff_iff, beq_iff_eq, beq_iff_eq]
 split
 ·lia
 ·split <;> lia
theorem cmpV_alt {way h l : Int} : (if decide (l < h) = true then way else if decide (h < l) = true then -way else 0) = cmpV way h l := by
 unfold cmpV
 by_cases h1 : h < l
 ·have : ¬ l < h := by lia
  simp [h1, this]
 ·simp [h1]
theorem sz10 {k : Nat} (h : Nat.ble k 10 = true) : k <= sizeLine := by
 have := Nat.le_of_ble_eq_true h
 unfold sizeLine; lia
theorem levels_body {K : Frag} {fi fc : Addr} (G : Gl C) (J : JFacts C K fi fc) {high : List Int} {way : Int} (hw : way ≠ 0) (hb : Builtin.Int.intBits way <= 64) (hl : high.length <= 1000) (h4 : 4 <= n) :
  Ex C n (Qaf 70).names (Qax 70) [("high", .lst (high.map .int)), ("way", .int way)] none (fun _ _ => False) (fun e => e = .lst ((Qcc high).map .int)) := by
 obtain ⟨n', rfl⟩ : ∃ n', n = n' + 2 := ⟨n - 2, by lia⟩
 have eJ : ∀ {nm : Qck} {ρ : Qbs} {ow : Option (Str × PV)} {np : Pos} {e : Expr} {pos : Pos}, gloB nm "TupleComp" = true -> Ev C (n' + 2) nm ρ ow e (csl way) -> (∀ env, (backTo pos (starEach [e] env)).any (·.1) = false) -> (∀ env, starEach [e] env = [(false, eval e env)]) -> Ev C (n' + 2) nm ρ ow (.Call (.Name "TupleComp" np) [e] [] pos) (.judge way) := fun hx he hp hs =>
  ev_call (ev_glo hx J.name (by decide +kernel)) (fun s st => keeps_K J.keepC s.heap (J.at st)) (Qaw he hs) (judge_new J) hp
 refine Qai (Qak (d := .judge way) (eJ (by k_all) (Qbz (Qby (Qbz (Qby Qag Qag) (by decide +kernel)) (Qbz (Qby Qag (Qan (by k_all) (by k_mem))) (sz10 rfl))) (sz10 rfl)) (by intro _; rfl) (by intro _; rfl)) (by k_all) Qad) ?_
 refine Qai (exs_new_list (by k_all)) ?_
 refine Qbi (Qez (l := high) (pv := .int) (bd := fun i => [("height", .int i)]) (I := fun i ρ ow => ow = owned "levels" (.lst (((high.take i).foldl insL []).map .int)) /\ Qbp ρ "high" = some (.lst (high.map .int)) /\ Qbp ρ "way" = some (.int way) /\ Qbp ρ "judge" = some (.judge way))
  (Ev.itF (Qab (by k_all) (by k_mem)) rfl) Qac ⟨rfl, by k_mem, by k_mem, by k_mem⟩ ?_) ?_
 ·rintro i h ρ' _ hi ⟨rfl, h1, h2, h3⟩
  refine ⟨tgt_one (by k_all) (Qba (by decide +kernel)), ?_⟩
  have hnext : (high.take (i + 1)).foldl insL [] = insL ((high.take i).foldl insL []) h := by
   rw [List.take_add_one, hi, List.foldl_append]; rfl
  have hlen : ((high.take i).foldl insL []).length <= 1000 := by
   have := levF_len (high.take i) []
   rw [List.length_take] at this
   simp only [List.length_nil] at this; lia
  rw [hnext]
  generalize (high.take i).foldl insL [] = lv at hlen
  have hsz : lv.length <= sizeLine := by unfold sizeLine; lia
  refine Qai (Qcu (l := lv) (pv := .int) (f := fun l => .int (cmpV way h l)) (bd := fun l => [("level", .int l)]) (p := fun _ => true) (by k_all) (Qba (by decide +kernel)) (EvT.it (evT_own (by k_all))) Qac (by decide +kernel) (fun a => Qat (by k_all) (by k_all)) ?_ hsz) ?_
  ·intro l hl
   refine ⟨Qbe, fun _ => ev_compare J (Qan (by k_all) (by k_mem)) (Qby (Qbz (Qao Qag (Qao Qag (Qao (Qan (by k_all) (by k_mem)) Qdt))) (sz10 rfl)) (Qbz (Qao Qag (Qao Qag (Qao (Qab (by k_all) (by k_mem)) Qdt))) (sz10 rfl))) (opF_compare J)⟩
  rw [Qap, show lv.map (fun l => PV.int (cmpV way h l)) = (lv.map (cmpV way h)).map .int by rw [List.map_map]; rfl]
  refine Qbi (Qey (N := fun a b => a = (("told" : Str), PV.lst ((lv.map (cmpV way h)).map .int)) :: (("height" : Str), PV.int h) :: ρ' /\ b = owned "levels" (.lst (lv.map .int))) (b := false) (Tv.cast (Qbk (Qab (by k_all) (by k_mem)) (Ev.cast (Qas (l := lv) (pv := .int) (f := fun l => .int (cmpV way h l)) (bd := fun l => [("level", .int l)]) (p := fun _ => true) (EvT.it (evT_own (by k_all))) Qac (by decide +kernel) (fun a => Qat (by k_all) (by k_all)) ?_ hsz)
   (show _ = PV.lst ((lv.map (cmpV way h)).map .int) by rw [Qap, List.map_map]; rfl)) (Qdz h4)) (by simp)) (fun q => nomatch q) fun _ => Qcb ⟨rfl, rfl⟩) ?_
  ·intro l hl
   refine ⟨Qbe, fun _ => Ev.cast (Qfq (Qbk (Qan (by k_all) (by k_mem)) (Qab (by k_all) (by k_mem)) opc_gt) (Qan (by k_all) (by k_mem)) (Qfq (Qbk (Qan (by k_all) (by k_mem)) (Qab (by k_all) (by k_mem)) opc_lt) (ev_neg (Qan (by k_all) (by k_mem))) Qag)) ?_⟩
   rw [cmpV_alt]
  rintro _ _ ⟨rfl, rfl⟩
  have hszT : (lv.map (cmpV way h)).length <= sizeLine := by rw [List.length_map]; exact hsz
  refine Qbi (Qey (b := !lv.contains h) (Tv.cast (Qbk (Ev.cast (Qas (l := lv.map (cmpV way h)) (pv := .int) (f := .int) (bd := fun x => [("x", .int x)]) (p := fun x => x == 0) (Ev.it (Qab (by k_all) (by k_mem)) rfl) Qac (by decide +kernel) (fun a => Qat (by k_all) (by k_all)) ?_ hszT) rfl)
   (Qgd (ds := []) Qdt (by decide +kernel)) (opc_eq_ints (m := []) h4)) ?_) (fun hc => ?_) fun hc => ?_) (fun ρ' ow' h => Qcb h)
  ·intro x hx
   exact ⟨Qcl (tv_bool (Qfr (sp_iseof G) (by k_all) (Qaw (Qab (by k_all) (by k_mem))))), fun _ => Qab (by k_all) (by k_mem)⟩
  ·rw [Bool.eq_iff_iff]
   simp only [decide_eq_true_eq, Bool.not_eq_true', List.filter_eq_nil_iff]
   constructor
   ·intro q
    cases c : lv.contains h with
    | false => rfl
    | true =>
     have hm : h ∈ lv := by simpa using c
     have := q _ (List.mem_map.mpr ⟨h, hm, rfl⟩)
     rw [cmpV_zero hw] at this
     simp at this
   ·intro q x hx
    rw [List.mem_map] at hx
    obtain ⟨l, hl, rfl⟩ := hx
    rw [cmpV_zero hw]
    intro e
    have : h = l := by simpa using e
    subst this
    have : lv.contains h = true := by simpa using hl
    rw [this] at q; cases q
  ·have hc' : lv.contains h = false := by simpa using hc
   have hk : lv.countP (fun l => decide (h < l)) <= lv.length := List.countP_le_length
   refine Qai (exs_own_meth (d2 := .lst ((insL lv h).map .int)) (ds := [.int ((lv.countP fun l => decide (h < l) : Nat) : Int), .int h]) (by k_all) F.plainAttrs_list F.slot_list_insert F.type_list_insert (fun X s a t => tyV_top_lst t) (Qby ?_ (Qan (by k_all) (by k_mem))) ?_) ?_
   ·refine Qbh G.b_len Qaq (by k_all) (Qaw (Ev.cast (d' := .lst (((lv.map (cmpV way h)).filter fun x => decide (x * way < 0)).map .int)) (Qas (l := lv.map (cmpV way h)) (pv := .int) (f := .int) (bd := fun x => [("x", .int x)]) (p := fun x => decide (x * way < 0)) (Ev.it (Qab (by k_all) (by k_mem)) rfl) Qac (by decide +kernel) (fun a => Qat (by k_all) (by k_all)) ?_ hszT) rfl)) ?_
    ·intro x hx
     exact ⟨Qcl (Qbk (Qaj (Qab (by k_all) (by k_mem)) (Qan (by k_all) (by k_mem)) (Qcn (IntMulOk.of_right hb))) Qag opc_lt), fun _ => Qab (by k_all) (by k_mem)⟩
    ·have e : (((lv.map (cmpV way h)).filter fun x => decide (x * way < 0)).map PV.int).length = lv.countP fun l => decide (h < l) := by
      rw [List.length_map, ← List.countP_eq_length_filter, List.countP_map]
      congr 1
      funext l
      exact cmpV_lt hw
     have := opF_len_lst (C := C) (n := n' + 2) (l := ((lv.map (cmpV way h)).filter fun x => decide (x * way < 0)).map PV.int) (by rw [e]; lia)
     rw [e] at this
     exact this
   ·have := opW_insert (C := C) (n := n' + 2) (l := lv.map PV.int) (d := .int h) (i := lv.countP fun l => decide (h < l)) (by rw [List.length_map]; exact hk) (by rw [List.length_map]; exact hsz)
    have e : insL lv h = lv.take (lv.countP fun l => decide (h < l)) ++ [h] ++ lv.drop (lv.countP fun l => decide (h < l)) := by unfold insL; rw [hc']; rfl
    rw [e]
    simpa using this
   ·exact Qcb ⟨rfl, by k_mem, by k_mem, by k_mem⟩
  ·have hc' : lv.contains h = true := by simpa using hc
   have e : insL lv h = lv := by unfold insL; rw [if_pos hc']
   rw [e]
   exact Qcb ⟨rfl, by k_mem, by k_mem, by k_mem⟩
 ·rintro ρ' _ ⟨rfl, _⟩
  rw [List.take_length]
  exact ex_freeze (Qef (Qab (by k_all) (by k_mem)) rfl)
theorem sp_levels {K : Frag} {fi fc : Addr} (G : Gl C) (J : JFacts C K fi fc) {high : List Int} {way : Int} (hw : way ≠ 0) (hb : Builtin.Int.intBits way <= 64) (hl : high.length <= 1000) : Spec C 5 "_law_levels" [.lst (high.map .int), .int way] (.lst ((Qcc high).map .int)) :=
 .of (xs := ["high", "way"]) G.levels (by decide +kernel) (by decide +kernel) rfl (fun pm cd doc vs h => by obtain ⟨a, b, rfl⟩ := vs2 h; rfl) (levels_body G J hw hb hl (Nat.le_refl _))
end
section
set_option tactic.hygienic false
theorem simple_pv (c : CV) : Simple c.pv := by
 cases c with
 | i a => trivial
 | t l => exact ⟨l, rfl⟩
theorem simple_tab (S : List (Int × CV)) : ∀ p ∈ Qca S, Simple p.2 := by
 intro p hp
 unfold Qca at hp
 rw [List.mem_map] at hp
 obtain ⟨q, _, rfl⟩ := hp
 exact simple_pv _
theorem tabC_keys (S : List (Int × CV)) : (Qca S).map (·.1) = S.map (·.1) := by unfold Qca; rw [List.map_map]; rfl
theorem addC_keys {S : List (Int × CV)} {p : Int × CV} : (addC S p).map (·.1) = if (S.map (·.1)).contains p.1 then S.map (·.1) else S.map (·.1) ++ [p.1] := dset_keys S p.1 _
theorem acF_keys : ∀ (S T : List (Int × CV)), (S.map (·.1)).Nodup -> (acF T S).map (·.1) = T.map (·.1) ++ (S.map (·.1)).filter fun k => !dhas T k
 | [], T, _ => by simp [acF]
 | p :: S, T, h => by
  rw [List.map_cons, List.nodup_cons] at h
  have ih := acF_keys S (addC T p) h.2
  have e : acF T (p :: S) = acF (addC T p) S := rfl
  rw [e, ih, addC_keys, List.map_cons, List.filter_cons]
  have hd : ∀ k, dhas T k = (T.map (·.1)).contains k := by
   intro k
   unfold dhas Qcm
   rw [Option.isSome_map, Bool.eq_iff_iff, List.find?_isSome]
   simp only [decide_eq_true_eq, List.contains_iff_mem, List.mem_map]
  have hd2 : ∀ k, dhas (addC T p) k = ((addC T p).map (·.1)).contains k := by
   intro k
   unfold dhas Qcm
   rw [Option.isSome_map, Bool.eq_iff_iff, List.find?_isSome]
   simp only [decide_eq_true_eq, List.contains_iff_mem, List.mem_map]
  have hf : (S.map (·.1)).filter (fun k => !dhas (addC T p) k) = (S.map (·.1)).filter fun k => !dhas T k := by
   apply List.filter_congr
   intro k hk
   have hne : k ≠ p.1 := fun q => h.1 (q ▸ hk)
   rw [hd2, hd, addC_keys]
   split
   ·rfl
   ·congr 1
    rw [Bool.eq_iff_iff]
    simp [hne]
  rw [hf, hd]
  cases c : (T.map (·.1)).contains p.1 with
  | true => simp
  | false => simp
theorem addC_nodup {S : List (Int × CV)} {p : Int × CV} (h : (S.map (·.1)).Nodup) : ((addC S p).map (·.1)).Nodup := Qft h _ _
theorem acF_nodup : ∀ (S T : List (Int × CV)), (T.map (·.1)).Nodup -> ((acF T S).map (·.1)).Nodup
 | [], _, h => h
 | p :: S, T, h => acF_nodup S (addC T p) (addC_nodup h)
theorem dcopy_self (S : List (Int × CV)) (hn : (S.map (·.1)).Nodup) : Qcv (fun p : Int × CV => p.1) (fun p => p.2.pv) S = Qca S := by
 have h1 : Qcv (fun p : Int × CV => p.1) (fun p => p.2.pv) S = (Qcv (fun p : Int × CV => p.1) (fun p => p.2) S).map fun p => (p.1, p.2.pv) := dfold_map CV.pv _ _ _
 rw [h1]
 unfold Qcv
 have h2 := dcopy S [] (by simpa using hn)
 rw [h2]; rfl
theorem ev_copy {S : List (Int × CV)} (hn : (S.map (·.1)).Nodup) (hsz : S.length <= 1000) {x : Str} {sc : Scope} {p1 p2 p3 p4 p5 p6 pos : Pos} (hx : (Qdm nm x || Qdi nm x) = true) (hc : Qdi nm x = true) (hl : Qbp ρ x = some (.dctI (Qca S)))
  (hsc : Qdn nm sc = true) (hk1 : (Qdm sc.names "key" || Qdi sc.names "key") = true) (hk2 : Qdw sc.names "key" = false) (hk3 : Qdm sc.names "key" = true) (hx2 : Qdi sc.names x = true) (hx3 : Qdw sc.names x = true) (hxk : (x == ("key" : Str)) = false)
  (hb : (x == ("__debug__" : Str)) = false) (hcd : (x == ("__classdict__" : Str)) = false) :
  Ev C n nm ρ ow (.DictComp (.Name "key" p1) (.Subscript (.Name x p2) (.Name "key" p3) p4) [⟨.Name "key" p5, .Name x p6, [], 0⟩] sc pos) (.dctI (Qca S)) := by
 refine Ev.cast (Qeh (l := S) (pv := fun p => .int p.1) (f := fun p => p.2.pv) (ky := fun p => p.1) (bd := fun p => [("key", .int p.1)]) (p := fun _ => true) (Ev.it (Qan hc hl hb hcd) (by show some ((Qca _).map _) = _; simp only [Qca, List.map_map]; rfl)) Qac hsc (fun a => Qat hk1 hk2) ?_ (by unfold sizeLine; lia) (by intro _ _; rfl)) (by rw [Qap, dcopy_self S hn])
 intro p hp
 have hcp : List.lookup x (([("key", PV.int p.1)] : Qbs) ++ Qer sc.names ρ) = some (.dctI (Qca S)) := lk_next hxk (lk_capt hx3 hl)
 refine ⟨Qbe, fun _ => ⟨Qab hk3 lk_here, Qdl (Ev.ti (Qan hx2 hcp hb hcd)) (Qab hk3 lk_here) ?_⟩⟩
 rw [Qfa, dget_mem hn hp]; rfl
theorem added_body (G : Gl C) (h5 : 5 <= n) {m : Option Nat} {T S : List (Int × CV)} {fl : PV} (hT : ∀ p ∈ T, CV.kd m p.2) (hS : ∀ p ∈ S, CV.kd m p.2) (hn : (T.map (·.1)).Nodup) (hn2 : (S.map (·.1)).Nodup) (hsz : T.length + S.length <= 1000) (hm : ∀ k, m = some k -> k <= 1000) :
  Ex C n (Qaf 71).names (Qax 71) [("table", .dctI (Qca T)), ("one", .dctI (Qca S)), ("faults", fl)] none (fun _ _ => False) (fun e => e = .dctI (Qca (acF T S))) := by
 have h4 : 4 <= n := by lia
 have hz : ∀ {S : List (Int × CV)}, S.length <= 1000 -> (Qca S).length <= sizeLine := fun h => by simp only [Qca, List.length_map]; unfold sizeLine; lia
 refine Qai (ρ' := (("kept" : Str), PV.dctI (Qca T)) :: (("given" : Str), PV.dctI (Qca S)) :: (("table" : Str), PV.dctI (Qca T)) :: (("one" : Str), PV.dctI (Qca S)) :: (("faults" : Str), fl) :: []) (exs_tup (ps := [(("kept", _), .dctI (Qca T)), (("given", _), .dctI (Qca S))]) (Qbz (Qby (ev_copy (S := T) hn (by lia) (by k_all) (by k_all) (by k_mem) (by decide +kernel) (by k_all) (by k_all) (by k_all) (by k_all) (by k_all) (by decide +kernel) (by decide +kernel) (by decide +kernel))
  (ev_copy (S := S) hn2 (by lia) (by k_all) (by k_all) (by k_mem) (by decide +kernel) (by k_all) (by k_all) (by k_all) (by k_all) (by k_all) (by decide +kernel) (by decide +kernel) (by decide +kernel))) (sz10 rfl)) ?_ (show ([("kept" : Str), "given"] : List Str).Nodup by decide +kernel) (by intro _; rfl) (fun env => swappedN (xs := [("kept", _), ("given", _)]) (.inl rfl) env) (by intro _; rfl)) ?_
 ·intro p hp
  revert p; refine al ?_ (al ?_ an)
  ·exact ⟨by k_all, Qad⟩
  ·exact ⟨by k_all, Qad⟩
 have hlen : (acF T S).length <= 1000 := by
  have h1 := congrArg List.length (acF_keys S T hn2)
  rw [List.length_map, List.length_append, List.length_map] at h1
  have h2 := List.length_filter_le (fun k => !dhas T k) (S.map (·.1))
  rw [List.length_map] at h2
  lia
 refine Qai (Qak (d := .dctI (Qca (acF T S))) (Qfr ((sp_add G hT hS hn hsz hm).le (by lia)) (by k_all) (Qby (Qan (by k_all) (by k_mem)) (Qan (by k_all) (by k_mem)))) (by k_all) Qad) ?_
 refine Qbi (Qey (N := fun a b => Qbp a "more" = some (.dctI (Qca (acF T S))) /\ b = none) (b := false) ?_ (fun q => nomatch q) fun _ => Qcb ⟨by k_mem, rfl⟩) ?_
 ·have keysP : ∀ (S : List (Int × CV)), (Qca S).map (fun kv => PV.int kv.1) = (S.map (·.1)).map PV.int := fun S => by rw [Qca, List.map_map, List.map_map]; rfl
  refine Tv.cast (tv_or (Qbk (Qan (by k_all) (by k_mem)) (Qan (by k_all) (by k_mem)) (opc_ne_dct (simple_tab T) (by rw [tabC_keys]; exact hn) h4)) fun _ => tv_or (Qbk (Qan (by k_all) (by k_mem)) (Qab (by k_all) (by k_mem)) (opc_ne_dct (simple_tab S) (by rw [tabC_keys]; exact hn2) h4)) fun _ => tv_or (c := false) (Qbk (l := _) ?_ ?_ (Qdz (l := (acF T S).map (·.1)) (m := T.map (·.1) ++ (S.map (·.1)).filter fun k => !dhas T k) h4)) fun _ => tv_or_nil) ?_
  ·exact Ev.cast (Qbh G.b_list Qcj (by k_all) (Qaw (Qab (by k_all) (by k_mem))) (opF_list_dct (hz hlen))) (by rw [keysP])
  ·refine Ev.cast (Qaj (Qbh G.b_list Qcj (by k_all) (Qaw (Qan (by k_all) (by k_mem))) (opF_list_dct (hz (S := T) (by lia)))) (Qas (l := S.map (·.1)) (pv := .int) (f := .int) (bd := fun k => [("key", .int k)]) (p := fun k => !dhas T k) (Ev.it (Qab (by k_all) (by k_mem)) (by show some ((Qca _).map _) = _; rw [keysP])) Qac (by decide +kernel) (fun a => Qat (by k_all) (by k_all)) ?_ (by rw [List.length_map]; unfold sizeLine; lia)) (Qeq ?_)) ?_
   ·intro k hk
    exact ⟨Qcl (Tv.cast (Qbk (Qab (by k_all) (by k_mem)) (Qan (by k_all) (by k_mem)) opc_notin_dct) (by rw [dhas_tabC])), fun _ => Qab (by k_all) (by k_mem)⟩
   ·have h2 := List.length_filter_le (fun k => !dhas T k) (S.map (·.1))
    rw [List.length_map] at h2
    simp only [List.length_map, Qca]
    unfold sizeLine; lia
   ·rw [keysP, ← List.map_append]
  ·rw [acF_keys S T hn2]; simp
 ·rintro ρ' _ ⟨h1, rfl⟩
  exact Qef (Qab (by k_all) (by k_mem)) rfl
theorem sp_added (G : Gl C) {m : Option Nat} {T S : List (Int × CV)} {fl : PV} (hT : ∀ p ∈ T, CV.kd m p.2) (hS : ∀ p ∈ S, CV.kd m p.2) (hn : (T.map (·.1)).Nodup) (hn2 : (S.map (·.1)).Nodup) (hsz : T.length + S.length <= 1000) (hm : ∀ k, m = some k -> k <= 1000) :
  Spec C 6 "_law_added" [.dctI (Qca T), .dctI (Qca S), fl] (.dctI (Qca (acF T S))) :=
 .of (xs := ["table", "one", "faults"]) G.added (by decide +kernel) (by decide +kernel) rfl (fun pm cd doc vs h => by obtain ⟨a, b, c, rfl⟩ := vs3 h; rfl) (added_body G (Nat.le_refl _) hT hS hn hn2 hsz hm)
end
section
set_option tactic.hygienic false
open Builtin.Str StrLaws
noncomputable def Qbt (c : Nat) : List Nat -> List (List Nat)
 | [] => [[]]
 | x :: r => if x == c then [] :: Qbt c r else match Qbt c r with
  | h :: t => (x :: h) :: t
  | [] => [[x]]
noncomputable def Qew (g : List Nat) : List (List Nat) -> List Nat
 | [] => []
 | [a] => a
 | a :: b :: r => a ++ g ++ Qew g (b :: r)
noncomputable def dotL (row : List Nat) : List Nat := if row.head? = some 46 then 46 :: row else row
theorem splitL_ne (c : Nat) (l : List Nat) : ∃ h t, Qbt c l = h :: t := by
 induction l with
 | nil => exact ⟨[], [], rfl⟩
 | cons x r ih =>
  obtain ⟨h, t, e⟩ := ih
  unfold Qbt
  rw [e]
  split
  ·exact ⟨_, _, rfl⟩
  ·exact ⟨_, _, rfl⟩
theorem splitL_free {c : Nat} : ∀ {p : List Nat}, c ∉ p -> Qbt c p = [p]
 | [], _ => rfl
 | x :: p, h => by
  rw [List.mem_cons, not_or] at h
  have hx : (x == c) = false := by simpa using fun e => h.1 e.symm
  unfold Qbt
  rw [hx, splitL_free h.2]; rfl
theorem splitL_cut {c : Nat} {r : List Nat} : ∀ {p : List Nat}, c ∉ p -> Qbt c (p ++ c :: r) = p :: Qbt c r
 | [], _ => by show (if (c == c) = true then _ else _) = _; simp
 | x :: p, h => by
  rw [List.mem_cons, not_or] at h
  have hx : (x == c) = false := by simpa using fun e => h.1 e.symm
  show (if (x == c) = true then _ else (match Qbt c (p ++ c :: r) with | h :: t => (x :: h) :: t | [] => [[x]])) = _
  rw [hx, splitL_cut h.2]; rfl
theorem sub_list (x : Str) (a b : Nat) : (strSub x a b).cps.toList = (x.cps.toList.drop a).take (b - a) := strSub_toList x a b
theorem one_len (c : Nat) : (⟨#[c]⟩ : Str).length = 1 := rfl
theorem parts_split (x : Str) (c : Nat) : ∀ (cuts : List Nat) (a f : Nat), ChainG x ⟨#[c]⟩ x.length a cuts f -> (∀ k, f <= k -> ¬ At x ⟨#[c]⟩ x.length k) -> (partsFrom x 1 a cuts).map (fun p => p.cps.toList) = Qbt c (x.cps.toList.drop a)
 | [], a, f, h, hn => by
  have e : f = a := h
  subst e
  have hfree := part_free x c f x.length (Nat.le_refl _) fun k h1 _ => hn k h1
  have el : (strSub x f x.length).cps.toList = x.cps.toList.drop f := by
   rw [sub_list, List.take_of_length_le]
   rw [List.length_drop, Qal]; lia
  rw [el] at hfree
  show [(strSub x f x.length).cps.toList] = _
  rw [el, splitL_free hfree]
 | d :: r, a, f, h, hn => by
  have ih := parts_split x c r (d + 1) f h.2.2.2 hn
  have hd : d + 1 <= x.length := h.2.1.1
  have hfree := part_free x c a d (by lia) h.2.2.1
  have hat := (subAt_one x c d).mp h.2.1
  show (strSub x a d).cps.toList :: (partsFrom x 1 (d + 1) r).map (fun p => p.cps.toList) = _
  rw [ih]
  rw [sub_list] at hfree ⊢
  have e1 : x.cps.toList.drop a = (x.cps.toList.drop a).take (d - a) ++ c :: x.cps.toList.drop (d + 1) := by
   have h1 := List.take_append_drop (d - a) (x.cps.toList.drop a)
   rw [List.drop_drop, show a + (d - a) = d from Nat.add_sub_cancel' h.1] at h1
   have hl : d < x.cps.toList.length := by rw [Qal]; lia
   have h2 : x.cps.toList.drop d = c :: x.cps.toList.drop (d + 1) := by
    rw [List.drop_eq_getElem_cons hl]
    rw [List.getElem?_eq_getElem hl] at hat
    rw [Option.some.inj hat]
   rw [← h2]; exact h1.symm
  conv => rhs; rw [e1]
  rw [splitL_cut hfree]
theorem split_list (x : Str) (c : Nat) (hc : c < 256) : (Txt.split x ⟨#[c]⟩).map (fun p => p.cps.toList) = Qbt c x.cps.toList := by
 obtain ⟨f, hch, hn⟩ := occ_tight x ⟨#[c]⟩ (by show 1 <= 1; lia)
 have key := parts_split x c _ 0 f hch hn
 rw [List.drop_zero] at key
 unfold Txt.split
 have hk : ¬ Builtin.Str.strKind x < Builtin.Str.strKind ⟨#[c]⟩ := by
  have : Builtin.Str.strKind ⟨#[c]⟩ = 1 := by unfold Builtin.Str.strKind; simp [hc]
  rw [this]
  unfold Builtin.Str.strKind
  split
  ·lia
  ·split <;> lia
 by_cases h0 : x.length < 1
 ·have hx : x.cps.toList = [] := List.eq_nil_of_length_eq_zero (by rw [Qal]; lia)
  rw [if_pos (by simp [one_len]; exact .inl (by lia))]
  simp [hx, Qbt]
 ·rw [if_neg (by simp [one_len, hk]; lia)]
  split
  ·rename_i he
   have hnil : occurrences x ⟨#[c]⟩ 0 x.length (x.length + 1) = [] := by simpa using he
   rw [hnil] at key
   rw [← key]
   show [x.cps.toList] = [(strSub x 0 x.length).cps.toList]
   rw [sub_list, List.drop_zero, List.take_of_length_le (by rw [Qal]; lia)]
  ·rw [partsBetween_eq]; exact key
theorem join_list' (g : Str) : ∀ (l : List Str), (Txt.join g l).cps.toList = Qew g.cps.toList (l.map fun p => p.cps.toList) := by
 intro l
 unfold Txt.join
 rw [glued_eq_join]
 induction l with
 | nil => rfl
 | cons a r ih =>
  cases r with
  | nil => rfl
  | cons b r =>
   show (a ++ g ++ Str.join g (b :: r)).cps.toList = _
   rw [Str.cps_append, Str.cps_append, Array.toList_append, Array.toList_append, ih]
   rfl
theorem parts_subL (x y z : Str) (hw : 1 <= y.length) : ∀ (cuts : List Nat) (a f k : Nat), ChainG x y x.length a cuts f -> (∀ k, f <= k -> ¬ At x y x.length k) -> x.length - a <= k ->
  (Txt.join z (partsFrom x y.length a cuts)).cps.toList = subL (fun j => decide (j + y.length <= x.length) && subAt x y j) (fun _ => y.length) z.cps.toList x.cps.toList k a
 | [], a, f, k, h, hn, hk => by
  have e : f = a := h
  subst e
  have hL : (Txt.join z (partsFrom x y.length f [])).cps.toList = x.cps.toList.drop f := by
   show (strSub x f x.length).cps.toList = _
   rw [sub_list, List.take_of_length_le]
   rw [List.length_drop, Qal]; lia
  rw [hL]
  cases k with
  | zero => rfl
  | succ k =>
   show _ = (match Qbl _ (x.cps.toList.length - f) f with | some j => _ | none => _)
   cases q : Qbl (fun j => decide (j + y.length <= x.length) && subAt x y j) (x.cps.toList.length - f) f with
   | none => rfl
   | some j =>
    obtain ⟨g1, _, g3, _⟩ := Qct q
    simp only [Bool.and_eq_true, decide_eq_true_eq] at g3
    exact absurd ⟨g3.1, g3.2⟩ (hn j g1)
 | c :: r, a, f, k, h, hn, hk => by
  have hc : c + y.length <= x.length := h.2.1.1
  obtain ⟨k', rfl⟩ : ∃ k', k = k' + 1 := ⟨k - 1, by have := h.1; lia⟩
  have ih := parts_subL x y z hw r (c + y.length) f k' h.2.2.2 hn (by have := h.1; lia)
  obtain ⟨p, q, hpq⟩ := partsFrom_ne x y.length (c + y.length) r
  have hL : (Txt.join z (partsFrom x y.length a (c :: r))).cps.toList = (strSub x a c).cps.toList ++ z.cps.toList ++ (Txt.join z (partsFrom x y.length (c + y.length) r)).cps.toList := by
   show (Txt.join z (strSub x a c :: partsFrom x y.length (c + y.length) r)).cps.toList = _
   rw [join_list', join_list', hpq]
   rfl
  rw [hL, ih, sub_list]
  have hq : Qbl (fun j => decide (j + y.length <= x.length) && subAt x y j) (x.cps.toList.length - a) a = some c := by
   cases q : Qbl (fun j => decide (j + y.length <= x.length) && subAt x y j) (x.cps.toList.length - a) a with
   | none =>
    have := firstP_none q c h.1 (by rw [Qal]; have := h.1; lia)
    simp only [Bool.and_eq_false_iff, decide_eq_false_iff_not] at this
    rcases this with t | t
    ·exact absurd hc t
    ·rw [h.2.1.2] at t; cases t
   | some j =>
    obtain ⟨g1, g2, g3, g4⟩ := Qct q
    simp only [Bool.and_eq_true, decide_eq_true_eq] at g3
    rcases Nat.lt_trichotomy j c with hj | hj | hj
    ·exact absurd ⟨g3.1, g3.2⟩ (h.2.2.1 j g1 hj)
    ·rw [hj]
    ·have := g4 c h.1 hj
     simp only [Bool.and_eq_false_iff, decide_eq_false_iff_not] at this
     rcases this with t | t
     ·exact absurd hc t
     ·rw [h.2.1.2] at t; cases t
  show _ = (match Qbl _ (x.cps.toList.length - a) a with | some j => _ | none => _)
  rw [hq]
theorem replace_list (x y z : Str) (hw : 1 <= y.length) : (Txt.replace x y z).cps.toList = subL (fun j => decide (j + y.length <= x.length) && subAt x y j) (fun _ => y.length) z.cps.toList x.cps.toList x.length 0 := by
 obtain ⟨f, hch, hn⟩ := occ_tight x y hw
 have key := parts_subL x y z hw _ 0 f x.length hch hn (by lia)
 unfold Txt.replace
 split
 ·rename_i he
  have he' : occurrences x y 0 x.length (x.length + 1) = [] := by
   simp only [Bool.or_eq_true, Bool.and_eq_true, beq_iff_eq] at he
   rcases he with he | he
   ·simpa using he
   ·lia
  rw [he'] at key
  rw [← key]
  show _ = (strSub x 0 x.length).cps.toList
  rw [sub_list, List.drop_zero, List.take_of_length_le (by rw [Qal]; lia)]
 ·rw [partsBetween_eq]; exact key
end
section
set_option tactic.hygienic false
open Builtin.Str StrLaws
noncomputable def Qda : Bool -> List Nat -> List Nat
 | _, [] => []
 | b, c :: r => if b && c == 10 then Qda false r else if c == 13 then 10 :: Qda true r else c :: Qda false r
noncomputable def r1L : List Nat -> List Nat
 | [] => []
 | [c] => [c]
 | c :: d :: r => if c == 13 && d == 10 then 10 :: r1L r else c :: r1L (d :: r)
noncomputable def r2L (l : List Nat) : List Nat := l.map fun c => if c == 13 then 10 else c
noncomputable def crlfL : List Nat -> List Nat
 | [] => []
 | c :: r => if c == 10 then 13 :: 10 :: crlfL r else c :: crlfL r
noncomputable def cq : Bool -> List Nat -> Nat
 | _, [] => 0
 | b, c :: r => if b && c == 46 then cq false r + 1 else cq (c == 10 || c == 13) r
theorem normG_ne {l : List Nat} (h : l.head? ≠ some 10) : Qda true l = Qda false l := by
 cases l with
 | nil => rfl
 | cons c r =>
  have : (c == 10) = false := by simpa using h
  unfold Qda
  simp [this]
theorem norm_eq : ∀ (l : List Nat), r2L (r1L l) = Qda false l
 | [] => rfl
 | [c] => by
  by_cases h : c = 13
  ·subst h; rfl
  ·have : (c == 13) = false := by simpa using h
   show (if (c == 13) = true then 10 else c) :: [] = (if (c == 13) = true then 10 :: Qda true [] else c :: Qda false [])
   rw [this]; rfl
 | c :: d :: r => by
  have h1 := norm_eq r
  have h2 := norm_eq (d :: r)
  unfold r1L
  rw [Qda]
  by_cases h : c = 13
  ·subst h
   by_cases h' : d = 10
   ·subst h'
    simp only [beq_self_eq_true, Bool.and_self, if_true, Bool.false_and, Bool.false_eq_true, if_false]
    have e : Qda true (10 :: r) = Qda false r := by rw [Qda]; simp
    rw [e, ← h1]
    rfl
   ·have hd : (d == 10) = false := by simpa using h'
    have hd2 : (((13 : Nat) == 13) && d == 10) = false := by rw [hd]; rfl
    rw [hd2]
    simp only [Bool.false_and, Bool.false_eq_true, if_false, beq_self_eq_true, if_true]
    rw [normG_ne (by simpa using h'), ← h2]
    rfl
  ·have hc : (c == 13) = false := by simpa using h
   rw [hc]
   simp only [Bool.false_and, Bool.false_eq_true, if_false]
   rw [← h2]
   unfold r2L
   rw [List.map_cons, hc]
   rfl
theorem at_len {x y : Str} {j : Nat} (hy : 1 <= y.length) : (decide (j + y.length <= x.length) && subAt x y j) = decide ((x.cps.toList.drop j).take y.length = y.cps.toList) := by
 rw [Bool.eq_iff_iff]
 simp only [Bool.and_eq_true, decide_eq_true_eq]
 rw [subAt_eq]
 constructor
 ·rintro ⟨_, h⟩
  exact eq_of_beq h
 ·intro h
  refine ⟨?_, by rw [h]; simp⟩
  have := congrArg List.length h
  rw [List.length_take, List.length_drop, Qal, Qal] at this
  lia
theorem r1_eq (x : Str) : (Txt.replace x "\r\n" "\n").cps.toList = r1L x.cps.toList := by
 rw [replace_list x _ _ (by decide)]
 have key : ∀ (k d : Nat), x.length - d <= k -> subL (fun j => decide (j + ("\r\n" : Str).length <= x.length) && subAt x "\r\n" j) (fun _ => ("\r\n" : Str).length) ("\n" : Str).cps.toList x.cps.toList k d = r1L (x.cps.toList.drop d) := by
  intro k
  induction k with
  | zero =>
   intro d hk
   rw [Qec (by rw [Qal]; exact sb0 hk), List.drop_of_length_le (by rw [Qal]; exact sb0 hk)]; rfl
  | succ k ih =>
   intro d hk
   have hp : (decide (d + ("\r\n" : Str).length <= x.length) && subAt x "\r\n" d) = decide ((x.cps.toList.drop d).take 2 = [13, 10]) := at_len (by decide)
   cases e : x.cps.toList.drop d with
   | nil =>
    have : x.cps.toList.length <= d := by simpa using e
    rw [Qec this]; rfl
   | cons c r =>
    obtain ⟨h1, h2, h3⟩ := Qfp e
    rw [Qal] at h2
    cases r with
    | nil =>
     have hp' : (decide (d + ("\r\n" : Str).length <= x.length) && subAt x "\r\n" d) = false := by rw [hp, e]; simp
     rw [subL_next (by rw [Qal]; exact h2) hp', e, Qfk (fun _ _ _ => by decide) _ _ (by rw [Qal]; exact sbk hk), ih (d + 1) (sbk hk), h3]
     rfl
    | cons c2 r2 =>
     obtain ⟨g1, g2, g3⟩ := Qfp h3
     by_cases hc : c = 13 /\ c2 = 10
     ·obtain ⟨rfl, rfl⟩ := hc
      have hp' : (decide (d + ("\r\n" : Str).length <= x.length) && subAt x "\r\n" d) = true := by rw [hp, e]; simp
      rw [subL_here (by rw [Qal]; exact h2) hp']
      have : subL (fun j => decide (j + ("\r\n" : Str).length <= x.length) && subAt x "\r\n" j) (fun _ => ("\r\n" : Str).length) ("\n" : Str).cps.toList x.cps.toList k (d + ("\r\n" : Str).length) = r1L r2 := by
       have := ih (d + 2) (sbk2 hk)
       rw [show x.cps.toList.drop (d + 2) = r2 from g3] at this
       exact this
      rw [this]
      conv => rhs; unfold r1L
      rfl
     ·have hp' : (decide (d + ("\r\n" : Str).length <= x.length) && subAt x "\r\n" d) = false := by rw [hp, e]; simpa using hc
      rw [subL_next (by rw [Qal]; exact h2) hp', e, Qfk (fun _ _ _ => by decide) _ _ (by rw [Qal]; exact sbk hk), ih (d + 1) (sbk hk), h3]
      have : (c == 13 && c2 == 10) = false := by
       rw [Bool.and_eq_false_iff]
       by_cases h13 : c = 13
       ·right; simpa using fun q => hc ⟨h13, q⟩
       ·left; simpa using h13
      conv => rhs; unfold r1L
      rw [this]
      rfl
 have := key x.length 0 (by lia)
 rw [List.drop_zero] at this
 exact this
theorem r2_eq (x : Str) : (Txt.replace x "\r" "\n").cps.toList = r2L x.cps.toList := by
 rw [replace_list x _ _ (by decide)]
 have key : ∀ (k d : Nat), x.length - d <= k -> subL (fun j => decide (j + ("\r" : Str).length <= x.length) && subAt x "\r" j) (fun _ => ("\r" : Str).length) ("\n" : Str).cps.toList x.cps.toList k d = r2L (x.cps.toList.drop d) := by
  intro k
  induction k with
  | zero =>
   intro d hk
   rw [Qec (by rw [Qal]; exact sb0 hk), List.drop_of_length_le (by rw [Qal]; exact sb0 hk)]; rfl
  | succ k ih =>
   intro d hk
   have hp : (decide (d + ("\r" : Str).length <= x.length) && subAt x "\r" d) = decide ((x.cps.toList.drop d).take 1 = [13]) := at_len (by decide)
   cases e : x.cps.toList.drop d with
   | nil =>
    have : x.cps.toList.length <= d := by simpa using e
    rw [Qec this]; rfl
   | cons c r =>
    obtain ⟨h1, h2, h3⟩ := Qfp e
    rw [Qal] at h2
    by_cases hc : c = 13
    ·subst hc
     have hp' : (decide (d + ("\r" : Str).length <= x.length) && subAt x "\r" d) = true := by rw [hp, e]; simp
     rw [subL_here (by rw [Qal]; exact h2) hp']
     have : subL (fun j => decide (j + ("\r" : Str).length <= x.length) && subAt x "\r" j) (fun _ => ("\r" : Str).length) ("\n" : Str).cps.toList x.cps.toList k (d + ("\r" : Str).length) = r2L r := by
      have := ih (d + 1) (sbk hk)
      rw [h3] at this
      exact this
     rw [this]
     rfl
    ·have hp' : (decide (d + ("\r" : Str).length <= x.length) && subAt x "\r" d) = false := by rw [hp, e]; simpa using hc
     rw [subL_next (by rw [Qal]; exact h2) hp', e, Qfk (fun _ _ _ => by decide) _ _ (by rw [Qal]; exact sbk hk), ih (d + 1) (sbk hk), h3]
     have : (c == 13) = false := by simpa using hc
     unfold r2L
     rw [List.map_cons, this]
     rfl
 have := key x.length 0 (by lia)
 rw [List.drop_zero] at this
 exact this
theorem quote_nl (b : Bool) (r : List Nat) : Qau b (13 :: 10 :: r) = 13 :: 10 :: Qau true r := by cases b <;> rfl
theorem norm_text (x : Str) : (Txt.replace (Txt.replace x "\r\n" "\n") "\r" "\n").cps.toList = Qda false x.cps.toList := by rw [r2_eq, r1_eq, norm_eq]
theorem fix_norm : ∀ (l : List Nat) (b : Bool), Qch b l = crlfL (Qda b l)
 | [], _ => rfl
 | c :: r, b => by
  have h0 := fix_norm r false
  have h1 := fix_norm r true
  unfold Qch Qda
  split
  ·exact h0
  ·split
   ·rw [h1]; rfl
   ·split
    ·rename_i h; rw [h0, crlfL, if_pos h]
    ·rename_i h; rw [h0, crlfL, if_neg h]
theorem joinL_cons {g : List Nat} {a : List Nat} {l : List (List Nat)} (h : l ≠ []) : Qew g (a :: l) = a ++ g ++ Qew g l := by
 cases l with
 | nil => exact absurd rfl h
 | cons b r => rfl
theorem Qcx {g : List Nat} {c : Nat} {h : List Nat} {t : List (List Nat)} : Qew g ((c :: h) :: t) = c :: Qew g (h :: t) := by
 cases t with
 | nil => rfl
 | cons b r => rfl
theorem crlf_rows : ∀ (l : List Nat), crlfL l = Qew [13, 10] (Qbt 10 l)
 | [] => rfl
 | c :: r => by
  have ih := crlf_rows r
  obtain ⟨h, t, e⟩ := splitL_ne 10 r
  unfold crlfL Qbt
  rw [ih, e]
  split
  ·rw [joinL_cons (a := []) (l := h :: t) (by simp)]; rfl
  ·rw [Qcx]
noncomputable def dotRows (b : Bool) : List (List Nat) -> List (List Nat)
 | [] => []
 | h :: t => (if b then dotL h else h) :: t.map dotL
theorem Qff (l : List (List Nat)) : dotRows true l = l.map dotL := by cases l <;> rfl
theorem quote_crlf : ∀ (l : List Nat) (b : Bool), 13 ∉ l -> Qau b (crlfL l) = Qew [13, 10] (dotRows b (Qbt 10 l))
 | [], b, _ => by cases b <;> rfl
 | c :: r, b, hn => by
  rw [List.mem_cons, not_or] at hn
  obtain ⟨h, t, e⟩ := splitL_ne 10 r
  unfold crlfL Qbt
  rw [e]
  by_cases hc : c = 10
  ·subst hc
   simp only [beq_self_eq_true, if_true]
   have ih := quote_crlf r true hn.2
   rw [e] at ih
   have e1 := quote_nl b (crlfL r)
   have e2 : dotRows b ([] :: h :: t) = [] :: (h :: t).map dotL := by cases b <;> rfl
   rw [e1, ih, e2, Qff, joinL_cons (a := []) (l := (h :: t).map dotL) (by simp)]
   rfl
  ·have hc' : (c == 10) = false := by simpa using hc
   rw [hc', if_neg Bool.false_ne_true, if_neg Bool.false_ne_true]
   have ih := quote_crlf r false hn.2
   rw [e] at ih
   have e2 : dotRows false (h :: t) = h :: t.map dotL := rfl
   rw [e2] at ih
   unfold Qau
   cases b with
   | false =>
    rw [hc']
    simp only [Bool.false_and, Bool.false_eq_true, if_false]
    show c :: Qau false (crlfL r) = Qew [13, 10] ((c :: h) :: t.map dotL)
    rw [ih, Qcx]
   | true =>
    by_cases h46 : c = 46
    ·subst h46
     show 46 :: 46 :: Qau false (crlfL r) = Qew [13, 10] ((46 :: 46 :: h) :: t.map dotL)
     rw [ih, Qcx, Qcx]
    ·have h46' : (c == 46) = false := by simpa using h46
     rw [h46', hc']
     have ed : dotL (c :: h) = c :: h := by unfold dotL; rw [if_neg (by simpa using h46)]
     show c :: Qau false (crlfL r) = Qew [13, 10] (dotL (c :: h) :: t.map dotL)
     rw [ih, ed, Qcx]
theorem quote_rows : ∀ (l : List Nat) (b : Bool), Qau b l = Qew [10] (dotRows b (Qbt 10 l))
 | [], b => by cases b <;> rfl
 | c :: r, b => by
  obtain ⟨h, t, e⟩ := splitL_ne 10 r
  unfold Qbt
  rw [e]
  by_cases hc : c = 10
  ·subst hc
   simp only [beq_self_eq_true, if_true]
   have ih := quote_rows r true
   rw [e] at ih
   have e1 : Qau b (10 :: r) = 10 :: Qau true r := by rw [Qau]; simp
   have e2 : dotRows b ([] :: h :: t) = [] :: (h :: t).map dotL := by cases b <;> rfl
   rw [e1, ih, e2, Qff, joinL_cons (a := []) (l := (h :: t).map dotL) (by simp)]
   rfl
  ·have hc' : (c == 10) = false := by simpa using hc
   rw [hc', if_neg Bool.false_ne_true]
   have ih := quote_rows r false
   rw [e] at ih
   have e2 : dotRows false (h :: t) = h :: t.map dotL := rfl
   rw [e2] at ih
   unfold Qau
   cases b with
   | false =>
    rw [hc']
    simp only [Bool.false_and, Bool.false_eq_true, if_false]
    show c :: Qau false r = Qew [10] ((c :: h) :: t.map dotL)
    rw [ih, Qcx]
   | true =>
    by_cases h46 : c = 46
    ·subst h46
     show 46 :: 46 :: Qau false r = Qew [10] ((46 :: 46 :: h) :: t.map dotL)
     rw [ih, Qcx, Qcx]
    ·have h46' : (c == 46) = false := by simpa using h46
     rw [h46', hc']
     have ed : dotL (c :: h) = c :: h := by unfold dotL; rw [if_neg (by simpa using h46)]
     show c :: Qau false r = Qew [10] (dotL (c :: h) :: t.map dotL)
     rw [ih, ed, Qcx]
theorem norm_no13 : ∀ (l : List Nat) (b : Bool), 13 ∉ Qda b l
 | [], _ => by simp [Qda]
 | c :: r, b => by
  have h0 := norm_no13 r false
  have h1 := norm_no13 r true
  unfold Qda
  split
  ·exact h0
  ·split
   ·simp [h1]
   ·rename_i h; simp only [List.mem_cons, not_or]; exact ⟨fun e => h (by rw [← e]; rfl), h0⟩
theorem quote_len : ∀ (l : List Nat) (b f : Bool), (f = true -> b = true) -> (Qau b (Qch f l)).length = (Qch f l).length + cq b l
 | [], _, _, _ => rfl
 | c :: r, b, f, hfb => by
  have ih := fun b f h => quote_len r b f h
  unfold Qch cq
  by_cases h10 : c = 10
  ·subst h10
   cases f with
   | true =>
    have : b = true := hfb rfl
    subst this
    simp only [beq_self_eq_true, Bool.and_self, if_true]
    rw [ih true false (fun h => nomatch h)]; rfl
   | false =>
    have e1 := quote_nl b (Qch false r)
    simp only [Bool.false_and, Bool.false_eq_true, if_false, beq_self_eq_true, if_true]
    show (Qau b (13 :: 10 :: Qch false r)).length = (13 :: 10 :: Qch false r).length + (if (b && false) = true then _ else cq true r)
    rw [e1, Bool.and_false, if_neg Bool.false_ne_true]
    simp only [List.length_cons]
    rw [ih true false (fun h => nomatch h)]; lia
  ·have h10' : (c == 10) = false := by simpa using h10
   rw [h10']
   simp only [Bool.and_false, Bool.false_eq_true, if_false, Bool.false_or]
   by_cases h13 : c = 13
   ·subst h13
    have e1 := quote_nl b (Qch true r)
    simp only [beq_self_eq_true, if_true]
    show (Qau b (13 :: 10 :: Qch true r)).length = (13 :: 10 :: Qch true r).length + (if (b && false) = true then _ else cq true r)
    rw [e1, Bool.and_false, if_neg Bool.false_ne_true]
    simp only [List.length_cons]
    rw [ih true true (fun h => rfl)]; lia
   ·have h13' : (c == 13) = false := by simpa using h13
    rw [h13']
    simp only [Bool.false_eq_true, if_false]
    unfold Qau
    rw [h10']
    split
    ·simp only [List.length_cons]; rw [ih false false (fun h => nomatch h)]; lia
    ·simp only [List.length_cons]; rw [ih false false (fun h => nomatch h)]; lia
theorem fix_app (B : List Nat) : ∀ (A : List Nat) (f : Bool), Qch f (A ++ 13 :: 10 :: B) = Qch f A ++ 13 :: 10 :: Qch false B
 | [], f => by
  show Qch f (13 :: 10 :: B) = 13 :: 10 :: Qch false B
  have e1 : Qch true (10 :: B) = Qch false B := by rw [Qch]; simp
  rw [Qch]
  simp [e1]
 | c :: r, f => by
  have h0 := fix_app B r false
  have h1 := fix_app B r true
  have e : ∀ l, Qch f (c :: l) = if (f && c == 10) = true then Qch false l else if (c == 13) = true then 13 :: 10 :: Qch true l else if (c == 10) = true then 13 :: 10 :: Qch false l else c :: Qch false l := fun _ => rfl
  show Qch f (c :: (r ++ 13 :: 10 :: B)) = _
  rw [e, e]
  split
  ·exact h0
  ·split
   ·rw [h1]; rfl
   ·split
    ·rw [h0]; rfl
    ·rw [h0]; rfl
theorem quote_app (B : List Nat) : ∀ (A : List Nat) (b : Bool), Qau b (A ++ 13 :: 10 :: B) = Qau b A ++ 13 :: 10 :: Qau true B
 | [], b => by
  exact quote_nl b B
 | c :: r, b => by
  have h0 := quote_app B r false
  have h1 := quote_app B r (c == 10)
  have e : ∀ l, Qau b (c :: l) = if (b && c == 46) = true then 46 :: 46 :: Qau false l else c :: Qau (c == 10) l := fun _ => rfl
  show Qau b (c :: (r ++ 13 :: 10 :: B)) = _
  rw [e, e]
  split
  ·rw [h0]; rfl
  ·rw [h1]; rfl
end
section
set_option tactic.hygienic false
open Builtin.Str StrLaws
noncomputable def cellL (u v h : Int) (e : List Nat) : List Nat := if u <= h then [46] else if h < v then e else []
noncomputable def Qfn (u v : Int) (cells : List (Int × List Nat)) : List Nat := (cells.map fun p => cellL u v p.1 p.2).flatten
noncomputable def menuL : List (List Nat) := [[10], [13], [13, 10], [32, 10], [97, 13], [11, 13, 10]]
noncomputable def sch (u v : Int) : Bool -> List Int -> Nat
 | _, [] => 0
 | b, h :: r => if u <= h then (if b then sch u v false r + 1 else sch u v false r) else if h < v then sch u v true r else sch u v b r
theorem cq_end {e : List Nat} (he : e ∈ menuL) (b : Bool) (r : List Nat) : cq b (e ++ r) = cq true r := by
 simp only [menuL, List.mem_cons, List.not_mem_nil, or_false] at he
 rcases he with rfl | rfl | rfl | rfl | rfl | rfl <;> cases b <;> rfl
theorem cq_mail {u v : Int} : ∀ (cells : List (Int × List Nat)) (b : Bool), (∀ p ∈ cells, p.2 ∈ menuL) -> cq b (Qfn u v cells) = sch u v b (cells.map (·.1))
 | [], _, _ => rfl
 | (h, e) :: r, b, hm => by
  have ih := fun b => cq_mail (u := u) (v := v) r b fun p hp => hm p (List.mem_cons_of_mem _ hp)
  have em : Qfn u v ((h, e) :: r) = cellL u v h e ++ Qfn u v r := rfl
  rw [em, List.map_cons]
  unfold cellL sch
  split
  ·cases b with
   | true => show cq false (Qfn u v r) + 1 = _; rw [ih]; rfl
   | false => show cq false (Qfn u v r) = _; rw [ih]; rfl
  ·split
   ·rw [cq_end (hm _ List.mem_cons_self), ih]
   ·exact ih b
theorem mail_len {u v : Int} : ∀ (cells : List (Int × List Nat)), (∀ p ∈ cells, p.2 ∈ menuL) -> (Qfn u v cells).length <= 3 * cells.length
 | [], _ => Nat.le_refl _
 | (h, e) :: r, hm => by
  have ih := mail_len (u := u) (v := v) r fun p hp => hm p (List.mem_cons_of_mem _ hp)
  have em : Qfn u v ((h, e) :: r) = cellL u v h e ++ Qfn u v r := rfl
  have hc : (cellL u v h e).length <= 3 := by
   have he := hm _ List.mem_cons_self
   simp only [menuL, List.mem_cons, List.not_mem_nil, or_false] at he
   unfold cellL
   split
   ·simp
   ·split
    ·rcases he with rfl | rfl | rfl | rfl | rfl | rfl <;> simp
    ·simp
  rw [em, List.length_append, List.length_cons]
  lia
theorem mail_sign {u v : Int} : ∀ (cells : List (Int × List Nat)), (∀ p ∈ cells, p.2 ∈ menuL) -> ∀ c ∈ Qfn u v cells, c < 256
 | [], _, c, h => by cases h
 | (h, e) :: r, hm, c, hc => by
  have em : Qfn u v ((h, e) :: r) = cellL u v h e ++ Qfn u v r := rfl
  rw [em, List.mem_append] at hc
  rcases hc with hc | hc
  ·have he := hm _ List.mem_cons_self
   simp only [menuL, List.mem_cons, List.not_mem_nil, or_false] at he
   unfold cellL at hc
   split at hc
   ·simp at hc; lia
   ·split at hc
    ·rcases he with rfl | rfl | rfl | rfl | rfl | rfl <;> simp at hc <;> lia
    ·cases hc
  ·exact mail_sign r (fun p hp => hm p (List.mem_cons_of_mem _ hp)) c hc
theorem fixG_sign : ∀ (l : List Nat) (b : Bool), (∀ c ∈ l, c < 256) -> ∀ c ∈ Qch b l, c < 256
 | [], _, _, c, h => by cases h
 | d :: r, b, hl, c, h => by
  have hr : ∀ c ∈ r, c < 256 := fun c hc => hl c (List.mem_cons_of_mem _ hc)
  have h0 := fixG_sign r false hr
  have h1 := fixG_sign r true hr
  have hd := hl d List.mem_cons_self
  unfold Qch at h
  split at h
  ·exact h0 c h
  ·split at h
   ·simp only [List.mem_cons] at h; rcases h with rfl | rfl | h
    ·lia
    ·lia
    ·exact h1 c h
   ·split at h
    ·simp only [List.mem_cons] at h; rcases h with rfl | rfl | h
     ·lia
     ·lia
     ·exact h0 c h
    ·simp only [List.mem_cons] at h; rcases h with rfl | h
     ·exact hd
     ·exact h0 c h
theorem quoteL_sign : ∀ (l : List Nat) (b : Bool), (∀ c ∈ l, c < 256) -> ∀ c ∈ Qau b l, c < 256
 | [], _, _, c, h => by cases h
 | d :: r, b, hl, c, h => by
  have hr : ∀ c ∈ r, c < 256 := fun c hc => hl c (List.mem_cons_of_mem _ hc)
  have hd := hl d List.mem_cons_self
  unfold Qau at h
  split at h
  ·simp only [List.mem_cons] at h; rcases h with rfl | rfl | h
   ·lia
   ·lia
   ·exact quoteL_sign r false hr c h
  ·simp only [List.mem_cons] at h; rcases h with rfl | h
   ·exact hd
   ·exact quoteL_sign r _ hr c h
section
variable (high lv : List Int) (cells : List (Int × List Nat))
noncomputable abbrev Qae (a : Nat) : Int := lv.getD a 0
noncomputable def Rn (b : Nat) : Nat -> Int
 | 0 => 0
 | a + 1 => (sch (Qae lv a) (Qae lv b) true high : Nat)
noncomputable def Ea (b a : Nat) : Int := Rn high lv b (a + 1) - Rn high lv b a
noncomputable def nowF (b k : Nat) : List Int := (List.range k).map (Ea high lv b)
theorem nowF_sum (b k : Nat) : (nowF high lv b k).sum = Rn high lv b k := by
 induction k with
 | zero => rfl
 | succ k ih =>
  unfold nowF at ih ⊢
  rw [List.range_succ, List.map_append, List.sum_append, ih]
  simp [Ea]; lia
noncomputable def Qen (b : Nat) : List (Nat × Int) := ((List.range b).filter fun a => Ea high lv b a != Ea high lv (b - 1) a).map fun a => (a, Ea high lv (b - 1) a - Ea high lv b a)
noncomputable def Qfe (b : Nat) : List (Int × CV) := Qcv (fun g : Nat × Int => Qae lv g.1 - Qae lv b) (fun g => CV.i g.2) (Qen high lv b)
noncomputable def Qcy (k : Nat) : List (Int × CV) := (List.range k).foldl (fun T b => acF T (Qfe high lv b)) []
noncomputable def fourF (b : Nat) (g : Nat × Int) : CV := .t [g.2, g.2 * Qae lv g.1, g.2 * Qae lv b, g.2 * (Qae lv g.1 - Qae lv b)]
noncomputable def Qea (b : Nat) (g : Nat × Int) : List (Int × CV) := Qdb (Qdb [] (Qae lv g.1) (fourF lv b g)) (Qae lv b) (fourF lv b g)
noncomputable def Qev (T : List (Int × CV)) (b : Nat) (l : List (Nat × Int)) : List (Int × CV) := l.foldl (fun T g => acF T (Qea lv b g)) T
noncomputable def Qcz (k : Nat) : List (Int × CV) := (List.range k).foldl (fun T b => Qev lv T b (Qen high lv b)) []
noncomputable def Qfc (b : Nat) : List Nat := Qfn (Qae lv b) (Qae lv b) cells
noncomputable def rawL (k : Nat) : List Nat := ((List.range k).map fun b => Qfc lv cells b ++ [13, 10]).flatten
noncomputable def Qdx (k : Nat) : List Nat := ((List.range k).map fun b => Qch false (Qfc lv cells b) ++ [13, 10]).flatten
noncomputable def Qdh (k : Nat) : List Nat := ((List.range k).map fun b => Qau true (Qch false (Qfc lv cells b)) ++ [13, 10]).flatten
theorem fix_raw (k : Nat) : Qch false (rawL lv cells k) = Qdx lv cells k := by
 unfold rawL Qdx
 generalize List.range k = l
 induction l with
 | nil => rfl
 | cons b l ih =>
  rw [List.map_cons, List.flatten_cons, List.map_cons, List.flatten_cons, List.append_assoc, List.append_assoc]
  have e := fix_app ((l.map fun b => Qfc lv cells b ++ [13, 10]).flatten) (Qfc lv cells b) false
  rw [ih] at e
  exact e
theorem quote_plain (k : Nat) : Qau true (Qdx lv cells k) = Qdh lv cells k := by
 unfold Qdx Qdh
 generalize List.range k = l
 induction l with
 | nil => rfl
 | cons b l ih =>
  rw [List.map_cons, List.flatten_cons, List.map_cons, List.flatten_cons, List.append_assoc, List.append_assoc]
  have e := quote_app ((l.map fun b => Qch false (Qfc lv cells b) ++ [13, 10]).flatten) (Qch false (Qfc lv cells b)) true
  rw [ih] at e
  exact e
theorem flat_len {l : List Nat} {f : Nat -> List Nat} {c : Nat} (h : ∀ b, (f b).length <= c) : ((l.map f).flatten).length <= c * l.length := by
 induction l with
 | nil => simp
 | cons b l ih =>
  rw [List.map_cons, List.flatten_cons, List.length_append, List.length_cons]
  have h1 := h b
  have h2 : c * (l.length + 1) = c * l.length + c := Nat.mul_succ c l.length
  lia
theorem raw_len (k : Nat) (hm : ∀ p ∈ cells, p.2 ∈ menuL) : (rawL lv cells k).length <= (3 * cells.length + 2) * k := by
 have := flat_len (l := List.range k) (f := fun b => Qfc lv cells b ++ [13, 10]) (c := 3 * cells.length + 2) fun b => by
  have := mail_len (u := Qae lv b) (v := Qae lv b) cells hm
  rw [List.length_append]; unfold Qfc; simp only [List.length_cons, List.length_nil]; lia
 rw [List.length_range] at this; exact this
theorem plain_len (k : Nat) (hm : ∀ p ∈ cells, p.2 ∈ menuL) : (Qdx lv cells k).length <= (6 * cells.length + 2) * k := by
 have := flat_len (l := List.range k) (f := fun b => Qch false (Qfc lv cells b) ++ [13, 10]) (c := 6 * cells.length + 2) fun b => by
  have h1 := mail_len (u := Qae lv b) (v := Qae lv b) cells hm
  have h2 := fixG_len false (Qfc lv cells b)
  unfold Qfc at h2 ⊢
  rw [List.length_append]; simp only [List.length_cons, List.length_nil]; lia
 rw [List.length_range] at this; exact this
theorem posted_len (k : Nat) (hm : ∀ p ∈ cells, p.2 ∈ menuL) : (Qdh lv cells k).length <= (12 * cells.length + 2) * k := by
 have := flat_len (l := List.range k) (f := fun b => Qau true (Qch false (Qfc lv cells b)) ++ [13, 10]) (c := 12 * cells.length + 2) fun b => by
  have h1 := mail_len (u := Qae lv b) (v := Qae lv b) cells hm
  have h2 := fixG_len false (Qfc lv cells b)
  have h3 := Qfl true (Qch false (Qfc lv cells b))
  unfold Qfc at h2 h3 ⊢
  rw [List.length_append]; simp only [List.length_cons, List.length_nil]; lia
 rw [List.length_range] at this; exact this
theorem raw_sign (k : Nat) (hm : ∀ p ∈ cells, p.2 ∈ menuL) : ∀ c ∈ rawL lv cells k, c < 256 := by
 intro c hc
 unfold rawL at hc
 rw [List.mem_flatten] at hc
 obtain ⟨l, hl, hc⟩ := hc
 rw [List.mem_map] at hl
 obtain ⟨b, _, rfl⟩ := hl
 rw [List.mem_append] at hc
 rcases hc with hc | hc
 ·exact mail_sign _ hm c hc
 ·simp at hc; lia
theorem plain_sign (k : Nat) (hm : ∀ p ∈ cells, p.2 ∈ menuL) : ∀ c ∈ Qdx lv cells k, c < 256 := by
 rw [← fix_raw]
 exact fixG_sign _ _ (raw_sign lv cells k hm)
end
end
section
set_option tactic.hygienic false
theorem ev_dict0 {pos : Pos} : Ev C n nm ρ ow (.Dict [] [] pos) (.dctI []) := by
 intro A Xo env oa s rm st ok
 refine wpAny_Dict_empty ?_
 refine ⟨st.of_keep Qaa rfl rfl, fun b o _ e => Qaa b o e, ?_⟩
 exact ⟨_, [], rfl, ⟨ok.lowX.fresh, new_ne_sys st Qbg⟩, ⟨⟨_, #[], 0, Heap.get?_push_size _ rfl, ⟨rfl, rfl, rfl⟩, rfl, fun _ he => by simp at he, Pairs.nil, List.nodup_nil⟩, _, Heap.get?_push_size _ rfl, rfl⟩, rfl⟩
theorem Qdp (m : Nat) (h : m <= 1000) : Qek (.rng 0 (m : Int) 1) = some ((List.range m).map fun (i : Nat) => .int (i : Int)) := by
 have hfit : ∀ i : Int, 0 <= i -> i <= 1000 -> Builtin.Range.rangeFitsLong i = true := fun i h0 h1 => by
  unfold Builtin.Range.rangeFitsLong
  simp only [Bool.and_eq_true, decide_eq_true_eq]
  lia
 have hs : Builtin.Range.rangeSize 0 (m : Int) 1 = m := by
  unfold Builtin.Range.rangeSize
  by_cases h0 : 0 < m
  ·simp [h0]
  ·have : m = 0 := by lia
   subst this; rfl
 have h1 : Builtin.Range.small 0 (m : Int) 1 = true := by
  unfold Builtin.Range.small
  rw [hs]
  simp only [Bool.and_eq_true, Bool.or_eq_true]
  refine ⟨⟨⟨⟨hfit 0 (by lia) (by lia), hfit m (by lia) (by lia)⟩, hfit 1 (by lia) (by lia)⟩, hfit m (by lia) (by lia)⟩, .inr ?_⟩
  show Builtin.Range.rangeFitsLong ((m : Int) + (1 - 1)) = true
  exact hfit _ (by lia) (by lia)
 have h2 : (Builtin.Range.rangeSize 0 (m : Int) 1).toNat = m := by rw [hs]; rfl
 rw [items_rng h1, h2]
 refine congrArg some (List.map_congr_left fun i _ => ?_)
 rw [Int.zero_add, Int.mul_one]
theorem ev_rng (G : Gl C) {e : Expr} {np pos : Pos} {b : Int} (hx : gloB nm "range" = true) (h : Ev C n nm ρ ow e (.int b)) (hp : ∀ env, (backTo pos (starEach [e] env)).any (·.1) = false := by k_all) (hs : ∀ env, starEach [e] env = [(false, eval e env)] := by k_all) :
  Ev C n nm ρ ow (.Call (.Name "range" np) [e] [] pos) (.rng 0 b 1) := Qbh G.b_range Qcj hx (Qaw h hs) opF_range1 (by decide +kernel) hp
theorem ev_len (G : Gl C) {e : Expr} {np pos : Pos} {l : List PV} (hx : gloB nm "len" = true) (h : Ev C n nm ρ ow e (.lst l)) (hz : l.length <= sizeLine) (hp : ∀ env, (backTo pos (starEach [e] env)).any (·.1) = false := by k_all) (hs : ∀ env, starEach [e] env = [(false, eval e env)] := by k_all) :
  Ev C n nm ρ ow (.Call (.Name "len" np) [e] [] pos) (.int (l.length : Nat)) := Qbh G.b_len Qaq hx (Qaw h hs) (opF_len_lst hz) (by decide +kernel) hp
theorem ev_slen (G : Gl C) {e : Expr} {np pos : Pos} {x : Str} (hx : gloB nm "len" = true) (h : Ev C n nm ρ ow e (.str x)) (hz : x.length <= sizeLine) (hp : ∀ env, (backTo pos (starEach [e] env)).any (·.1) = false := by k_all) (hs : ∀ env, starEach [e] env = [(false, eval e env)] := by k_all) :
  Ev C n nm ρ ow (.Call (.Name "len" np) [e] [] pos) (.int (x.length : Nat)) := Qbh G.b_len Qaq hx (Qaw h hs) (opF_len_str hz) (by decide +kernel) hp
theorem strL_list (x : Str) : Qbd x.cps.toList = x := by
 obtain ⟨a⟩ := x
 simp [Qbd]
theorem Qce (l : List Nat) : (Qbd l).cps.toList = l := by simp [Qbd]
theorem Qcg (l : List Nat) : (Qbd l).length = l.length := by rw [← Qal, Qce]
theorem strL_app (l m : List Nat) : Qbd l ++ Qbd m = Qbd (l ++ m) := by
 apply str_eq
 rw [Str.cps_append, Array.toList_append, Qce, Qce, Qce]
theorem join_strL (g : Str) (rows : List (List Nat)) : Txt.join g (rows.map Qbd) = Qbd (Qew g.cps.toList rows) := by
 apply str_eq
 rw [join_list', Qce, List.map_map]
 congr 1
 conv => rhs; rw [← List.map_id rows]
 apply List.map_congr_left
 intro r _
 exact Qce r
theorem split_strL (x : Str) : Txt.split x "\n" = (Qbt 10 x.cps.toList).map Qbd := by
 have h := split_list x 10 (by decide)
 have e : (⟨#[10]⟩ : Str) = "\n" := by decide +kernel
 rw [e] at h
 rw [← h, List.map_map]
 conv => lhs; rw [← List.map_id (Txt.split x "\n")]
 apply List.map_congr_left
 intro r _
 exact (strL_list r).symm
theorem splitL_len (c : Nat) : ∀ (l : List Nat), (Qbt c l).length <= l.length + 1 /\ ((Qbt c l).map List.length).sum <= l.length
 | [] => ⟨Nat.le_refl _, Nat.le_refl _⟩
 | x :: r => by
  have ih := splitL_len c r
  obtain ⟨h, t, e⟩ := splitL_ne c r
  unfold Qbt
  rw [e] at ih ⊢
  split
  ·simp only [List.length_cons, List.map_cons, List.sum_cons, List.length_nil] at ih ⊢; lia
  ·simp only [List.length_cons, List.map_cons, List.sum_cons] at ih ⊢; lia
theorem dot_len (l : List (List Nat)) : ((l.map dotL).map List.length).sum <= (l.map List.length).sum + l.length := by
 induction l with
 | nil => simp
 | cons a l ih =>
  have h1 : (dotL a).length <= a.length + 1 := by unfold dotL; split <;> simp
  simp only [List.map_cons, List.sum_cons, List.length_cons] at ih ⊢
  lia
theorem ev_joinL {g : Str} {k : Nat} {kp apos pos : Pos} {e : Expr} {rows : List (List Nat)} (h : Ev C n nm ρ ow e (.lst ((rows.map Qbd).map .str))) (hz : (rows.map List.length).sum + rows.length * g.length <= 16777216)
  (hl : ∀ env, starEach [e] env = [(false, eval e env)] := by k_all) (hline : (apos.endLine == pos.line) = true := by k_all) :
  Ev C n nm ρ ow (.Call (.Attribute (.Constant (.str g) k kp) "join" apos) [e] [] pos) (.str (Qbd (Qew g.cps.toList rows))) := by
 rw [← join_strL]
 refine ev_meth F.plainAttrs_str F.slot_str_join F.type_str_join Qdf (fun X s v r => tyV_str r) (Qaw h hl) (opF_join ?_) (by intro _; rfl) (fun env => by rw [hl]; rfl) hline (fun env => by rw [hl]; rfl) (fun env => by rw [hl]; rfl)
 rw [List.map_map, List.length_map]
 have : (rows.map (fun r => (Qbd r).length)) = rows.map List.length := List.map_congr_left fun r _ => Qcg r
 show (rows.map (fun r => (Qbd r).length)).sum + _ <= _
 rw [this]; exact hz
theorem ev_splitL {o : Expr} {k : Nat} {kp apos pos : Pos} {x : Str} (h : Ev C n nm ρ ow o (.str x)) (hz : x.length + 2 <= sizeLine)
  (hbase : ∀ env, attributeBase o "split" env (eval o env) = eval o env := by k_all) (hline : (apos.endLine == pos.line) = true := by k_all) :
  Ev C n nm ρ ow (.Call (.Attribute o "split" apos) [.Constant (.str "\n") k kp] [] pos) (.lst (((Qbt 10 x.cps.toList).map Qbd).map .str)) := by
 rw [← split_strL]
 refine ev_meth F.plainAttrs_str F.slot_str_split F.type_str_split h (fun X s v r => tyV_str r) (Qaw Qdf) (opF_split (by decide +kernel) (by lia) ?_) hbase (by intro _; rfl) hline
 rw [StrLaws.partsBetween_eq]
 have hlen : ∀ (w a : Nat) (cuts : List Nat), (StrLaws.partsFrom x w a cuts).length = cuts.length + 1 := by
  intro w a cuts
  induction cuts generalizing a with
  | nil => rfl
  | cons c r ih => show (StrLaws.partsFrom x w (c + w) r).length + 1 = _; rw [ih]; rfl
 rw [hlen]
 have := StrLaws.occ_length_le x "\n" 0 x.length (x.length + 1)
 lia
theorem dot_head {r : List Nat} : (Qfg (Qbd r) 1 == ("." : Str)) = decide (r.head? = some 46) := by
 have e : ("." : Str) = ⟨#[46]⟩ := by decide +kernel
 rw [Bool.eq_iff_iff, beq_iff_eq, decide_eq_true_eq, e]
 constructor
 ·intro h
  have := congrArg (fun x : Str => x.cps.toList) h
  simp only [takeS_list, Qce] at this
  cases r with
  | nil => simp at this
  | cons c r => simp at this; simp [this]
 ·intro h
  cases r with
  | nil => simp at h
  | cons c r =>
   simp at h
   subst h
   apply str_eq
   rw [takeS_list, Qce]; rfl
theorem ev_dotrows {rows : List (List Nat)} {iter : Expr} {sc : Scope} {k1 k2 k3 : Nat} {p1 p2 p3 p4 p5 p6 p7 p8 p9 p10 p11 p12 pos : Pos} (hit : EvIt C n nm ρ ow iter ((rows.map Qbd).map .str)) (hsc : Qdn nm sc = true) (hk1 : (Qdm sc.names "row" || Qdi sc.names "row") = true) (hk2 : Qdw sc.names "row" = false) (hk3 : Qdm sc.names "row" = true)
  (hz : rows.length <= sizeLine) (hz2 : ∀ r ∈ rows, r.length + 1 <= sizeLine) (hs : ∀ env x, foldedSetIterable iter env x = pure x := by k_all) :
  Ev C n nm ρ ow (.ListComp (.IfExp (.Compare (.Subscript (.Name "row" p1) (.Slice none (some (.Constant (.int 1) k1 p2)) none p3) p4) [.Eq] [.Constant (.str ".") k2 p5] p6) (.BinOp (.Constant (.str ".") k3 p7) .Add (.Name "row" p8) p9) (.Name "row" p10) p11) [⟨.Name "row" p12, iter, [], 0⟩] sc pos)
   (.lst (((rows.map dotL).map Qbd).map .str)) := by
 have hit' : EvIt C n nm ρ ow iter (rows.map fun r => .str (Qbd r)) := by rwa [List.map_map] at hit
 refine Ev.cast (Qas (l := rows) (pv := fun r => .str (Qbd r)) (f := fun r => .str (Qbd (dotL r))) (bd := fun r => [("row", .str (Qbd r))]) (p := fun _ => true) hit' Qac hsc (fun a => Qat hk1 hk2) ?_ hz hs) (by rw [Qap, List.map_map, List.map_map]; rfl)
 intro r hr
 refine ⟨Qbe, fun _ => ?_⟩
 have hzr := hz2 r hr
 have e1 : Ev C n sc.names (([("row", .str (Qbd r))] : Qbs) ++ Qer sc.names ρ) none (.Subscript (.Name "row" p1) (.Slice none (some (.Constant (.int 1) k1 p2)) none p3) p4) (.str (Qfg (Qbd r) 1)) := by
  have : Qfg (Qbd r) 1 = StrLaws.sliceText (Qbd r) none (some ((1 : Nat) : Int)) := (sliceText_take _ _).symm
  rw [this]
  exact ev_slice_str (Qab hk3 lk_here) (by trivial) Qag (by rw [Qcg]; lia)
 have t1 : Tv C n sc.names (([("row", .str (Qbd r))] : Qbs) ++ Qer sc.names ρ) none (.Compare (.Subscript (.Name "row" p1) (.Slice none (some (.Constant (.int 1) k1 p2)) none p3) p4) [.Eq] [.Constant (.str ".") k2 p5] p6) (decide (r.head? = some 46)) := Tv.cast (Qbk e1 Qdf opc_eq_str) dot_head
 have rw1 : Ev C n sc.names (([("row", .str (Qbd r))] : Qbs) ++ Qer sc.names ρ) none (.Name "row" p8) (.str (Qbd r)) := Qab hk3 lk_here
 have rw2 : Ev C n sc.names (([("row", .str (Qbd r))] : Qbs) ++ Qer sc.names ρ) none (.Name "row" p10) (.str (Qbd r)) := Qab hk3 lk_here
 have sz : ("." : Str).length + (Qbd r).length <= sizeLine := by
  rw [Qcg]
  have : ("." : Str).length = 1 := by decide +kernel
  lia
 have b1 : Ev C n sc.names (([("row", .str (Qbd r))] : Qbs) ++ Qer sc.names ρ) none (.BinOp (.Constant (.str ".") k3 p7) .Add (.Name "row" p8) p9) (.str ("." ++ Qbd r)) := Qaj Qdf rw1 (op_add_str sz)
 have e2 : Ev C n sc.names (([("row", .str (Qbd r))] : Qbs) ++ Qer sc.names ρ) none _ _ := Qge (pos := p11) t1 (fun _ => b1) (fun _ => rw2)
 refine Ev.cast e2 ?_
 unfold dotL
 by_cases h : r.head? = some 46
 ·rw [if_pos (by simpa using h), if_pos h]
  have e46 : ("." : Str) = Qbd [46] := by decide +kernel
  rw [e46, strL_app]; rfl
 ·rw [if_neg (by simpa using h), if_neg h]
end
section
set_option tactic.hygienic false
noncomputable def forBody (st : Stmt) : List Stmt := (parts st).1
noncomputable def outB : List Stmt := forBody (((Qax 72)[4]?).getD (.Pass default))
noncomputable def inB : List Stmt := forBody ((outB[1]?).getD (.Pass default))
noncomputable def inJ : List Stmt := forBody ((outB[5]?).getD (.Pass default))
section
variable (cells : List (Int × List Nat)) (lv : List Int)
noncomputable abbrev hiV : PV := .lst ((cells.map (·.1)).map .int)
noncomputable abbrev lvV : PV := .lst (lv.map .int)
noncomputable abbrev enV : PV := .lst (((cells.map (·.2)).map Qbd).map .str)
noncomputable abbrev dotV : PV := .lst (lv.map fun l => .lst ((cells.map (·.1)).map fun h => .bool (decide (256 <= 256 + h - l))))
noncomputable abbrev lowV : PV := .lst (lv.map fun l => .lst ((cells.map (·.1)).map fun h => .bool (decide (256 + h - l < 256))))
structure Ctx5 (fl : PV) (ρ : Qbs) : Prop where
 hi : Qbp ρ "high" = some (hiV cells)
 lvs : Qbp ρ "levels" = some (lvV lv)
 en : Qbp ρ "ends" = some (enV cells)
 dot : Qbp ρ "dots" = some (dotV cells lv)
 low : Qbp ρ "lows" = some (lowV cells lv)
 flt : Qbp ρ "faults" = some fl
structure Ctx6 (dl dj dd dr dp dq : PV) (ρ : Qbs) : Prop where
 l : Qbp ρ "lives" = some dl
 j : Qbp ρ "joins" = some dj
 d : Qbp ρ "old" = some dd
 r : Qbp ρ "raw" = some dr
 p : Qbp ρ "plain" = some dp
 q : Qbp ρ "posted" = some dq
end
theorem Qfx {α β : Type} (l : List α) (d : α) (f : α -> β) : (List.range l.length).map (fun k => f (l.getD k d)) = l.map f := by
 apply List.ext_getElem?
 intro i
 by_cases h : i < l.length
 ·simp [h]
 ·simp [h]
theorem joinL_nil : ∀ (l : List (List Nat)), Qew [] l = l.flatten
 | [] => rfl
 | [x] => by simp [Qew]
 | x :: y :: l => by rw [joinL_cons (by simp), joinL_nil (y :: l)]; simp
theorem le_sum_mem : ∀ {l : List Nat} {x : Nat}, x ∈ l -> x <= l.sum
 | [], _, h => by cases h
 | y :: l, x, h => by
  rw [List.sum_cons]
  rcases List.mem_cons.mp h with rfl | h
  ·lia
  ·have := le_sum_mem h; lia
theorem szc {k : Nat} (h : k <= 100000) : k <= sizeLine := by unfold sizeLine; lia
theorem inner_body (G : Gl C) (h4 : 4 <= n) {cells : List (Int × List Nat)} {lv : List Int} (hm : ∀ p ∈ cells, p.2 ∈ menuL) (hn : cells.length <= 30) (hl : lv.length <= 30) {fl dl dj dd dr dp dq : PV} {a b : Nat} (hab : a <= b) (hb : b < lv.length)
  (c5 : Ctx5 cells lv fl ρ) (c6 : Ctx6 dl dj dd dr dp dq ρ) (lb : Qbp ρ "b" = some (.int b)) (la : Qbp ρ "a" = some (.int a)) :
  Ex C n (Qaf 72).names inB ρ (owned "now" (.lst ((nowF (cells.map (·.1)) lv b a).map .int)))
   (fun ρ' ow' => ow' = owned "now" (.lst ((nowF (cells.map (·.1)) lv b (a + 1)).map .int)) /\ Ctx5 cells lv fl ρ' /\ Ctx6 dl dj dd dr dp dq ρ' /\ Qbp ρ' "b" = some (.int b) /\
    Qbp ρ' "mail" = some (.str (Qbd (Qfn (Qae lv a) (Qae lv b) cells))) /\ Qbp ρ' "fixed" = some (.str (Qbd (Qch false (Qfn (Qae lv a) (Qae lv b) cells)))) /\ Qbp ρ' "sent" = some (.str (Qbd (Qau true (Qch false (Qfn (Qae lv a) (Qae lv b) cells))))))
   (fun _ => False) := by
 obtain ⟨hi, hlv, hen, hdot, hlow, hflt⟩ := c5
 obtain ⟨cl, cj, cd, cr, cp, cqq⟩ := c6
 have hmlen := mail_len (u := Qae lv a) (v := Qae lv b) cells hm
 have ha : a < lv.length := by lia
 have rowA : ∀ {g : Int -> PV}, (lv.map g)[((a : Nat) : Int).toNat]? = some (g (Qae lv a)) := fun {g} => by simp [ha]
 have rowB : ∀ {g : Int -> PV}, (lv.map g)[((b : Nat) : Int).toNat]? = some (g (Qae lv b)) := fun {g} => by simp [hb]
 have hcell : ∀ k ∈ List.range cells.length, ∃ h e, cells.getD k (0, []) = (h, e) /\ (∀ {g : Int -> PV}, ((cells.map (·.1)).map g)[((k : Nat) : Int).toNat]? = some (g h)) /\ (((cells.map (·.2)).map Qbd).map PV.str)[((k : Nat) : Int).toNat]? = some (.str (Qbd e)) := by
  intro k hk
  have hk' : k < cells.length := List.mem_range.mp hk
  exact ⟨cells[k].1, cells[k].2, by simp [hk'], fun {g} => by simp [hk'], by simp [hk']⟩
 have hsum : ((cells.map fun p => cellL (Qae lv a) (Qae lv b) p.1 p.2).map List.length).sum + (cells.map fun p => cellL (Qae lv a) (Qae lv b) p.1 p.2).length * ("" : Str).length <= 16777216 := by
  have h1 : ((cells.map fun p => cellL (Qae lv a) (Qae lv b) p.1 p.2).map List.length).sum = (Qfn (Qae lv a) (Qae lv b) cells).length := by
   unfold Qfn; rw [List.length_flatten]
  rw [h1]
  have h2 : ("" : Str).length = 0 := by decide +kernel
  rw [h2]; lia
 have hres : PV.str (Qbd (Qew ("" : Str).cps.toList (cells.map fun p => cellL (Qae lv a) (Qae lv b) p.1 p.2))) = .str (Qbd (Qfn (Qae lv a) (Qae lv b) cells)) := by
  have e : ("" : Str).cps.toList = [] := by decide +kernel
  rw [e, joinL_nil]; rfl
 refine Qai (Qak (Ev.cast (ev_joinL (rows := cells.map fun p => cellL (Qae lv a) (Qae lv b) p.1 p.2) (Ev.cast
   (Qas (l := List.range cells.length) (pv := fun k => .int (k : Int)) (f := fun k => .str (Qbd (cellL (Qae lv a) (Qae lv b) (cells.getD k (0, [])).1 (cells.getD k (0, [])).2))) (bd := fun k => [("k", .int (k : Int))]) (p := fun _ => true)
    (Ev.it (Ev.cast (ev_rng G (by k_all) (ev_len G (by k_all) (Qan (by k_all) (by k_mem)) (by rw [List.length_map, List.length_map]; exact szc (by lia)))) (by rw [List.length_map, List.length_map])) (Qdp _ (by lia))) Qac (by decide +kernel) (fun a => Qat (by k_all) (by k_all)) ?_ (by rw [List.length_range]; exact szc (by lia)))
   (by rw [Qap, Qfx cells (0, []) fun p => PV.str (Qbd (cellL (Qae lv a) (Qae lv b) p.1 p.2)), List.map_map, List.map_map]; rfl)) hsum) hres) (by k_all) (Qba (by decide +kernel))) ?_
 ·intro k hk
  obtain ⟨h, e, gk, hH, hE⟩ := hcell k hk
  have hk' := List.mem_range.mp hk
  rw [gk]
  refine ⟨Qbe, fun _ => ?_⟩
  refine Ev.cast (Qge (tv_bool (Qar (i := k) (Ev.tl (Qar (i := a) (Ev.tl (Qan (by k_all) (by k_mem))) (Qan (by k_all) (by k_mem)) (by lia) rowA (by lia))) (Qab (by k_all) (by k_mem)) (by lia) hH (by lia))) (fun _ => Qdf)
   (fun _ => Qge (tv_bool (Qar (i := k) (Ev.tl (Qar (i := b) (Ev.tl (Qan (by k_all) (by k_mem))) (Qan (by k_all) (by k_mem)) (by lia) rowB (by lia))) (Qab (by k_all) (by k_mem)) (by lia) hH (by lia)))
    (fun _ => Qar (i := k) (d := .str (Qbd e)) (Ev.tl (Qan (by k_all) (by k_mem))) (Qab (by k_all) (by k_mem)) (by lia) hE (by lia)) (fun _ => Qdf))) ?_
  have e46 : ("." : Str) = Qbd [46] := by decide +kernel
  have e0 : ("" : Str) = Qbd [] := by decide +kernel
  unfold cellL
  by_cases h1 : Qae lv a <= h
  ·have d1 : decide (256 <= 256 + h - Qae lv a) = true := decide_eq_true (by lia)
   rw [d1, if_pos h1, if_pos rfl, e46]
  ·have d1 : decide (256 <= 256 + h - Qae lv a) = false := decide_eq_false (by lia)
   rw [d1, if_neg h1, if_neg Bool.false_ne_true]
   by_cases h2 : h < Qae lv b
   ·have d2 : decide (256 + h - Qae lv b < 256) = true := decide_eq_true (by lia)
    rw [d2, if_pos h2, if_pos rfl]
   ·have d2 : decide (256 + h - Qae lv b < 256) = false := decide_eq_false (by lia)
    rw [d2, if_neg h2, if_neg Bool.false_ne_true, e0]
 have hmail : (Qbd (Qfn (Qae lv a) (Qae lv b) cells)).length <= 90 := by rw [Qcg]; lia
 generalize hM : Qfn (Qae lv a) (Qae lv b) cells = M at *
 have hfix : (Qbd (Qch false M)).length <= 180 := by
  have := fixG_len false M
  rw [Qcg] at hmail ⊢; lia
 have hquo : (Qbd (Qau true (Qch false M))).length <= 360 := by
  have := Qfl true (Qch false M)
  rw [Qcg] at hfix ⊢; lia
 have eN : ("\r\n" : Str) = Qbd [13, 10] := by decide +kernel
 have eN1 : ("\n" : Str) = Qbd [10] := by decide +kernel
 have hnorm : (Txt.replace (Txt.replace (Qbd M) "\r\n" "\n") "\r" "\n").cps.toList = Qda false M := by rw [norm_text, Qce]
 have hnl : (Qda false M).length <= 90 := by
  have : ∀ (l : List Nat) (b : Bool), (Qda b l).length <= l.length := by
   intro l
   induction l with
   | nil => intro b; simp [Qda]
   | cons c r ih =>
    intro b
    have h0 := ih false
    have h1 := ih true
    unfold Qda
    split
    ·simp only [List.length_cons]; lia
    ·split <;> simp only [List.length_cons] <;> lia
  have h1 := this M false
  rw [Qcg] at hmail; lia
 have hr1 : (Txt.replace (Qbd M) "\r\n" "\n").length <= 90 := by
  have h1 := r1_eq (Qbd M)
  have : ∀ (l : List Nat), (r1L l).length <= l.length := by
   intro l
   fun_induction r1L l <;> simp_all <;> lia
  have h2 := this (Qbd M).cps.toList
  rw [← h1, Qal, Qal] at h2
  lia
 refine Qai (Qak (d := .lst (((Qbt 10 (Qda false M)).map Qbd).map .str)) ?_ (by k_all) (Qba (by decide +kernel))) ?_
 ·rw [← hnorm]
  refine ev_splitL (ev_replace (ev_replace (Qab (by k_all) (by k_mem)) (by decide +kernel) ?_) (by decide +kernel) ?_) ?_
  ·have : ("\n" : Str).length = 1 := by decide +kernel
   rw [this]; lia
  ·have : ("\n" : Str).length = 1 := by decide +kernel
   rw [this]; lia
  ·rw [← Qal, hnorm]; exact szc (by lia)
 have sq : quoteS (fixS (Qbd M)) = Qbd (Qau true (Qch false M)) := by unfold quoteS fixS; rw [Qce, Qce]
 have sf : fixS (Qbd M) = Qbd (Qch false M) := by unfold fixS; rw [Qce]
 have hz8 : 8 * (Qbd M).length + 4 <= sizeLine := szc (by lia)
 refine Qai (ρ' := (("sent" : Str), PV.str (Qbd (Qau true (Qch false M)))) :: (("fixed" : Str), PV.str (Qbd (Qch false M))) :: (("rows" : Str), PV.lst (((Qbt 10 (Qda false M)).map Qbd).map .str)) :: (("mail" : Str), PV.str (Qbd M)) :: ρ)
  (exs_tup (ps := [(("sent", _), .str (Qbd (Qau true (Qch false M)))), (("fixed", _), .str (Qbd (Qch false M)))])
   (Qbz (Qby (Qfr (sq ▸ (sp_quotedata G hz8 : Spec C (3 + 1) _ _ _).le (by lia)) (by k_all) (Qaw (Qab (by k_all) (by k_mem)))) (Qfr (sf ▸ (sp_fix_eols G hz8 : Spec C (3 + 1) _ _ _).le (by lia)) (by k_all) (Qaw (Qab (by k_all) (by k_mem))))) (sz10 rfl))
   ?_ (show ([("sent" : Str), "fixed"] : List Str).Nodup by decide +kernel) (by intro _; rfl) (fun env => swappedN (xs := [("sent", _), ("fixed", _)]) (.inl rfl) env) (by intro _; rfl)) ?_
 ·intro p hp
  revert p; refine al ?_ (al ?_ an)
  ·exact ⟨by k_all, Qba (show (("now" : Str) == ("sent" : Str)) = false by decide +kernel)⟩
  ·exact ⟨by k_all, Qba (show (("now" : Str) == ("fixed" : Str)) = false by decide +kernel)⟩
 have hrows := splitL_len 10 (Qda false M)
 have hdl := dot_len (Qbt 10 (Qda false M))
 have l2 : ("\r\n" : Str).length = 2 := by decide +kernel
 have c2 : ("\r\n" : Str).cps.toList = [13, 10] := by decide +kernel
 refine Qbi (Qey (N := fun p q => p = (("sent" : Str), PV.str (Qbd (Qau true (Qch false M)))) :: (("fixed" : Str), PV.str (Qbd (Qch false M))) :: (("rows" : Str), PV.lst (((Qbt 10 (Qda false M)).map Qbd).map .str)) :: (("mail" : Str), PV.str (Qbd M)) :: ρ /\ q = owned "now" (.lst ((nowF (cells.map (·.1)) lv b a).map .int))) (b := false)
  (Tv.cast (tv_or2 (Qbk (Qab (by k_all) (by k_mem)) (ev_joinL (Qab (by k_all) (by k_mem)) (by rw [l2]; lia)) Qfm) fun _ => Qbk (Qab (by k_all) (by k_mem)) (ev_joinL (ev_dotrows (Ev.it (Qab (by k_all) (by k_mem)) rfl) (by decide +kernel) (by k_all) (by k_all) (by k_all) (szc (by lia)) ?_) (by rw [l2, List.length_map]; lia)) Qfm) ?_) (fun q => nomatch q) fun _ => Qcb ⟨rfl, rfl⟩) ?_
 ·intro r hr
  have : r.length <= ((Qbt 10 (Qda false M)).map List.length).sum := by
   have := le_sum_mem (List.mem_map.mpr ⟨r, hr, rfl⟩ : r.length ∈ (Qbt 10 (Qda false M)).map List.length)
   exact this
  exact szc (by lia)
 ·have e1 : Qew [13, 10] (Qbt 10 (Qda false M)) = Qch false M := by rw [← crlf_rows, ← fix_norm]
  have e2 : Qew [13, 10] ((Qbt 10 (Qda false M)).map dotL) = Qau true (Qch false M) := by rw [fix_norm, quote_crlf _ _ (norm_no13 M false), Qff]
  rw [c2, e1, e2]
  simp
 rintro _ _ ⟨rfl, rfl⟩
 have hcq : (Qau true (Qch false M)).length = (Qch false M).length + cq true M := quote_len M true false (fun h => nomatch h)
 have hsch : cq true M = sch (Qae lv a) (Qae lv b) true (cells.map (·.1)) := by rw [← hM]; exact cq_mail cells true hm
 have hnext : nowF (cells.map (·.1)) lv b (a + 1) = nowF (cells.map (·.1)) lv b a ++ [Ea (cells.map (·.1)) lv b a] := by unfold nowF; rw [List.range_succ, List.map_append]; rfl
 have hval : ((Qbd (Qau true (Qch false M))).length : Int) - ((Qbd (Qch false M)).length : Int) - (nowF (cells.map (·.1)) lv b a).sum = Ea (cells.map (·.1)) lv b a := by
  rw [Qcg, Qcg, hcq, nowF_sum, hsch]
  unfold Ea
  show _ = ((sch (Qae lv a) (Qae lv b) true (cells.map (·.1)) : Nat) : Int) - _
  lia
 refine Qai (exs_append (d := .int (Ea (cells.map (·.1)) lv b a)) (by k_all) (Ev.cast (Qaj (Qaj (ev_slen G (by k_all) (Qab (by k_all) (by k_mem)) (szc (by lia))) (ev_slen G (by k_all) (Qab (by k_all) (by k_mem)) (szc (by lia))) Qav) (ev_callT (ev_bltv G.b_sum (by k_all)) Qaq (evT_own (by k_all)) opT_sum) Qav) (congrArg PV.int hval)) ?_) ?_
 ·simp only [nowF, List.length_map, List.length_range]; exact szc (by lia)
 refine Qcb ⟨?_, ⟨by k_mem, by k_mem, by k_mem, by k_mem, by k_mem, by k_mem⟩, ⟨by k_mem, by k_mem, by k_mem, by k_mem, by k_mem, by k_mem⟩, by k_mem, by k_mem, by k_mem, by k_mem⟩
 rw [hnext, List.map_append]; rfl
end
section
set_option tactic.hygienic false
theorem bits_small {x : Int} (h1 : -2000 <= x) (h2 : x <= 2000) : Builtin.Int.intBits x <= 64 := by
 unfold Builtin.Int.intBits
 split
 ·lia
 ·have h : x.natAbs < 2 ^ 63 := by lia
  have := (Nat.log2_lt (n := x.natAbs) (k := 63) (by rename_i h0; intro q; apply h0; simp; lia)).mpr h
  lia
theorem mul_small {a x : Int} (h1 : -2000 <= x) (h2 : x <= 2000) : IntMulOk a x := IntMulOk.of_right (bits_small h1 h2)
theorem acF_len : ∀ (S T : List (Int × CV)), (acF T S).length <= T.length + S.length
 | [], T => by simp [acF]
 | p :: S, T => by
  have h1 := acF_len S (addC T p)
  have h2 : (addC T p).length <= T.length + 1 := by unfold addC; exact dset_len _ _ _
  have e : acF T (p :: S) = acF (addC T p) S := rfl
  rw [e, List.length_cons]
  lia
theorem acF_kd {m : Option Nat} : ∀ (S T : List (Int × CV)), (∀ p ∈ T, CV.kd m p.2) -> (∀ p ∈ S, CV.kd m p.2) -> ∀ p ∈ acF T S, CV.kd m p.2
 | [], _, h, _ => h
 | p :: S, T, h, h' => acF_kd S (addC T p) (addC_kd h (h' p List.mem_cons_self)) fun q hq => h' q (List.mem_cons_of_mem _ hq)
section
variable {high lv : List Int}
theorem Qex {b : Nat} {g : Nat × Int} (h : g ∈ Qen high lv b) : g.1 < b := by
 unfold Qen at h
 rw [List.mem_map] at h
 apply byc;intro kz
 obtain ⟨a, ha, rfl⟩ := h
 apply kz;clear kz
 exact List.mem_range.mp (List.mem_filter.mp ha).1
theorem goneF_len (b : Nat) : (Qen high lv b).length <= b := by
 unfold Qen
 rw [List.length_map]
 have := List.length_filter_le (fun a => Ea high lv b a != Ea high lv (b - 1) a) (List.range b)
 rwa [List.length_range] at this
theorem newLives_len (b : Nat) : (Qfe high lv b).length <= b := Nat.le_trans (dfold_length _ _ _) (goneF_len b)
theorem dfold_all {α K β : Type} [DecidableEq K] {P : β -> Prop} {ky : α -> K} {f : α -> β} (hf : ∀ a, P (f a)) (l : List α) : ∀ p ∈ Qcv ky f l, P p.2 := by
 have : ∀ (l : List α) (acc : List (K × β)), (∀ p ∈ acc, P p.2) -> ∀ p ∈ l.foldl (fun acc a => Qdb acc (ky a) (f a)) acc, P p.2 := by
  intro l
  induction l with
  | nil => intro acc h; exact h
  | cons a l ih => intro acc h; exact ih _ (Qgf h (hf a))
 exact this l [] (fun _ h => nomatch h)
theorem dfold_nd {α K β : Type} [DecidableEq K] {ky : α -> K} {f : α -> β} (l : List α) : ((Qcv ky f l).map (·.1)).Nodup := by
 have : ∀ (l : List α) (acc : List (K × β)), (acc.map (·.1)).Nodup -> ((l.foldl (fun acc a => Qdb acc (ky a) (f a)) acc).map (·.1)).Nodup := by
  intro l
  induction l with
  | nil => intro acc h; exact h
  | cons a l ih => intro acc h; exact ih _ (Qft h _ _)
 exact this l [] List.nodup_nil
theorem newLives_kd (b : Nat) : ∀ p ∈ Qfe high lv b, CV.kd none p.2 := dfold_all (P := CV.kd none) (f := fun g : Nat × Int => CV.i g.2) (fun g => by first | trivial | rfl) _
theorem newLives_nd (b : Nat) : ((Qfe high lv b).map (·.1)).Nodup := dfold_nd _
theorem Qfy (k : Nat) : Qcy high lv (k + 1) = acF (Qcy high lv k) (Qfe high lv k) := by
 unfold Qcy; rw [List.range_succ, List.foldl_append]; rfl
theorem livesF_ok : ∀ (k : Nat), k <= 30 -> (∀ p ∈ Qcy high lv k, CV.kd none p.2) /\ ((Qcy high lv k).map (·.1)).Nodup /\ (Qcy high lv k).length <= 29 * k
 | 0, _ => ⟨(fun p h => by simp [Qcy] at h), List.nodup_nil, Nat.le_refl _⟩
 | k + 1, hk => by
  obtain ⟨h1, h2, h3⟩ := livesF_ok k (by lia)
  rw [Qfy]
  refine ⟨acF_kd _ _ h1 (newLives_kd k), acF_nodup _ _ h2, ?_⟩
  have h4 := acF_len (Qfe high lv k) (Qcy high lv k)
  have h5 := newLives_len (high := high) (lv := lv) k
  lia
structure OkJ (lv : List Int) (T : List (Int × CV)) : Prop where
 kd : ∀ p ∈ T, CV.kd (some 4) p.2
 nd : (T.map (·.1)).Nodup
 sub : ∀ k ∈ T.map (·.1), k ∈ lv
theorem OkJ.len {T : List (Int × CV)} (h : OkJ lv T) : T.length <= lv.length := by
 have := Qcs h.nd h.sub
 rwa [List.length_map] at this
theorem newJoin_ok {b : Nat} {g : Nat × Int} (hb : b < lv.length) (hg : g.1 < b) : OkJ lv (Qea lv b g) /\ (Qea lv b g).length <= 2 := by
 have m1 : Qae lv g.1 ∈ lv := by
  have : g.1 < lv.length := by lia
  simp [Qae, this]
 have m2 : Qae lv b ∈ lv := by simp [Qae, hb]
 refine ⟨⟨?_, Qft (Qft (S := []) (by simp) _ _) _ _, fun k hk => ?_⟩, ?_⟩
 ·exact Qgf (Qgf (fun _ h => nomatch h) rfl) rfl
 ·rcases Qeo hk with h | rfl
  ·rcases Qeo h with h | rfl
   ·cases h
   ·exact m1
  ·exact m2
 ·have h1 := dset_len (Qdb ([] : List (Int × CV)) (Qae lv g.1) (fourF lv b g)) (Qae lv b) (fourF lv b g)
  have h2 := dset_len ([] : List (Int × CV)) (Qae lv g.1) (fourF lv b g)
  unfold Qea
  simp only [List.length_nil] at h2
  lia
theorem OkJ.add {T S : List (Int × CV)} (h : OkJ lv T) (h' : OkJ lv S) : OkJ lv (acF T S) := by
 refine ⟨acF_kd _ _ h.kd h'.kd, acF_nodup _ _ h.nd, fun k hk => ?_⟩
 rw [acF_keys S T h'.nd, List.mem_append] at hk
 rcases hk with hk | hk
 ·exact h.sub k hk
 ·exact h'.sub k (List.mem_filter.mp hk).1
theorem OkJ.at {b : Nat} (hb : b < lv.length) : ∀ (l : List (Nat × Int)) {T : List (Int × CV)}, (∀ g ∈ l, g.1 < b) -> OkJ lv T -> OkJ lv (Qev lv T b l)
 | [], _, _, h => h
 | g :: l, T, hl, h => OkJ.at hb l (fun q hq => hl q (List.mem_cons_of_mem _ hq)) (h.add (newJoin_ok hb (hl g List.mem_cons_self)).1)
theorem Qfz (k : Nat) : Qcz high lv (k + 1) = Qev lv (Qcz high lv k) k (Qen high lv k) := by
 unfold Qcz; rw [List.range_succ, List.foldl_append]; rfl
theorem joinsF_ok : ∀ (k : Nat), k <= lv.length -> OkJ lv (Qcz high lv k)
 | 0, _ => ⟨(fun p h => by simp [Qcz] at h), List.nodup_nil, (fun p h => by simp [Qcz] at h)⟩
 | k + 1, hk => by
  rw [Qfz]
  exact OkJ.at (by lia) _ (fun g hg => Qex hg) (joinsF_ok k (by lia))
end
theorem ex_mono {body : List Stmt} {N N' : Qbs -> Option (Str × PV) -> Prop} {R : PV -> Prop} (h : Ex C n nm body ρ ow N R) (hn : ∀ a b, N a b -> N' a b) : Ex C n nm body ρ ow N' R := by
 intro A Xo env oa s rm st ok
 refine wpAny_mono (h A Xo env oa s rm st ok) (fun f s₁ ⟨st1, fr, h⟩ => ⟨st1, fr, ?_⟩) nof
 cases f with
 | next => obtain ⟨ρ', ow', oa', ok', fo, hN⟩ := h; exact ⟨ρ', ow', oa', ok', fo, hn _ _ hN⟩
 | ret v => exact h
 | brk => exact h
 | cont => exact h
theorem tgt_two {x y : Str} {d d' : PV} (hx : (Qdm nm x || Qdi nm x) = true) (hw : NotOw ow x) (hy : (Qdm nm y || Qdi nm y) = true) (hw' : NotOw ow y) : Tgt nm ow [(x, d), (y, d')] := fun p hp => by
 revert p; refine al ?_ (al ?_ an)
 ·exact ⟨hx, hw⟩
 ·exact ⟨hy, hw'⟩
theorem tgtc_two {x y : Str} {d d' : PV} (hx : (Qdm nm x || Qdi nm x) = true) (hf : Qdw nm x = false) (hy : (Qdm nm y || Qdi nm y) = true) (hf' : Qdw nm y = false) : TgtC nm [(x, d), (y, d')] := fun p hp => by
 revert p; refine al ?_ (al ?_ an)
 ·exact ⟨hx, hf⟩
 ·exact ⟨hy, hf'⟩
theorem Qds {e f g : Expr} {d d' d'' : PV} (h : Ev C n nm ρ ow e d) (h' : Ev C n nm ρ ow f d') (h'' : Ev C n nm ρ ow g d'') (he : ∀ env, starEach [e, f, g] env = (false, eval e env) :: starEach [f, g] env := by k_all) (he' : ∀ env, starEach [f, g] env = (false, eval f env) :: starEach [g] env := by k_all) (he'' : ∀ env, starEach [g] env = [(false, eval g env)] := by k_all) : EvL C n nm ρ ow [e, f, g] [d, d', d''] := Qao h (Qby h' h'' he' he'') he
theorem lvAt_bd {lv : List Int} (hlv : ∀ x ∈ lv, 0 <= x /\ x <= 1000) (b : Nat) : 0 <= Qae lv b /\ Qae lv b <= 1000 := by
 unfold Qae
 by_cases h : b < lv.length
 ·have : lv.getD b 0 = lv[b] := by simp [h]
  rw [this]; exact hlv _ (List.getElem_mem h)
 ·have : lv.getD b 0 = 0 := by simp at h; simp [h]
  rw [this]; lia
theorem rawL_succ (lv : List Int) (cells : List (Int × List Nat)) (b : Nat) : rawL lv cells (b + 1) = rawL lv cells b ++ (Qfc lv cells b ++ [13, 10]) := by unfold rawL; rw [List.range_succ, List.map_append, List.flatten_append]; simp
theorem plainL_succ (lv : List Int) (cells : List (Int × List Nat)) (b : Nat) : Qdx lv cells (b + 1) = Qdx lv cells b ++ (Qch false (Qfc lv cells b) ++ [13, 10]) := by unfold Qdx; rw [List.range_succ, List.map_append, List.flatten_append]; simp
theorem postedL_succ (lv : List Int) (cells : List (Int × List Nat)) (b : Nat) : Qdh lv cells (b + 1) = Qdh lv cells b ++ (Qau true (Qch false (Qfc lv cells b)) ++ [13, 10]) := by unfold Qdh; rw [List.range_succ, List.map_append, List.flatten_append]; simp
theorem join_body (G : Gl C) (h6 : 6 <= n) {cells : List (Int × List Nat)} {lv : List Int} (hl : lv.length <= 30) (hlv : ∀ x ∈ lv, 0 <= x /\ x <= 1000) {fl : PV} {b : Nat} (hb : b < lv.length) {T : List (Int × CV)} (hT : OkJ lv T) {g : Nat × Int} (hg : g.1 < b) {dl dd dr dp dq nw : PV}
  (c5 : Ctx5 cells lv fl ρ) (c6 : Ctx6 dl (.dctI (Qca T)) dd dr dp dq ρ) (lb : Qbp ρ "b" = some (.int b)) (ln : Qbp ρ "now" = some nw) (la : Qbp ρ "a" = some (.int g.1)) (lm : Qbp ρ "many" = some (.int g.2)) :
  Ex C n (Qaf 72).names inJ ρ none
   (fun ρ' ow' => ow' = none /\ Ctx5 cells lv fl ρ' /\ Ctx6 dl (.dctI (Qca (acF T (Qea lv b g)))) dd dr dp dq ρ' /\ Qbp ρ' "b" = some (.int b) /\ Qbp ρ' "now" = some nw)
   (fun _ => False) := by
 apply byc;intro kz
 obtain ⟨hi, hlvv, hen, hdot, hlow, hflt⟩ := c5
 obtain ⟨cl, cj, cd, cr, cp, cqq⟩ := c6
 apply kz;clear kz
 have ba := lvAt_bd hlv g.1
 have bb := lvAt_bd hlv b
 have rowA : (lv.map PV.int)[((g.1 : Nat) : Int).toNat]? = some (.int (Qae lv g.1)) := by
  have : g.1 < lv.length := by lia
  simp [this]
 have rowB : (lv.map PV.int)[((b : Nat) : Int).toNat]? = some (.int (Qae lv b)) := by simp [hb]
 have sA : ∀ {ρ : Qbs} {p1 p2 p3 : Pos}, Qbp ρ "levels" = some (lvV lv) -> Qbp ρ "a" = some (.int g.1) -> Ev C n (Qaf 72).names ρ none (.Subscript (.Name "levels" p1) (.Name "a" p2) p3) (.int (Qae lv g.1)) := fun h1 h2 =>
  Qar (Ev.tl (Qan (by k_all) h1)) (Qan (by k_all) h2) (by lia) rowA (by lia)
 have sB : ∀ {ρ : Qbs} {p1 p2 p3 : Pos}, Qbp ρ "levels" = some (lvV lv) -> Qbp ρ "b" = some (.int b) -> Ev C n (Qaf 72).names ρ none (.Subscript (.Name "levels" p1) (.Name "b" p2) p3) (.int (Qae lv b)) := fun h1 h2 =>
  Qar (Ev.tl (Qan (by k_all) h1)) (Qan (by k_all) h2) (by lia) rowB (by lia)
 refine Qai (Qak (d := (fourF lv b g).pv) (Qbz (ds := [.int g.2, .int (g.2 * Qae lv g.1), .int (g.2 * Qae lv b), .int (g.2 * (Qae lv g.1 - Qae lv b))]) (Qao (Qab (by k_all) (by k_mem)) (Qds (Qaj (Qab (by k_all) (by k_mem)) (sA (by k_mem) (by k_mem)) (Qcn (mul_small (by lia) (by lia)))) (Qaj (Qab (by k_all) (by k_mem)) (sB (by k_mem) (by k_mem)) (Qcn (mul_small (by lia) (by lia)))) (Qaj (Qab (by k_all) (by k_mem)) (Qaj (sA (by k_mem) (by k_mem)) (sB (by k_mem) (by k_mem)) Qav) (Qcn (mul_small (by lia) (by lia)))))) (sz10 rfl)) (by k_all) Qad) ?_
 have hN := newJoin_ok (lv := lv) (g := g) hb hg
 have hTl := hT.len
 refine Qai (Qak (d := .dctI (Qca (acF T (Qea lv b g)))) (Qfr ((sp_added G (m := some 4) hT.kd hN.1.kd hT.nd hN.1.nd (by have := hN.2; lia) (by intro k hk; cases hk; lia)).le (by lia)) (by k_all) (Qds (Qab (by k_all) (by k_mem)) (Ev.cast (ev_dict2 (sA (by k_mem) (by k_mem)) (Qab (by k_all) (by k_mem)) (sB (by k_mem) (by k_mem)) (Qab (by k_all) (by k_mem))) ?_) (Qab (by k_all) (by k_mem)))) (by k_all) Qad) ?_
 ·unfold Qea
  rw [← Qfs, ← Qfs]; rfl
 exact Qcb ⟨rfl, ⟨by k_mem, by k_mem, by k_mem, by k_mem, by k_mem, by k_mem⟩, ⟨by k_mem, by k_mem, by k_mem, by k_mem, by k_mem, by k_mem⟩, by k_mem, by k_mem⟩
set_option maxHeartbeats 2000000 in
theorem outer_body (G : Gl C) (h7 : 7 <= n) {cells : List (Int × List Nat)} {lv : List Int} (hm : ∀ p ∈ cells, p.2 ∈ menuL) (hn : cells.length <= 30) (hl : lv.length <= 30) (hlv : ∀ x ∈ lv, 0 <= x /\ x <= 1000) {fl : PV} {b : Nat} (hb : b < lv.length)
  (c5 : Ctx5 cells lv fl ρ) (c6 : Ctx6 (.dctI (Qca (Qcy (cells.map (·.1)) lv b))) (.dctI (Qca (Qcz (cells.map (·.1)) lv b))) (.lst ((nowF (cells.map (·.1)) lv (b - 1) b).map .int)) (.str (Qbd (rawL lv cells b))) (.str (Qbd (Qdx lv cells b))) (.str (Qbd (Qdh lv cells b))) ρ) (lb : Qbp ρ "b" = some (.int b)) :
  Ex C n (Qaf 72).names outB ρ none
   (fun ρ' ow' => ow' = none /\ Ctx5 cells lv fl ρ' /\ Ctx6 (.dctI (Qca (Qcy (cells.map (·.1)) lv (b + 1)))) (.dctI (Qca (Qcz (cells.map (·.1)) lv (b + 1)))) (.lst ((nowF (cells.map (·.1)) lv b (b + 1)).map .int)) (.str (Qbd (rawL lv cells (b + 1)))) (.str (Qbd (Qdx lv cells (b + 1)))) (.str (Qbd (Qdh lv cells (b + 1)))) ρ')
   (fun _ => False) := by
 have c5' := c5
 have c6' := c6
 apply byc;intro kz
 obtain ⟨hi, hlvv, hen, hdot, hlow, hflt⟩ := c5
 obtain ⟨cl, cj, cd, cr, cp, cqq⟩ := c6
 apply kz;clear kz
 refine Qai (exs_new_list (by k_all)) ?_
 generalize hdd : PV.lst ((nowF (cells.map (·.1)) lv (b - 1) b).map .int) = dd at *
 generalize hdl : PV.dctI (Qca (Qcy (cells.map (·.1)) lv b)) = dl at *
 generalize hdj : PV.dctI (Qca (Qcz (cells.map (·.1)) lv b)) = dj at *
 refine Qbi (Qez (l := List.range (b + 1)) (pv := fun a => .int (a : Int)) (bd := fun a => [("a", .int (a : Int))]) (I := fun j ρ ow => ow = owned "now" (.lst ((nowF (cells.map (·.1)) lv b j).map .int)) /\ Ctx5 cells lv fl ρ /\ Ctx6 dl dj dd (.str (Qbd (rawL lv cells b))) (.str (Qbd (Qdx lv cells b))) (.str (Qbd (Qdh lv cells b))) ρ /\ Qbp ρ "b" = some (.int b) /\
   (j = b + 1 -> Qbp ρ "mail" = some (.str (Qbd (Qfc lv cells b))) /\ Qbp ρ "fixed" = some (.str (Qbd (Qch false (Qfc lv cells b)))) /\ Qbp ρ "sent" = some (.str (Qbd (Qau true (Qch false (Qfc lv cells b)))))))
  (Ev.itF (Ev.cast (ev_rng G (by k_all) (Qaj (Qan (by k_all) (by k_mem)) Qag Qbo)) (show PV.rng 0 ((b : Int) + 1) 1 = .rng 0 ((b + 1 : Nat) : Int) 1 by rfl)) (Qdp _ (by lia))) Qac
  ⟨rfl, ⟨by k_mem, by k_mem, by k_mem, by k_mem, by k_mem, by k_mem⟩, ⟨by k_mem, by k_mem, by k_mem, by k_mem, by k_mem, by k_mem⟩, by k_mem, fun h => by lia⟩ ?_) ?_
 ·intro j a ρ' _ ha hz
  apply byc;intro kz
  obtain ⟨rfl, ⟨d1, d2, d3, d4, d5, d6⟩, ⟨e1, e2, e3, e4, e5, e6⟩, lb', _⟩ := hz
  apply kz;clear kz
  have hja : j = a /\ a <= b := by
   rw [List.getElem?_eq_some_iff] at ha
   obtain ⟨h1, h2⟩ := ha
   rw [List.getElem_range] at h2
   rw [List.length_range] at h1
   lia
  obtain ⟨rfl, hjb⟩ := hja
  refine ⟨tgt_one (by k_all) (Qba (by decide +kernel)), ?_⟩
  refine ex_mono (inner_body (ρ := ("a", PV.int (j : Int)) :: ρ') G (show 4 <= n by lia) hm hn hl hjb hb ⟨by k_mem, by k_mem, by k_mem, by k_mem, by k_mem, by k_mem⟩ (dl := dl) (dj := dj) (dd := dd) ⟨by k_mem, by k_mem, by k_mem, by k_mem, by k_mem, by k_mem⟩ (by k_mem) (by k_mem)) ?_
  intro ρ2 ow2 hz
  apply byc;intro kz
  obtain ⟨q1, q2, q3, q4, q5, q6, q7⟩ := hz
  apply kz;clear kz
  refine ⟨q1, q2, q3, q4, fun hj => ?_⟩
  have : j = b := by lia
  subst this
  exact ⟨q5, q6, q7⟩
 intro ρ1 _ hz
 apply byc;intro kz
 obtain ⟨rfl, ⟨d1, d2, d3, d4, d5, d6⟩, ⟨e1, e2, e3, e4, e5, e6⟩, lb1, hlast⟩ := hz
 apply kz;clear kz
 rw [List.length_range] at hlast ⊢
 obtain ⟨lm, lf, ls⟩ := hlast rfl
 subst hdd hdl hdj
 have b30 : b < 30 := by lia
 have crlf : ("\r\n" : Str) = Qbd [13, 10] := by decide +kernel
 have z1 := raw_len lv cells b hm
 have z2 := plain_len lv cells b hm
 have z3 := posted_len lv cells b hm
 have w1 := raw_len lv cells (b + 1) hm
 have w2 := plain_len lv cells (b + 1) hm
 have w3 := posted_len lv cells (b + 1) hm
 have big1 : (3 * cells.length + 2) * (b + 1) <= 92 * 30 := Nat.mul_le_mul (by lia) (by lia)
 have big2 : (6 * cells.length + 2) * (b + 1) <= 182 * 30 := Nat.mul_le_mul (by lia) (by lia)
 have big3 : (12 * cells.length + 2) * (b + 1) <= 362 * 30 := Nat.mul_le_mul (by lia) (by lia)
 have y1 := rawL_succ lv cells b
 have y2 := plainL_succ lv cells b
 have y3 := postedL_succ lv cells b
 have add : ∀ {ρ : Qbs} {ow : Option (Str × PV)} {x y : Str} {p1 p2 p3 p4 p5 : Pos} {k : Nat} {u v w : List Nat}, Qdm (Qaf 72).names x = true -> Qdm (Qaf 72).names y = true -> (x == ("__debug__" : Str)) = false -> (y == ("__debug__" : Str)) = false -> Qbp ρ x = some (.str (Qbd u)) -> Qbp ρ y = some (.str (Qbd v)) -> w = u ++ (v ++ [13, 10]) -> w.length <= 11000 ->
   Ev C n (Qaf 72).names ρ ow (.BinOp (.BinOp (.Name x p1) .Add (.Name y p2) p3) .Add (.Constant (.str "\r\n") k p4) p5) (.str (Qbd w)) := by
  intro ρ ow x y p1 p2 p3 p4 p5 k u v w hx hy hb1 hb2 h1 h2 hw hz
  rw [hw, List.length_append, List.length_append] at hz
  have l2 : ("\r\n" : Str).length = 2 := by decide +kernel
  refine Ev.cast (Qaj (Qaj (Qab hx h1 hb1) (Qab hy h2 hb2) (op_add_str (by rw [Qcg, Qcg]; exact szc (by lia)))) Qdf (op_add_str (by rw [strL_app, Qcg, List.length_append, l2]; exact szc (by lia)))) ?_
  rw [strL_app, crlf, strL_app, hw, List.append_assoc]
 refine Qai (ρ' := (("raw" : Str), PV.str (Qbd (rawL lv cells (b + 1)))) :: (("plain" : Str), PV.str (Qbd (Qdx lv cells (b + 1)))) :: (("posted" : Str), PV.str (Qbd (Qdh lv cells (b + 1)))) :: ρ1)
  (exs_tup (ps := [(("raw", _), .str (Qbd (rawL lv cells (b + 1)))), (("plain", _), .str (Qbd (Qdx lv cells (b + 1)))), (("posted", _), .str (Qbd (Qdh lv cells (b + 1))))])
   (Qbz (Qds (add (by k_all) (by k_all) (by decide +kernel) (by decide +kernel) e4 lm y1 (by lia)) (add (by k_all) (by k_all) (by decide +kernel) (by decide +kernel) e5 lf y2 (by lia)) (add (by k_all) (by k_all) (by decide +kernel) (by decide +kernel) e6 ls y3 (by lia))) (sz10 rfl))
   ?_ (show ([("raw" : Str), "plain", "posted"] : List Str).Nodup by decide +kernel) (by intro _; rfl) (fun env => swappedN (xs := [("raw", _), ("plain", _), ("posted", _)]) (.inl rfl) env) (by intro _; rfl)) ?_
 ·intro p hp
  revert p; refine al ?_ (al ?_ (al ?_ an))
  ·exact ⟨by k_all, Qba (show (("now" : Str) == ("raw" : Str)) = false by decide +kernel)⟩
  ·exact ⟨by k_all, Qba (show (("now" : Str) == ("plain" : Str)) = false by decide +kernel)⟩
  ·exact ⟨by k_all, Qba (show (("now" : Str) == ("posted" : Str)) = false by decide +kernel)⟩
 refine ex_freeze ?_
 have oldAt : ∀ a, a < b -> ((nowF (cells.map (·.1)) lv (b - 1) b).map PV.int)[((a : Nat) : Int).toNat]? = some (.int (Ea (cells.map (·.1)) lv (b - 1) a)) := fun a ha => by simp [nowF, ha]
 have nowAt : ∀ a, a < b -> ((nowF (cells.map (·.1)) lv b (b + 1)).map PV.int)[((a : Nat) : Int).toNat]? = some (.int (Ea (cells.map (·.1)) lv b a)) := fun a ha => by
  have : a < b + 1 := by lia
  simp [nowF, this]
 refine Qai (Qcu (l := List.range b) (pv := fun a => .int (a : Int)) (f := fun (a : Nat) => .tup [.int (a : Int), .int (Ea (cells.map (·.1)) lv (b - 1) a - Ea (cells.map (·.1)) lv b a)]) (bd := fun a => [("a", .int (a : Int))]) (p := fun a => Ea (cells.map (·.1)) lv b a != Ea (cells.map (·.1)) lv (b - 1) a) (by k_all) Qad
  (Ev.it (ev_rng G (by k_all) (Qan (by k_all) (by k_mem))) (Qdp _ (by lia))) Qac (by decide +kernel) (fun a => Qat (by k_all) (by k_all)) ?_ (by rw [List.length_range]; exact szc (by lia))) ?_
 ·intro a ha
  have ha' := List.mem_range.mp ha
  exact ⟨Qcl (Qbk (Qar (Ev.tl (Qan (by k_all) (by k_mem))) (Qab (by k_all) (by k_mem)) (by lia) (nowAt a ha') (by lia)) (Qar (Ev.tl (Qan (by k_all) (by k_mem))) (Qab (by k_all) (by k_mem)) (by lia) (oldAt a ha') (by lia)) opc_ne),
   fun _ => Qbz (Qby (Qab (by k_all) (by k_mem)) (Qaj (Qar (Ev.tl (Qan (by k_all) (by k_mem))) (Qab (by k_all) (by k_mem)) (by lia) (oldAt a ha') (by lia)) (Qar (Ev.tl (Qan (by k_all) (by k_mem))) (Qab (by k_all) (by k_mem)) (by lia) (nowAt a ha') (by lia)) Qav)) (sz10 rfl)⟩
 have hgone : PV.lst (((List.range b).filter fun a => Ea (cells.map (·.1)) lv b a != Ea (cells.map (·.1)) lv (b - 1) a).map fun (a : Nat) => PV.tup [.int (a : Int), .int (Ea (cells.map (·.1)) lv (b - 1) a - Ea (cells.map (·.1)) lv b a)]) = .lst ((Qen (cells.map (·.1)) lv b).map fun g => .tup [.int (g.1 : Int), .int g.2]) := by
  unfold Qen
  rw [List.map_map]; rfl
 rw [hgone]
 obtain ⟨k1, k2, k3⟩ := livesF_ok (high := cells.map (·.1)) (lv := lv) b (by lia)
 have kN := newLives_len (high := cells.map (·.1)) (lv := lv) b
 have gl := goneF_len (high := cells.map (·.1)) (lv := lv) b
 have kJ := joinsF_ok (high := cells.map (·.1)) (lv := lv) b (by lia)
 refine Qai (Qak (d := .dctI (Qca (Qcy (cells.map (·.1)) lv (b + 1)))) (Ev.cast (Qfr ((sp_added G k1 (newLives_kd (high := cells.map (·.1)) (lv := lv) b) k2 (newLives_nd b) (by lia) (by intro k hk; cases hk)).le (by lia)) (by k_all) (Qds (Qab (by k_all) (by k_mem)) (Ev.cast (Qeh (l := Qen (cells.map (·.1)) lv b) (pv := fun g => .tup [.int (g.1 : Int), .int g.2]) (f := fun g => .int g.2) (ky := fun g => Qae lv g.1 - Qae lv b) (bd := fun g => [("many", .int g.2), ("a", .int (g.1 : Int))]) (p := fun _ => true)
   (Ev.it (Qab (by k_all) (by k_mem)) rfl) feedFor_pair (by decide +kernel) (fun a => tgtc_two (by k_all) (by k_all) (by k_all) (by k_all)) ?_ (szc (by lia))) ?_) (Qab (by k_all) (by k_mem)))) (by rw [Qfy])) (by k_all) Qad) ?_
 ·intro g hg
  have hgb := Qex hg
  have rowA : (lv.map PV.int)[((g.1 : Nat) : Int).toNat]? = some (.int (Qae lv g.1)) := by
   have : g.1 < lv.length := by lia
   simp [this]
  have rowB : (lv.map PV.int)[((b : Nat) : Int).toNat]? = some (.int (Qae lv b)) := by simp [hb]
  exact ⟨Qbe, fun _ => ⟨Qaj (Qar (Ev.tl (Qan (by k_all) (by k_mem))) (Qab (by k_all) (by k_mem)) (by lia) rowA (by lia)) (Qar (Ev.tl (Qan (by k_all) (by k_mem))) (Qan (by k_all) (by k_mem)) (by lia) rowB (by lia)) Qav, Qab (by k_all) (by k_mem)⟩⟩
 ·rw [Qap]
  show PV.dctI (Qcv (fun g : Nat × Int => Qae lv g.1 - Qae lv b) (fun g => (CV.i g.2).pv) (Qen (cells.map (·.1)) lv b)) = _
  rw [dfold_map CV.pv]; rfl
 refine Qbi (Qez (l := Qen (cells.map (·.1)) lv b) (pv := fun g => .tup [.int (g.1 : Int), .int g.2]) (bd := fun g => [("many", .int g.2), ("a", .int (g.1 : Int))]) (I := fun j ρ ow => ow = none /\ Ctx5 cells lv fl ρ /\ Ctx6 (.dctI (Qca (Qcy (cells.map (·.1)) lv (b + 1)))) (.dctI (Qca (Qev lv (Qcz (cells.map (·.1)) lv b) b ((Qen (cells.map (·.1)) lv b).take j)))) (.lst ((nowF (cells.map (·.1)) lv (b - 1) b).map .int)) (.str (Qbd (rawL lv cells (b + 1)))) (.str (Qbd (Qdx lv cells (b + 1)))) (.str (Qbd (Qdh lv cells (b + 1)))) ρ /\ Qbp ρ "b" = some (.int b) /\ Qbp ρ "now" = some (.lst ((nowF (cells.map (·.1)) lv b (b + 1)).map .int)))
  (Ev.itF (Qab (by k_all) (by k_mem)) rfl) feedFor_pair
  ⟨rfl, ⟨by k_mem, by k_mem, by k_mem, by k_mem, by k_mem, by k_mem⟩, ⟨by k_mem, by k_mem, by k_mem, by k_mem, by k_mem, by k_mem⟩, by k_mem, by k_mem⟩ ?_) ?_
 ·intro j g ρ' _ hg hz
  apply byc;intro kz
  obtain ⟨rfl, ⟨d1, d2, d3, d4, d5, d6⟩, ⟨e1, e2, e3, e4, e5, e6⟩, lb', ln'⟩ := hz
  apply kz;clear kz
  refine ⟨tgt_two (by k_all) Qad (by k_all) Qad, ?_⟩
  have hgm := List.mem_of_getElem? hg
  have hgb := Qex hgm
  have htk : Qev lv (Qcz (cells.map (·.1)) lv b) b ((Qen (cells.map (·.1)) lv b).take (j + 1)) = acF (Qev lv (Qcz (cells.map (·.1)) lv b) b ((Qen (cells.map (·.1)) lv b).take j)) (Qea lv b g) := by
   rw [List.take_succ, hg]
   unfold Qev
   rw [List.foldl_append]; rfl
  rw [htk]
  exact join_body G (by lia) hl hlv hb (OkJ.at hb _ (fun q hq => Qex (List.mem_of_mem_take hq)) kJ) hgb ⟨by k_mem, by k_mem, by k_mem, by k_mem, by k_mem, by k_mem⟩ ⟨by k_mem, by k_mem, by k_mem, by k_mem, by k_mem, by k_mem⟩ (by k_mem) (by k_mem) (by k_mem) (by k_mem)
 intro ρ2 _ hz
 apply byc;intro kz
 obtain ⟨rfl, ⟨d1, d2, d3, d4, d5, d6⟩, ⟨e1, e2, e3, e4, e5, e6⟩, lb2, ln2⟩ := hz
 apply kz;clear kz
 rw [List.take_length, ← Qfz] at e2
 refine Qai (Qak (Qan (by k_all) ln2) (by k_all) Qad) ?_
 exact Qcb ⟨rfl, ⟨by k_mem, by k_mem, by k_mem, by k_mem, by k_mem, by k_mem⟩, ⟨by k_mem, by k_mem, by k_mem, by k_mem, by k_mem, by k_mem⟩⟩
end
section
set_option tactic.hygienic false
theorem quoteB_arr {l : List Nat} (h : ∀ c ∈ l, c < 256) : quoteB (byteArr (l.map fun (c : Nat) => (c : Int))) = byteArr ((Qau true l).map fun (c : Nat) => (c : Int)) := by
 have e : (byteArr (l.map fun (c : Nat) => (c : Int))).toList.map UInt8.toNat = l := by
  unfold byteArr
  rw [List.map_map, List.map_map]
  conv => rhs; rw [← List.map_id l]
  apply List.map_congr_left
  intro c hc
  have := h c hc
  show (((c : Int).toNat).toUInt8).toNat = c
  rw [Int.toNat_natCast]
  simp
  lia
 unfold quoteB
 rw [e]
 unfold byteL byteArr
 rw [List.map_map]
 rfl
theorem ev_ords (G : Gl C) {e : Expr} {l : List Nat} {sc : Scope} {p1 p2 p3 p4 pos : Pos} (h : Ev C n nm ρ ow e (.str (Qbd l))) (hz : l.length <= sizeLine) (hsc : Qdn nm sc = true) (hk1 : (Qdm sc.names "sign" || Qdi sc.names "sign") = true) (hk2 : Qdw sc.names "sign" = false) (hk3 : Qdm sc.names "sign" = true) (ho : gloB sc.names "ord" = true)
  (hs : ∀ env x, foldedSetIterable e env x = pure x := by k_all) :
  Ev C n nm ρ ow (.ListComp (.Call (.Name "ord" p1) [.Name "sign" p2] [] p3) [⟨.Name "sign" p4, e, [], 0⟩] sc pos) (.lst ((l.map fun (c : Nat) => (c : Int)).map .int)) := by
 refine Ev.cast (Qas (l := l) (pv := fun c => .str ⟨#[c]⟩) (f := fun c => .int (c : Int)) (bd := fun c => [("sign", .str ⟨#[c]⟩)]) (p := fun _ => true) (Ev.it h (by show some ((Qbd _).cps.toList.map _) = _; rw [Qce])) Qac hsc (fun a => Qat hk1 hk2) ?_ hz hs) (by rw [Qap, List.map_map]; rfl)
 intro c hc
 exact ⟨Qbe, fun _ => Qbh G.b_ord Qaq ho (Qaw (Qab hk3 lk_here)) opF_ord⟩
theorem ex_imp {body : List Stmt} {N : Qbs -> Option (Str × PV) -> Prop} {R R' : PV -> Prop} (h : Ex C n nm body ρ ow N R) (hr : ∀ d, R d -> R' d) : Ex C n nm body ρ ow N R' := by
 intro A Xo env oa s rm st ok
 refine wpAny_mono (h A Xo env oa s rm st ok) (fun f s₁ ⟨st1, fr, h⟩ => ⟨st1, fr, ?_⟩) nof
 cases f with
 | next => exact h
 | ret v => obtain ⟨d, h1, h2⟩ := h; exact ⟨d, h1, hr d h2⟩
 | brk => exact h
 | cont => exact h
set_option maxHeartbeats 2000000 in
theorem lives_body (G : Gl C) (h7 : 7 <= n) {cells : List (Int × List Nat)} {lv : List Int} (hm : ∀ p ∈ cells, p.2 ∈ menuL) (hn : cells.length <= 30) (hl : lv.length <= 30) (hlv : ∀ x ∈ lv, 0 <= x /\ x <= 1000) {fl : PV} :
  Ex C n (Qaf 72).names (Qax 72) [("high", hiV cells), ("levels", lvV lv), ("ends", enV cells), ("faults", fl)] none (fun _ _ => False)
   (fun e => e = .tup [.dctI (Qca (Qcy (cells.map (·.1)) lv lv.length)), .dctI (Qca (Qcz (cells.map (·.1)) lv lv.length))]) := by
 refine Qai (Qcu (l := lv) (pv := .int) (f := fun l => .lst ((cells.map (·.1)).map fun h => .bool (decide (256 <= 256 + h - l)))) (bd := fun l => [("level", .int l)]) (p := fun _ => true) (by k_all) Qad
  (Ev.it (Qan (by k_all) (by k_mem)) rfl) Qac (by decide +kernel) (fun a => Qat (by k_all) (by k_all)) ?_ (szc (by lia))) ?_
 ·intro l hlm
  refine ⟨Qbe, fun _ => Ev.cast (Qas (l := cells.map (·.1)) (pv := .int) (f := fun h => .bool (decide (256 <= 256 + h - l))) (bd := fun h => [("height", .int h)]) (p := fun _ => true) (Ev.it (Qan (by k_all) (by k_mem)) rfl) Qac (by decide +kernel) (fun a => Qat (by k_all) (by k_all)) ?_ (by rw [List.length_map]; exact szc (by lia))) (by rw [Qap])⟩
  intro h hh
  exact ⟨Qbe, fun _ => Qfr ((sp_isnonterminal G : Spec C (0 + 1) _ _ _).le (by lia)) (by k_all) (Qaw (Qaj (Qaj Qag (Qab (by k_all) (by k_mem)) Qbo) (Qan (by k_all) (by k_mem)) Qav))⟩
 rw [Qap]
 refine Qai (Qcu (l := lv) (pv := .int) (f := fun l => .lst ((cells.map (·.1)).map fun h => .bool (decide (256 + h - l < 256)))) (bd := fun l => [("level", .int l)]) (p := fun _ => true) (by k_all) Qad
  (Ev.it (Qan (by k_all) (by k_mem)) rfl) Qac (by decide +kernel) (fun a => Qat (by k_all) (by k_all)) ?_ (szc (by lia))) ?_
 ·intro l hlm
  refine ⟨Qbe, fun _ => Ev.cast (Qas (l := cells.map (·.1)) (pv := .int) (f := fun h => .bool (decide (256 + h - l < 256))) (bd := fun h => [("height", .int h)]) (p := fun _ => true) (Ev.it (Qan (by k_all) (by k_mem)) rfl) Qac (by decide +kernel) (fun a => Qat (by k_all) (by k_all)) ?_ (by rw [List.length_map]; exact szc (by lia))) (by rw [Qap])⟩
  intro h hh
  exact ⟨Qbe, fun _ => Qfr ((sp_isterminal G : Spec C (0 + 1) _ _ _).le (by lia)) (by k_all) (Qaw (Qaj (Qaj Qag (Qab (by k_all) (by k_mem)) Qbo) (Qan (by k_all) (by k_mem)) Qav))⟩
 rw [Qap]
 refine Qai (ρ' := (("lives" : Str), PV.dctI []) :: (("joins" : Str), PV.dctI []) :: (("old" : Str), PV.lst []) :: _) (exs_tup (ps := [(("lives", _), .dctI []), (("joins", _), .dctI []), (("old", _), .lst [])])
   (Qbz (Qds ev_dict0 ev_dict0 (Qgd Qdt (sz10 rfl))) (sz10 rfl))
   ?_ (show ([("lives" : Str), "joins", "old"] : List Str).Nodup by decide +kernel) (by intro _; rfl) (fun env => swappedN (xs := [("lives", _), ("joins", _), ("old", _)]) (.inl rfl) env) (by intro _; rfl)) ?_
 ·intro p hp
  revert p; refine al ?_ (al ?_ (al ?_ an)) <;> exact ⟨by k_all, Qad⟩
 refine Qai (ρ' := (("raw" : Str), PV.str "") :: (("plain" : Str), PV.str "") :: (("posted" : Str), PV.str "") :: _) (exs_tup (ps := [(("raw", _), .str ""), (("plain", _), .str ""), (("posted", _), .str "")])
   (Qbz (Qds Qdf Qdf Qdf) (sz10 rfl))
   ?_ (show ([("raw" : Str), "plain", "posted"] : List Str).Nodup by decide +kernel) (by intro _; rfl) (fun env => swappedN (xs := [("raw", _), ("plain", _), ("posted", _)]) (.inr rfl) env) (by intro _; rfl)) ?_
 ·intro p hp
  revert p; refine al ?_ (al ?_ (al ?_ an)) <;> exact ⟨by k_all, Qad⟩
 have e0 : ("" : Str) = Qbd [] := by decide +kernel
 have c6_0 : ∀ {ρ : Qbs}, Qbp ρ "lives" = some (.dctI []) -> Qbp ρ "joins" = some (.dctI []) -> Qbp ρ "old" = some (.lst []) -> Qbp ρ "raw" = some (.str "") -> Qbp ρ "plain" = some (.str "") -> Qbp ρ "posted" = some (.str "") ->
   Ctx6 (.dctI (Qca (Qcy (cells.map (·.1)) lv 0))) (.dctI (Qca (Qcz (cells.map (·.1)) lv 0))) (.lst ((nowF (cells.map (·.1)) lv (0 - 1) 0).map .int)) (.str (Qbd (rawL lv cells 0))) (.str (Qbd (Qdx lv cells 0))) (.str (Qbd (Qdh lv cells 0))) ρ := fun h1 h2 h3 h4 h5 h6 =>
  ⟨h1, h2, h3, by rw [h4, e0]; rfl, by rw [h5, e0]; rfl, by rw [h6, e0]; rfl⟩
 refine Qbi (Qez (l := List.range lv.length) (pv := fun b => .int (b : Int)) (bd := fun b => [("b", .int (b : Int))]) (I := fun b ρ ow => ow = none /\ Ctx5 cells lv fl ρ /\ Ctx6 (.dctI (Qca (Qcy (cells.map (·.1)) lv b))) (.dctI (Qca (Qcz (cells.map (·.1)) lv b))) (.lst ((nowF (cells.map (·.1)) lv (b - 1) b).map .int)) (.str (Qbd (rawL lv cells b))) (.str (Qbd (Qdx lv cells b))) (.str (Qbd (Qdh lv cells b))) ρ)
  (Ev.itF (Ev.cast (ev_rng G (by k_all) (ev_len G (by k_all) (Qan (by k_all) (by k_mem)) (by rw [List.length_map]; exact szc (by lia)))) (by rw [List.length_map])) (Qdp _ (by lia))) Qac
  ⟨rfl, ⟨by k_mem, by k_mem, by k_mem, by k_mem, by k_mem, by k_mem⟩, c6_0 (by k_mem) (by k_mem) (by k_mem) (by k_mem) (by k_mem) (by k_mem)⟩ ?_) ?_
 ·rintro j b ρ' _ hb ⟨rfl, ⟨d1, d2, d3, d4, d5, d6⟩, ⟨e1, e2, e3, e4, e5, e6⟩⟩
  have hjb : j = b /\ b < lv.length := by
   rw [List.getElem?_eq_some_iff] at hb
   obtain ⟨h1, h2⟩ := hb
   rw [List.getElem_range] at h2
   rw [List.length_range] at h1
   lia
  obtain ⟨rfl, hb⟩ := hjb
  refine ⟨tgt_one (by k_all) Qad, ?_⟩
  have := outer_body (ρ := ("b", PV.int (j : Int)) :: ρ') (fl := fl) G h7 hm hn hl hlv hb ⟨by k_mem, by k_mem, by k_mem, by k_mem, by k_mem, by k_mem⟩ ⟨by k_mem, by k_mem, by k_mem, by k_mem, by k_mem, by k_mem⟩ (by k_mem)
  exact ex_imp this (fun _ => False.elim)
 rintro ρ1 _ ⟨rfl, ⟨d1, d2, d3, d4, d5, d6⟩, ⟨e1, e2, e3, e4, e5, e6⟩⟩
 rw [List.length_range] at e1 e2 e4 e5 e6
 have w1 := raw_len lv cells lv.length hm
 have w2 := plain_len lv cells lv.length hm
 have w3 := posted_len lv cells lv.length hm
 have s1 := raw_sign lv cells lv.length hm
 have s2 := plain_sign lv cells lv.length hm
 have f1 := fix_raw lv cells lv.length
 have f2 := quote_plain lv cells lv.length
 have big1 : (3 * cells.length + 2) * lv.length <= 92 * 30 := Nat.mul_le_mul (by lia) (by lia)
 have big2 : (6 * cells.length + 2) * lv.length <= 182 * 30 := Nat.mul_le_mul (by lia) (by lia)
 generalize rawL lv cells lv.length = raw at *
 generalize Qdx lv cells lv.length = plain at *
 generalize Qdh lv cells lv.length = posted at *
 have app : ∀ {ρ : Qbs} {ow : Option (Str × PV)} {p1 p2 p3 : Pos}, Qbp ρ "raw" = some (.str (Qbd raw)) -> Qbp ρ "plain" = some (.str (Qbd plain)) -> Ev C n (Qaf 72).names ρ ow (.BinOp (.Name "raw" p1) .Add (.Name "plain" p2) p3) (.str (Qbd (raw ++ plain))) := fun h1 h2 =>
  Ev.cast (Qaj (Qab (by k_all) h1) (Qab (by k_all) h2) (op_add_str (by rw [Qcg, Qcg]; exact szc (by lia)))) (by rw [strL_app])
 have hlen : (raw ++ plain).length <= 8220 := by rw [List.length_append]; lia
 have hrows := splitL_len 10 (raw ++ plain)
 have hdl := dot_len (Qbt 10 (raw ++ plain))
 have l1 : ("\n" : Str).length = 1 := by decide +kernel
 have g1 : ("\n" : Str).cps.toList = [10] := by decide +kernel
 have hq : Qew ("\n" : Str).cps.toList ((Qbt 10 (raw ++ plain)).map dotL) = Qau true (raw ++ plain) := by rw [g1, quote_rows, Qff]
 have hs : ∀ c ∈ raw ++ plain, c < 256 := fun c hc => by
  rw [List.mem_append] at hc
  exact hc.elim (s1 c) (s2 c)
 have hqs := quoteL_sign (raw ++ plain) true hs
 have hql := Qfl true (raw ++ plain)
 refine Qai (Qak (Ev.cast (ev_joinL (rows := (Qbt 10 (raw ++ plain)).map dotL) (ev_dotrows (Ev.it (ev_splitL (app e4 e5) (by rw [Qcg]; unfold sizeLine; lia)) (by rw [Qce]; rfl)) (by decide +kernel) (by k_all) (by k_all) (by k_all) (szc (by lia)) ?_) (by rw [l1, List.length_map]; lia)) (by rw [hq])) (by k_all) Qad) ?_
 ·intro r hr
  have := le_sum_mem (List.mem_map.mpr ⟨r, hr, rfl⟩ : r.length ∈ (Qbt 10 (raw ++ plain)).map List.length)
  exact szc (by lia)
 have hints : ∀ (l : List Nat), (∀ c ∈ l, c < 256) -> ∀ x ∈ l.map (fun (c : Nat) => (c : Int)), 0 <= x /\ x < 256 := fun l h x hx => by
  rw [List.mem_map] at hx
  obtain ⟨c, hc, rfl⟩ := hx
  have := h c hc
  lia
 refine Qai (Qak (Ev.cast (Qfr ((sp_quote_periods G (b := byteArr ((raw ++ plain).map fun (c : Nat) => (c : Int))) (by rw [byteArr_size, List.length_map]; exact szc (by lia)) : Spec C (3 + 1) _ _ _).le (by lia)) (by k_all) (Qaw
  (Qbh G.b_bytes Qcj (by k_all) (Qaw (ev_ords G (l := raw ++ plain) (app (by k_mem) (by k_mem)) (szc (by lia)) (by decide +kernel) (by k_all) (by k_all) (by k_all) (by k_all))) (opF_bytes (hints _ hs) (by rw [List.length_map]; exact szc (by lia)))))) (by rw [quoteB_arr hs])) (by k_all) Qad) ?_
 have sq : quoteS (fixS (Qbd raw)) = Qbd posted := by unfold quoteS fixS; rw [Qce, Qce, f1, f2]
 have sf : fixS (Qbd raw) = Qbd plain := by unfold fixS; rw [Qce, f1]
 have hz8 : 8 * (Qbd raw).length + 4 <= sizeLine := by rw [Qcg]; exact szc (by lia)
 refine Qbi (Qey (N := fun p q => p = (("octets" : Str), PV.bytes (byteArr ((Qau true (raw ++ plain)).map fun (c : Nat) => (c : Int)))) :: (("due" : Str), PV.str (Qbd (Qau true (raw ++ plain)))) :: ρ1 /\ q = none) (b := false)
  (Tv.cast (tv_or (Qbk (Qfr (sq ▸ (sp_quotedata G hz8 : Spec C (3 + 1) _ _ _).le (by lia)) (by k_all) (Qaw (Qab (by k_all) (by k_mem)))) (Qab (by k_all) (by k_mem)) Qfm) fun _ => tv_or (Qbk (Qfr (sf ▸ (sp_fix_eols G hz8 : Spec C (3 + 1) _ _ _).le (by lia)) (by k_all) (Qaw (Qab (by k_all) (by k_mem)))) (Qab (by k_all) (by k_mem)) Qfm) fun _ =>
   tv_or (Qbk (Qab (by k_all) (by k_mem)) (Qbh G.b_bytes Qcj (by k_all) (Qaw (ev_ords G (l := Qau true (raw ++ plain)) (Qab (by k_all) (by k_mem)) (szc (by lia)) (by decide +kernel) (by k_all) (by k_all) (by k_all) (by k_all))) (opF_bytes (hints _ hqs) (by rw [List.length_map]; exact szc (by lia)))) opc_ne_bytes) fun _ => tv_or_nil) ?_) (fun q => nomatch q) fun _ => Qcb ⟨rfl, rfl⟩) ?_
 ·simp
 rintro _ _ ⟨rfl, rfl⟩
 exact Qef (Qbz (Qby (Qab (by k_all) (by k_mem)) (Qab (by k_all) (by k_mem))) (sz10 rfl)) rfl
theorem sp_lives (G : Gl C) {cells : List (Int × List Nat)} {lv : List Int} (hm : ∀ p ∈ cells, p.2 ∈ menuL) (hn : cells.length <= 30) (hl : lv.length <= 30) (hlv : ∀ x ∈ lv, 0 <= x /\ x <= 1000) {fl : PV} :
  Spec C 8 "_law_lives" [hiV cells, lvV lv, enV cells, fl] (.tup [.dctI (Qca (Qcy (cells.map (·.1)) lv lv.length)), .dctI (Qca (Qcz (cells.map (·.1)) lv lv.length))]) :=
 .of (xs := ["high", "levels", "ends", "faults"]) G.lives (by decide +kernel) (by decide +kernel) rfl (fun pm cd doc vs h => by obtain ⟨a, b, c, d, rfl⟩ := vs4 h; rfl) (lives_body G (by lia) hm hn hl hlv)
end
section
set_option tactic.hygienic false
theorem sp_cut (G : Gl C) {td : PV} {tab : List (Str × Int)} {t0 : Str} (T : TabOK C td tab) (ha : All1 tab t0) (hsz : t0.length <= 1000) : Spec C 5 "_law_cut" [.str t0, td] (.lst ((cutF tab t0.length t0).map .int)) :=
 .of (xs := ["text", "table"]) G.cut (by decide +kernel) (by decide +kernel) rfl (fun pm cd doc vs h => by obtain ⟨a, b, rfl⟩ := vs2 h; rfl) (cut_body T ha hsz G (by lia))
theorem TabOK.glob (G : Gl C) : ∃ a, C.mg "EXACT_TOKEN_TYPES" = some (.ref a) /\ TabOK C (.raw (.ref a)) etab := by
 apply byc;intro kz
 obtain ⟨a, kvs, h1, h2, h3, h4⟩ := G.ett
 apply kz;clear kz
 have hd : ∀ {s : Shared}, St C s -> Qep s.heap (SK C) a kvs := fun st => by
  apply byc;intro kz
  obtain ⟨⟨o, es, ep, ho, hc, hd, r⟩, o', ho', hn⟩ := h3
  apply kz;clear kz
  rw [ho] at ho'; cases ho'
  have := st.h0 ho fun vs e => by rw [e] at hd; cases hd
  exact ⟨⟨o, es, ep, this, hc, hd, r⟩, o, this, hn⟩
 refine ⟨a, h1, ⟨?_, ?_⟩⟩
 ·intro n k A X s v1 v2 rm st lo r1 r2
  subst r2
  have r1' : Rel C (fun _ => False) s.heap (.str k) v1 := by exact r1
  have r2' : Rel C (fun _ => False) s.heap (.dctS (tabS etab)) (.ref a) := by
   exact ⟨a, kvs, rfl, ⟨fun q => q, h2⟩, hd st, h4 _ _⟩
  refine wpAny_mono ((TabOK.of (C := C) etab).inn (n := n) A _ s v1 (.ref a) rm st (fun b q => q.elim) r1' r2') (fun v s' ⟨p1, p2, p3⟩ => ⟨p1, p2, ?_⟩) nof
  exact p3
 ·intro X s v st r
  subst r
  exact ⟨a, rfl, h2, kvs, hd st, h4 _ _⟩
theorem intsAre_rel {h : Heap} : ∀ {vs : List Value} {l : List Int}, IntsAre vs l -> RelL C X h (l.map .int) vs
 | _, _, .nil => rfl
 | _, _, .cons x t r => by
  exact ⟨_, _, rfl, ⟨t, rfl⟩, intsAre_rel r⟩
theorem ev_slice3 {v e1 e2 e3 : Expr} {p pos : Pos} {l : List Int} {a b c : Int} (hc : c ≠ 0) (hv : EvT C n nm ρ ow v (.lst (l.map .int))) (h1 : Ev C n nm ρ ow e1 (.int a)) (h2 : Ev C n nm ρ ow e2 (.int b)) (h3 : Ev C n nm ρ ow e3 (.int c)) (hsz : l.length <= sizeLine)
  (ht : ∀ o r, letTemporaryGo v o r = pure () := by k_all) :
  Ev C n nm ρ ow (.Subscript v (.Slice (some e1) (some e2) (some e3) p) pos) (.lst ((pickNums l (some a) (some b) (some c)).map .int)) := by
 have part : ∀ {e : Expr} {i : Int}, Ev C n nm ρ ow e (.int i) -> ∀ A Xo env oa s, Room A n -> St C s -> EnvOK C nm Xo env oa s.heap ρ ow ->
   wpAny (Mo C) A (evalPart (some e) env) (fun v s' => St C s' /\ Kp C s s' /\ IsPart v (some i)) NoE s := by
  intro e i h A Xo env oa s rm st ok
  rw [evalPart_some]
  exact wpAny_mono (h A Xo env oa s rm st ok) (fun v s₁ ⟨st1, k1, r1⟩ => ⟨st1, k1, by obtain ⟨t, rfl⟩ := r1; exact .int i t⟩) nof
 intro A Xo env oa s rm st ok
 refine wpAny_Subscript_Slice_step F.slot_list_getitem.lookup (T := "list") (wpAny_mono (hv A Xo env oa s rm st ok) (fun v1 s₁ hz => ?_) nof) ht
 apply byc;intro kz
 obtain ⟨st1, k1, a', e, t1⟩ := hz
 apply kz;clear kz
 subst e
 have ok1 := ok.kp st st1 k1
 refine wpAny_Slice (wpAny_mono (part h1 A Xo env oa s₁ rm st1 ok1) (fun vl s₂ hz => ?_) nof)
 apply byc;intro kz
 obtain ⟨st2, k2, pl⟩ := hz
 apply kz;clear kz
 have ok2 := ok1.kp st1 st2 k2
 refine wpAny_mono (part h2 A Xo env oa s₂ rm st2 ok2) (fun vu s₃ hz => ?_) nof
 apply byc;intro kz
 obtain ⟨st3, k3, pu⟩ := hz
 apply kz;clear kz
 have ok3 := ok2.kp st2 st3 k3
 refine wpAny_mono (part h3 A Xo env oa s₃ rm st3 ok3) (fun vc s₄ hz => ?_) nof
 apply byc;intro kz
 obtain ⟨st4, k4, pc⟩ := hz
 apply kz;clear kz
 have ok4 := ok3.kp st3 st4 k4
 apply byc;intro kz
 obtain ⟨us, m, e, rl⟩ := ((t1.kp st1 k2).kp st2 k3).kp st3 k4
 apply kz;clear kz
 have e' : (s₄.heap.push { cls := .type "slice", data := .fields #[vl, vu, vc] }).get? a' = some (Qay "list" us m) := Qaa _ _ e
 refine ⟨⟨_, e', rfl⟩, ?_⟩
 have st5 : St C { s₄ with heap := s₄.heap.push { cls := .type "slice", data := .fields #[vl, vu, vc] } } := st4.of_keep Qaa rfl rfl
 have hlen : us.length = l.length := by simpa using rl.length
 refine wpAny_getItem_list_slice ⟨_, e', rfl, _, rfl⟩ (Heap.IsSliceOf.new _ _ _ _) pl pu pc (by simpa using hc) ?_ (by simpa [hlen] using hsz)
 have lo4 : LowX (XS Xo env oa) (s₄.heap.push { cls := .type "slice", data := .fields #[vl, vu, vc] }) := fun b q => let ⟨o, ho, hc⟩ := ok4.lowX b q; ⟨o, Qaa _ _ ho, hc⟩
 have ip := IntsAre.pick (Qci rl) (some a) (some b) (some c)
 have := new_lst lo4 (intsAre_rel (C := C) (X := XS Xo env oa) (h := s₄.heap.push { cls := .type "slice", data := .fields #[vl, vu, vc] }) ip)
 refine ⟨st5.of_keep (s' := { s₄ with heap := _ }) Qaa rfl rfl, fun b o h e => Qaa _ _ (Qaa _ _ (k4 b o h (k3 b o h (k2 b o h (k1 b o h e))))), ?_⟩
 simpa using this
theorem opF_range3 {a b c : Int} (hc : c ≠ 0) (hpl : Builtin.divisionGoesByPylong (b - a) c = false) : OpF C n (.type "range") [.int a, .int b, .int c] (.rng a b c) := by
 intro A X s vs rm st lo r
 apply byc;intro kz
 obtain ⟨v, _, rfl, ⟨t, rfl⟩, v2, _, rfl, ⟨t2, rfl⟩, v3, _, rfl, ⟨t3, rfl⟩, rfl⟩ := r
 apply kz;clear kz
 refine call_range_3 hc (Qdd st Qaa ?_) (.inl hpl)
 exact ⟨_, _, _, _, rfl, lo.fresh, Heap.get?_push_size _ rfl⟩
noncomputable abbrev sgnT : Str := "( ) [ ] : , ; + - * / | & < > = . % { } == != <= >= ~ ^ << >> ** += -= *= /= %= &= |= ^= <<= >>= **= // //= @ @= -> ... := !"
noncomputable def sgn : List Str := [("(" : Str), (")" : Str), ("[" : Str), ("]" : Str), (":" : Str), ("," : Str), (";" : Str), ("+" : Str), ("-" : Str), ("*" : Str), ("/" : Str), ("|" : Str), ("&" : Str), ("<" : Str), (">" : Str), ("=" : Str), ("." : Str), ("%" : Str), ("{" : Str), ("}" : Str), ("==" : Str), ("!=" : Str), ("<=" : Str), (">=" : Str), ("~" : Str), ("^" : Str), ("<<" : Str), (">>" : Str), ("**" : Str), ("+=" : Str), ("-=" : Str), ("*=" : Str), ("/=" : Str), ("%=" : Str), ("&=" : Str), ("|=" : Str), ("^=" : Str), ("<<=" : Str), (">>=" : Str), ("**=" : Str), ("//" : Str), ("//=" : Str), ("@" : Str), ("@=" : Str), ("->" : Str), ("..." : Str), (":=" : Str), ("!" : Str)]
theorem sgn_split : Txt.split sgnT " " = sgn := by decide +kernel
theorem sgn_len : sgn.length = 48 := rfl
noncomputable def ltab : List (Str × Int) := Qcv (fun (k : Nat) => sgn.getD k "") (fun (k : Nat) => (7 + k : Int)) (List.range 48)
theorem tab_keys1 : ∀ k ∈ etab.map (·.1), Qcm etab k = Qcm ltab k := by decide +kernel
theorem tab_keys2 : ∀ k ∈ ltab.map (·.1), k ∈ etab.map (·.1) := by decide +kernel
theorem tab_eq (k : Str) : Qcm etab k = Qcm ltab k := by
 by_cases h : k ∈ etab.map (·.1)
 ·exact tab_keys1 k h
 ·have none_of : ∀ {l : List (Str × Int)}, k ∉ l.map (·.1) -> Qcm l k = none := fun {l} h => by
   unfold Qcm
   rw [Option.map_eq_none_iff, List.find?_eq_none]
   intro p hp q
   exact h (List.mem_map.mpr ⟨p, hp, by simpa using q⟩)
  rw [none_of h, none_of fun q => h (tab_keys2 k q)]
theorem cutF_congr {t1 t2 : List (Str × Int)} (h : ∀ k, Qcm t1 k = Qcm t2 k) : ∀ (f : Nat) (t : Str), cutF t1 f t = cutF t2 f t
 | 0, _ => rfl
 | f + 1, t => by
  have hs : szS t1 t = szS t2 t := by unfold szS dhas; rw [h, h]
  unfold cutF
  rw [hs, h, cutF_congr h f]
theorem sgn_chars : ∀ x ∈ sgn, x.length <= 3 /\ x.length ≠ 0 /\ ∀ c ∈ x.cps.toList, dhas etab ⟨#[c]⟩ = true := by decide +kernel
theorem etab_vals : ∀ p ∈ etab, 7 <= p.2 /\ p.2 <= 54 := by decide +kernel
theorem cutF_vals : ∀ (f : Nat) (t : Str), All1 etab t -> ∀ x ∈ cutF etab f t, 7 <= x /\ x <= 54
 | 0, _, _, x, h => by cases h
 | f + 1, t, ha, x, h => by
  unfold cutF at h
  split at h
  ·cases h
  ·rename_i h0
   rcases List.mem_cons.mp h with rfl | h
   ·obtain ⟨v, hv⟩ := Option.isSome_iff_exists.mp (show (Qcm etab (Qfg t (szS etab t))).isSome = true from szS_has ha h0)
    rw [hv]
    exact etab_vals _ (Qdg hv)
   ·exact cutF_vals f _ (ha.drop _) x h
theorem cutF_len (tab : List (Str × Int)) : ∀ (f : Nat) (t : Str), (cutF tab f t).length <= f
 | 0, _ => Nat.le_refl _
 | f + 1, t => by
  unfold cutF
  split
  ·exact Nat.zero_le _
  ·rw [List.length_cons]; have := cutF_len tab f (dropS t (szS tab t)); lia
end
section
set_option tactic.hygienic false
noncomputable def baseL : List Int := [13, 2, 25, 7, 18, 2, 24, 155161, 41, 2]
noncomputable def Qcf (L : List Int) (k : Nat) : Int := baseL.getD k 0 + ((pickNums L (some (k : Int)) (some 60) (some 10)).map fun x => x.fmod 1000000).sum
noncomputable def txtF (L : List Int) : Str := Txt.join "" ((List.range 7).map fun k => sgn.getD ((Qcf L k).fmod 48).toNat "")
noncomputable def Qbu (L : List Int) : List Int := cutF etab (txtF L).length (txtF L)
noncomputable def endF (L : List Int) (k : Nat) : List Nat := menuL.getD (((Qcf L 7).fdiv (6 ^ k)).fmod 6).toNat []
noncomputable def cellsF (L : List Int) : List (Int × List Nat) := (List.range (Qbu L).length).map fun k => ((Qbu L).getD k 0, endF L k)
noncomputable def wayF (L : List Int) : Int := [1, -1, 2, -3].getD ((Qcf L 9).fmod 4).toNat 1
structure RowOK (h : List Int) : Prop where
 ne : h ≠ []
 len : h.length <= 21
 val : ∀ x ∈ h, 7 <= x /\ x <= 54
theorem fst_range (h : List Int) (f : Nat -> List Nat) : (((List.range h.length).map fun k => (h.getD k 0, f k)).map (·.1)) = h := by
 rw [List.map_map]
 exact (Qfx h 0 (fun x => x)).trans (List.map_id' h)
theorem cells_high (L : List Int) : (cellsF L).map (·.1) = Qbu L := fst_range _ _
theorem cells_len (L : List Int) : (cellsF L).length = (Qbu L).length := by unfold cellsF; rw [List.length_map, List.length_range]
theorem menu_mem (i : Nat) (h : i < 6) : menuL.getD i [] ∈ menuL := by
 have : i < menuL.length := h
 rw [List.getD_eq_getElem?_getD, List.getElem?_eq_getElem this]
 exact List.getElem_mem _
theorem Qfh {a b : Int} (hb : 0 < b) : 0 <= a.fmod b /\ a.fmod b < b := ⟨Int.fmod_nonneg_of_pos a hb, Int.fmod_lt_of_pos a hb⟩
theorem cells_menu (L : List Int) : ∀ p ∈ cellsF L, p.2 ∈ menuL := by
 intro p hp
 unfold cellsF at hp
 rw [List.mem_map] at hp
 obtain ⟨k, _, rfl⟩ := hp
 refine menu_mem _ ?_
 have := Qfh (a := (Qcf L 7).fdiv (6 ^ k)) (b := 6) (by decide)
 omega
theorem sgn_at (a : Int) : ∃ x, sgn[(a.fmod 48).toNat]? = some x /\ sgn.getD (a.fmod 48).toNat "" = x /\ x ∈ sgn := by
 have := Qfh (a := a) (b := 48) (by decide)
 have hi : (a.fmod 48).toNat < sgn.length := by rw [sgn_len]; omega
 exact ⟨sgn[(a.fmod 48).toNat], by simp [hi], by simp [hi], List.getElem_mem hi⟩
theorem txt_list (L : List Int) : (txtF L).cps.toList = (((List.range 7).map fun k => sgn.getD ((Qcf L k).fmod 48).toNat "").map fun x => x.cps.toList).flatten := by
 unfold txtF
 rw [join_list']
 have e : ("" : Str).cps.toList = [] := by decide +kernel
 rw [e, joinL_nil]
theorem txt_all (L : List Int) : All1 etab (txtF L) := by
 intro c hc
 rw [txt_list, List.mem_flatten] at hc
 obtain ⟨l, hl, hc⟩ := hc
 rw [List.mem_map] at hl
 obtain ⟨x, hx, rfl⟩ := hl
 rw [List.mem_map] at hx
 obtain ⟨k, _, rfl⟩ := hx
 obtain ⟨x, _, e2, e3⟩ := sgn_at (Qcf L k)
 rw [e2] at hc
 exact (sgn_chars x e3).2.2 c hc
theorem sgn_len3 (L : List Int) (k : Nat) : (sgn.getD ((Qcf L k).fmod 48).toNat "").length <= 3 := by
 obtain ⟨x, _, e2, e3⟩ := sgn_at (Qcf L k)
 rw [e2]
 exact (sgn_chars x e3).1
theorem txt_len (L : List Int) : (txtF L).length <= 21 /\ (txtF L).length ≠ 0 := by
 have h1 : (txtF L).length = ((((List.range 7).map fun k => sgn.getD ((Qcf L k).fmod 48).toNat "").map fun x => x.cps.toList).map List.length).sum := by
  rw [← Qal, txt_list, List.length_flatten]
 have h2 : (((List.range 7).map fun k => sgn.getD ((Qcf L k).fmod 48).toNat "").map fun x => x.cps.toList).map List.length = (List.range 7).map fun k => (sgn.getD ((Qcf L k).fmod 48).toNat "").length := by
  rw [List.map_map, List.map_map]
  apply List.map_congr_left
  intro k _
  exact Qal _
 rw [h2] at h1
 have h3 : ∀ k, (sgn.getD ((Qcf L k).fmod 48).toNat "").length <= 3 /\ (sgn.getD ((Qcf L k).fmod 48).toNat "").length ≠ 0 := fun k => by
  obtain ⟨x, _, e2, e3⟩ := sgn_at (Qcf L k)
  rw [e2]
  exact ⟨(sgn_chars x e3).1, (sgn_chars x e3).2.1⟩
 have e7 : (List.range 7) = [0, 1, 2, 3, 4, 5, 6] := by decide
 rw [e7] at h1
 simp only [List.map_cons, List.map_nil, List.sum_cons, List.sum_nil] at h1
 have a := fun k => (h3 k).1
 rw [h1]
 exact ⟨Nat.add_le_add (a 0) (Nat.add_le_add (a 1) (Nat.add_le_add (a 2) (Nat.add_le_add (a 3) (Nat.add_le_add (a 4) (Nat.add_le_add (a 5) (Nat.add_le_add (a 6) (Nat.le_refl 0))))))), fun q => (h3 0).2 (Nat.add_eq_zero_iff.mp q).1⟩
theorem high_ok (L : List Int) : RowOK (Qbu L) := by
 have hl := txt_len L
 refine ⟨fun e => ?_, Nat.le_trans (cutF_len _ _ _) hl.1, cutF_vals _ _ (txt_all L)⟩
 unfold Qbu at e
 obtain ⟨f, hf⟩ := Nat.exists_eq_succ_of_ne_zero hl.2
 rw [hf] at e
 unfold cutF at e
 rw [if_neg hl.2] at e
 cases e
noncomputable def rng54 : List Int := (List.range 48).map fun (i : Nat) => 54 - (i : Int)
noncomputable def Qcq (h : List Int) : List Int := [0] ++ (((List.range h.length).filter fun k => k == 0 || h.getD k 0 != h.getD (k - 1) 0).map fun k => h.getD k 0) ++ [0]
noncomputable def turnsF (h : List Int) : List Int := ((List.range ((Qcq h).length - 2)).filter fun k => decide (0 < ((Qcq h).getD (k + 1) 0 - (Qcq h).getD k 0) * ((Qcq h).getD (k + 1) 0 - (Qcq h).getD (k + 2) 0))).map fun k => (Qcq h).getD (k + 1) 0
noncomputable def ci : CV -> Int | .i a => a | .t _ => 0
noncomputable def ct : CV -> List Int | .t l => l | .i _ => []
noncomputable abbrev Qem (h : List Int) := Qcy h (Qcc h) (Qcc h).length
noncomputable abbrev Qdj (h : List Int) := Qcz h (Qcc h) (Qcc h).length
noncomputable def upsF (h : List Int) : List Int := (List.range (h.length - 1)).map fun k => max 0 (h.getD (k + 1) 0 - h.getD k 0)
structure Facts (h : List Int) : Prop where
 lev : Qcc h = rng54.filter fun x => h.contains x
 told : ∀ x ∈ Qcc h, (match Qcm (Qdj h) x with | some c => (ct c).getD 0 0 | none => (0 : Int)) = (((turnsF h).countP (· == x) : Nat) : Int) - (if x == (Qcc h).getD 0 0 then 1 else 0)
 few : ∀ c dn up : Int, 0 <= c -> (dn = c /\ up = 0) ∨ (dn = 0 /\ up = c) -> 1 + (((Qem h).filter fun p => decide (c < p.1)).map fun p => ci p.2).sum ∈ (runS (Qcc h) dn up (h.getD 0 0) (h.drop 1)).map (fun p => p.2 + p.1.fmod 2) /\
  ∀ x ∈ (runS (Qcc h) dn up (h.getD 0 0) (h.drop 1)).map (fun p => p.2 + p.1.fmod 2), 1 + (((Qem h).filter fun p => decide (c < p.1)).map fun p => ci p.2).sum <= x
 four : ∀ p ∈ Qdj h, (ct p.2).getD 1 0 - (ct p.2).getD 2 0 = (ct p.2).getD 3 0
 sum1 : ((Qem h).map fun p => p.1 * ci p.2).sum = h.getD 0 0 - (Qcc h).getD 0 0 + (upsF h).sum
 sum2 : ((Qdj h).map fun p => (ct p.2).getD 3 0).sum = 2 * (h.getD 0 0 - (Qcc h).getD 0 0 + (upsF h).sum)
theorem rng54_items : Qek (.rng 54 6 (-1)) = some (rng54.map .int) := by
 rw [items_rng (by decide +kernel)]
 have e : (Builtin.Range.rangeSize 54 6 (-1)).toNat = 48 := by decide +kernel
 rw [e]
 unfold rng54
 rw [List.map_map]
 refine congrArg some (List.map_congr_left fun i _ => ?_)
 show PV.int (54 + (i : Int) * -1) = .int (54 - (i : Int))
 congr 1; omega
theorem rng1_items (m : Nat) (h : m <= 1000) : Qek (.rng 1 (m : Int) 1) = some ((List.range (m - 1)).map fun (i : Nat) => .int ((i + 1 : Nat) : Int)) := by
 have hfit : ∀ i : Int, 0 <= i -> i <= 1000 -> Builtin.Range.rangeFitsLong i = true := fun i h0 h1 => by
  unfold Builtin.Range.rangeFitsLong
  simp only [Bool.and_eq_true, decide_eq_true_eq]
  omega
 have hs : (Builtin.Range.rangeSize 1 (m : Int) 1).toNat = m - 1 := by
  unfold Builtin.Range.rangeSize
  by_cases h0 : 1 < m
  ·have : (1 : Int) < m := by omega
   simp [this] <;> omega
  ·have : ¬ (1 : Int) < m := by omega
   simp [this] <;> omega
 have h1 : Builtin.Range.small 1 (m : Int) 1 = true := by
  have hsz : Builtin.Range.rangeSize 1 (m : Int) 1 <= m /\ 0 <= Builtin.Range.rangeSize 1 (m : Int) 1 := by
   unfold Builtin.Range.rangeSize
   by_cases h0 : 1 < m
   ·have : (1 : Int) < m := by omega
    simp [this] <;> omega
   ·have : ¬ (1 : Int) < m := by omega
    simp [this]
  unfold Builtin.Range.small
  simp only [Bool.and_eq_true, Bool.or_eq_true]
  refine ⟨⟨⟨⟨hfit 1 (by omega) (by omega), hfit m (by omega) (by omega)⟩, hfit 1 (by omega) (by omega)⟩, hfit _ (by omega) (by omega)⟩, .inr ?_⟩
  show Builtin.Range.rangeFitsLong ((m : Int) + (1 - 1)) = true
  exact hfit _ (by omega) (by omega)
 rw [items_rng h1, hs]
 refine congrArg some (List.map_congr_left fun i _ => congrArg PV.int ?_)
 omega
end
section
set_option tactic.hygienic false
noncomputable abbrev two (elt t1 i1 t2 i2 : Expr) (sc : Scope) (pos : Pos) : Expr := .ListComp elt [⟨t1, i1, [], 0⟩, ⟨t2, i2, [], 0⟩] sc pos
section
variable {elt t1 i1 t2 i2 : Expr} {sc : Scope} {pos : Pos} {R : Result -> Shared -> Prop}
theorem turn_out (it acc : Value) (env : Env) : compTurn (two elt t1 i1 t2 i2 sc pos) 0 it acc env = (standAt i1.pos >>= fun _ => pyNext it >>= fun r => match r with
  | none => pure (.done .next)
  | some v => letOwnedTupleGo t1 it v >>= fun _ => assign t1 env v >>= fun _ => eval i2 env >>= fun x => standAt i2.pos >>= fun _ => foldedSetIterable i2 env x >>= fun x =>
    holding [x] (pyIter x) >>= fun y => runOwn (.compStart (two elt t1 i1 t2 i2 sc pos) 1 y acc env) env >>= fun _ => again (.compLoop (two elt t1 i1 t2 i2 sc pos) 0 it acc env)) := by rfl
theorem turn_in (it acc : Value) (env : Env) : compTurn (two elt t1 i1 t2 i2 sc pos) 1 it acc env = (standAt i2.pos >>= fun _ => pyNext it >>= fun r => match r with
  | none => pure (.done .next)
  | some v => letOwnedTupleGo t2 it v >>= fun _ => assign t2 env v >>= fun _ =>
    (eval elt env >>= fun x => call (.builtin "list.append") [acc, x] >>= fun _ => pure ()) >>= fun _ => again (.compLoop (two elt t1 i1 t2 i2 sc pos) 1 it acc env)) := by rfl
theorem start_in {it acc : Value} {env : Env} (h0 : codeAny (Mo C) A (.compLoop (two elt t1 i1 t2 i2 sc pos) 1 it acc env) R s)
  (h : wpAny (Mo C) A (pyIter it) (fun it' s' => codeAny (Mo C) A (.compLoop (two elt t1 i1 t2 i2 sc pos) 1 it' acc env) R s') (notedBy (Mo C) A env fun x s' => R (.error x) s') s) :
  codeAny (Mo C) A (.compStart (two elt t1 i1 t2 i2 sc pos) 1 it acc env) R s := by
 refine codeAny_of_tree ?_
 show wpAny _ _ ((compStart (two elt t1 i1 t2 i2 sc pos) 1 it acc env).onRaise (fun x => do noteFrame x env; standAt theWindowsPlace)) _ _ s
 refine wpAny_notedAt ?_
 unfold compStart
 show wpAny _ _ (ask >>= _) _ _ s
 refine wpAny_bind (wpAny_askSetting (wpAny_ite ?_))
 split
 ·first
   | exact wpAny_bind (wpAny_pure (wpAny_pure (And.intro rfl h0)))
   | exact wpAny_pure (And.intro rfl h0)
 ·first
   | exact wpAny_bind (wpAny_rule (wpAny_bind (wpAny_standAt (wpAny_bind (wpAny_mono h (fun it' s' h' => wpAny_pure (And.intro rfl h')) fun _ _ x => x)))))
   | (refine wpAny_bind (wpAny_rule ?_); show wpAny _ _ (standAt i2.pos >>= _) _ _ s; exact wpAny_bind (wpAny_standAt (wpAny_bind (wpAny_mono h (fun it' s' h' => wpAny_pure (And.intro rfl h')) fun _ _ x => x))))
theorem loop_in {it acc : Value} {env : Env} (I : Nat -> Shared -> Prop)
  (turn : ∀ n s, I n s -> wpAny (Mo C) A (pyNext it) (fun r s₁ => (r = none /\ R (.ok .next) s₁) ∨ ∃ v, r = some v /\
    wpAny (Mo C) A (letOwnedTupleGo t2 it v) (fun _ s₁' => wpAny (Mo C) A (assign t2 env v) (fun _ s₂ =>
     wpAny (Mo C) A (eval elt env) (fun x s₄ => wpAny (Mo C) A (call (.builtin "list.append") [acc, x]) (fun _ s₅ => ∃ m, m < n /\ I m s₅) NoE s₄) NoE s₂) NoE s₁') NoE s₁) NoE s)
  (n : Nat) (h : I n s) : codeAny (Mo C) A (.compLoop (two elt t1 i1 t2 i2 sc pos) 1 it acc env) R s := by
 refine codeAny_loop rfl I (fun n s hI => ?_) n h
 show wpAny _ A ((compTurn (two elt t1 i1 t2 i2 sc pos) 1 it acc env).onRaise (fun x => do noteFrame x env; theTreesLotGoes x)) _ _ s
 refine wpAny_noted ?_
 rw [turn_in]
 refine wpAny_bind (wpAny_standAt (wpAny_bind (wpAny_mono (turn n s hI) (fun r s₁ h₁ => ?_) nof)))
 rcases h₁ with ⟨rfl, h₁⟩ | ⟨v, rfl, h₁⟩
 ·exact wpAny_pure h₁
 ·exact wpAny_bind (wpAny_mono h₁ (fun _ s₁' h₁' => wpAny_bind (wpAny_mono h₁' (fun _ s₂ h₂ => wpAny_bind (wpAny_bind (wpAny_mono h₂ (fun x s₄ h₄ => wpAny_bind (wpAny_mono h₄ (fun _ s₅ h₅ => wpAny_pure (wpAny_pure ⟨rfl, h₅⟩)) nof)) nof))) nof)) nof)
theorem loop_out {it acc : Value} {env : Env} (hs2 : ∀ env x, foldedSetIterable i2 env x = pure x) (I : Nat -> Shared -> Prop)
  (turn : ∀ n s, I n s -> wpAny (Mo C) A (pyNext it) (fun r s₁ => (r = none /\ R (.ok .next) s₁) ∨ ∃ v, r = some v /\
    wpAny (Mo C) A (letOwnedTupleGo t1 it v) (fun _ s₁' => wpAny (Mo C) A (assign t1 env v) (fun _ s₂ =>
     wpAny (Mo C) A (eval i2 env) (fun x s₄ => wpAny (Mo C) A (pyIter x) (fun y s₅ => codeAny (Mo C) A (.compStart (two elt t1 i1 t2 i2 sc pos) 1 y acc env) (fun r s₆ => (∃ f, r = .ok f) /\ ∃ m, m < n /\ I m s₆) s₅) NoE s₄) NoE s₂) NoE s₁') NoE s₁) NoE s)
  (n : Nat) (h : I n s) : codeAny (Mo C) A (.compLoop (two elt t1 i1 t2 i2 sc pos) 0 it acc env) R s := by
 refine codeAny_loop rfl I (fun n s hI => ?_) n h
 show wpAny _ A ((compTurn (two elt t1 i1 t2 i2 sc pos) 0 it acc env).onRaise (fun x => do noteFrame x env; theTreesLotGoes x)) _ _ s
 refine wpAny_noted ?_
 rw [turn_out]
 refine wpAny_bind (wpAny_standAt (wpAny_bind (wpAny_mono (turn n s hI) (fun r s₁ h₁ => ?_) nof)))
 rcases h₁ with ⟨rfl, h₁⟩ | ⟨v, rfl, h₁⟩
 ·exact wpAny_pure h₁
 ·refine wpAny_bind (wpAny_mono h₁ (fun _ s₁' h₁' => wpAny_bind (wpAny_mono h₁' (fun _ s₂ h₂ => wpAny_bind (wpAny_mono h₂ (fun x s₄ h₄ => wpAny_bind (wpAny_standAt ?_)) nof)) nof)) nof)
  rw [hs2]
  refine wpAny_bind (wpAny_pure (wpAny_bind (wpAny_holding (wpAny_mono h₄ (fun y s₅ h₅ => ?_) nof))))
  refine wpAny_bind (wpAny_runOwn (codeAny_mono h₅ fun r s₆ h₆ => ?_))
  obtain ⟨⟨f, rfl⟩, h₆⟩ := h₆
  exact wpAny_pure ⟨rfl, h₆⟩
end
theorem fill_in {β : Type} {m : List β} {pv2 g : β -> PV} {bd2 : β -> Qbs} {elt t1 i1 t2 i2 : Expr} {sc : Scope} {pos : Pos} {cenv0 : Env} {nm2 : Qck} {Xc Xf : Addr -> Prop} {D : Addr} {ρ1 : Qbs} {s1 t0 : Shared} {vs0 : List Value} {k0 : Nat} {rows : List PV} {F : Addr -> Prop} {I : Addr} {fp wr : List Addr} {P : Nat -> Value -> Prop} {Stt : Nat -> Heap -> Prop} {V : (Addr -> Prop) -> Heap -> Prop}
  (rm : Room A n) (st : St C t0) (ok : EnvOK C nm2 Xc cenv0 none t0.heap ρ1 none) (hXf : XS Xc cenv0 none = Xf) (hXD : Xc D) (hDL : D ≠ cenv0.locals) (hDc : ∀ x, cenv0.cells.lookup x ≠ some D) (hD0 : C.h0.get? D = none)
  (hD : t0.heap.get? D = some (Qay "list" vs0 k0)) (hr : RelL C Xf t0.heap rows vs0) (hfeed2 : Qdc C t2 pv2 bd2) (htg2 : ∀ b, TgtC nm2 (bd2 b))
  (st1 : St C s1) (ID : ItrD C s1 (m.map pv2) F I fp wr P Stt V) (J0 : Stt 0 t0.heap /\ V Xf t0.heap) (hfpL : ∀ b ∈ fp, b ≠ cenv0.locals) (hfpC : ∀ b ∈ fp, ∀ x, cenv0.cells.lookup x ≠ some b ∨ Qdw nm2 x = true) (hfpD : ∀ b ∈ fp, b ≠ D) (fpPT : ∀ b ∈ fp, b ≠ C.PT)
  (hdis : ∀ b, ∀ p ∈ bd2 b, ∀ y d, ρ1.lookup y = some d -> p.1 ≠ y) (body : ∀ b ∈ m, Ev C n nm2 (bd2 b ++ ρ1) none elt (g b)) (hsz : vs0.length + m.length <= sizeLine) :
  codeAny (Mo C) A (.compStart (two elt t1 i1 t2 i2 sc pos) 1 (.ref I) (.ref D) cenv0) (fun r t' => (∃ f, r = .ok f) /\ ∃ vs k, St C t' /\ EnvOK C nm2 Xc cenv0 none t'.heap ρ1 none /\ t'.heap.get? D = some (Qay "list" vs k) /\ RelL C Xf t'.heap (rows ++ m.map g) vs /\
   (∀ b o, b ≠ C.PT -> b ∉ wr -> b ≠ D -> b ≠ cenv0.locals -> (∀ x, cenv0.cells.lookup x ≠ some b ∨ Qdw nm2 x = true) -> t0.heap.get? b = some o -> t'.heap.get? b = some o) /\ Cont Xf t0.heap t'.heap) t0 := by
 have hXL : ∀ b, b = cenv0.locals -> Xf b := fun b q => hXf ▸ Or.inr (Or.inl q)
 have hXD' : Xf D := hXf ▸ Or.inl hXD
 have feed := hfeed2 Xf s1 m _ I fp wr P Stt V st1 ID
 have bdC : ∀ {b : Addr} {bb : β}, (∀ x, cenv0.cells.lookup x ≠ some b ∨ Qdw nm2 x = true) -> ∀ q ∈ bd2 bb, cenv0.cells.lookup q.1 ≠ some b := fun {b bb} h q hq => (h q.1).elim id fun h1 => by rw [(htg2 bb q hq).2] at h1; cases h1
 have loop : codeAny (Mo C) A (.compLoop (two elt t1 i1 t2 i2 sc pos) 1 (.ref I) (.ref D) cenv0) (fun r t' => (∃ f, r = .ok f) /\ ∃ vs k, St C t' /\ EnvOK C nm2 Xc cenv0 none t'.heap ρ1 none /\ t'.heap.get? D = some (Qay "list" vs k) /\ RelL C Xf t'.heap (rows ++ m.map g) vs /\
   (∀ b o, b ≠ C.PT -> b ∉ wr -> b ≠ D -> b ≠ cenv0.locals -> (∀ x, cenv0.cells.lookup x ≠ some b ∨ Qdw nm2 x = true) -> t0.heap.get? b = some o -> t'.heap.get? b = some o) /\ Cont Xf t0.heap t'.heap) t0 := by
  refine loop_in (fun c t => ∃ i vs k, i <= m.length /\ c = m.length + 1 - i /\ St C t /\ EnvOK C nm2 Xc cenv0 none t.heap ρ1 none /\ (Stt i t.heap /\ V Xf t.heap) /\ t.heap.get? D = some (Qay "list" vs k) /\ vs.length = vs0.length + i /\ RelL C Xf t.heap (rows ++ (m.take i).map g) vs /\
   (∀ b o, b ≠ C.PT -> b ∉ wr -> b ≠ D -> b ≠ cenv0.locals -> (∀ x, cenv0.cells.lookup x ≠ some b ∨ Qdw nm2 x = true) -> t0.heap.get? b = some o -> t.heap.get? b = some o) /\ Cont Xf t0.heap t.heap) ?_ (m.length + 1)
   ⟨0, vs0, k0, Nat.zero_le _, rfl, st, ok, J0, hD, rfl, by simpa using hr, fun b o _ _ _ _ _ e => e, fun b o _ _ e => e⟩
  intro c t hz
  apply byc;intro kz
  obtain ⟨i, vs, k, hi, rfl, stt, okt, Jt, hDt, hvl, hrt, kt, ct⟩ := hz
  apply kz;clear kz
  rcases Nat.lt_or_ge i m.length with hlt | hge
  ·refine wpAny_mono (feed.next A n nm2 Xc cenv0 none t ρ1 none i (bd2 m[i]) _ (by simp [hlt]) rm stt okt hXf (fun b hb => ⟨hfpL b hb, bdC (hfpC b hb)⟩) Jt (htg2 _).tgt fun t2 st2 kt2 okt2 Jt2 => ?_) (fun r s₁ h => .inr h) nof
   have hD2 : t2.heap.get? D = some (Qay "list" vs k) := kt2 D _ hDL (fun q _ => hDc q.1) (fun q => hfpD D (feed.sub D q) rfl) hDt
   have cont2 : Cont Xf t.heap t2.heap := fun b o hb hco e => kt2 b o (fun q => hb (hXL b q)) (fun z _ q => by obtain ⟨v, e1, e2⟩ := okt.cellAt z.1 b q; exact e2 o e hco) (fun q => (feed.wrs i t Jt b q).ne_cont e hco) e
   have hr2 := hrt.mono (fun _ _ _ e => e) cont2
   refine wpAny_mono (body m[i] (List.getElem_mem hlt) A _ _ _ t2 rm st2 okt2) (fun x t4 hz => ?_) nof
   apply byc;intro kz
   obtain ⟨st4, k4, r4⟩ := hz
   apply kz;clear kz
   have hD4 : t4.heap.get? D = some (Qay "list" vs k) := k4 D _ (st2.pt_cont hD2 Qbf) hD2
   have okt4 := okt2.kp st2 st4 k4
   refine wpAny_list_append_plain (items := vs.toArray) ⟨k, hD4⟩ (fun h5 ⟨m5, hp5⟩ hs5 => ?_) (by simp only [List.size_toArray]; lia)
   have hD5 : h5.get? D = some (Qay "list" (vs ++ [x]) m5) := by rw [hp5]; simp [Qay]
   have st5 : St C { t4 with heap := h5 } := st4.same_but (tk := t4.toks) hs5 hD0 (st4.pt_cont hD4 Qbf)
   have cont5 : Cont Xf t4.heap h5 := fun b o hb hco e => (hs5.2 b (fun q => hb (q ▸ hXD'))).trans e
   have okt5 := okt4.turn (s' := { t4 with heap := h5 }) hXD hs5 ⟨_, hD5, Qbf⟩ ⟨_, hD4, Qbf⟩
   have okt6 : EnvOK C nm2 Xc cenv0 none h5 ρ1 none := okt5.weak fun y d e => by
    rw [Qcw, e]
    exact fun p hp => hdis _ p hp y d e
   refine ⟨m.length + 1 - (i + 1), by lia, i + 1, vs ++ [x], m5, hlt, rfl, st5, okt6, ?_, hD5, by rw [List.length_append, hvl]; rfl, ?_, fun b o h1 h2 h3 h4 h5' e => ?_, ?_⟩
   ·exact feed.frame (i + 1) t2 _ Jt2 (fun b hb o e => (hs5.2 b (hfpD b hb)).trans (k4 b o (fpPT b hb) e)) ((k4.cont st2 _).trans cont5)
   ·have e : rows ++ (m.take (i + 1)).map g = (rows ++ (m.take i).map g) ++ [g m[i]] := by
     rw [List.take_add_one, List.getElem?_eq_getElem hlt, List.map_append, ← List.append_assoc]; rfl
    rw [e]
    exact RelL.append ((hr2.kp st2 k4).mono (fun _ _ _ e => e) cont5) (Qbc ((hXf ▸ r4).mono (fun _ _ _ e => e) cont5) Qbw)
   ·exact (hs5.2 b h3).trans (k4 b o h1 (kt2 b o h4 (bdC h5') h2 (kt b o h1 h2 h3 h4 h5' e)))
   ·exact ct.trans (cont2.trans ((k4.cont st2 _).trans cont5))
  ·have hil : i = m.length := by lia
   subst hil
   refine wpAny_mono (feed.done A n t _ rm stt (by simpa using Jt) fun t2 st2 hk2 => ?_) (fun r s₁ h => .inl h) nof
   have wI := feed.wrs _ t Jt
   have rs2 : Rest t t2 := ⟨fun b o hc e => hk2 b o (fun q => (wI b q).ne_cont e hc) e, fun b o v hd e => hk2 b o (fun q => (wI b q).ne_cell e hd) e⟩
   have hD2 : t2.heap.get? D = some (Qay "list" vs k) := hk2 D _ (fun q => hfpD D (feed.sub D q) rfl) hDt
   refine ⟨⟨_, rfl⟩, vs, k, st2, ?_, hD2, ?_, fun b o h1 h2 h3 h4 h5 e => hk2 b o h2 (kt b o h1 h2 h3 h4 h5 e), ct.trans fun b o _ hc e => hk2 b o (fun q => (wI b q).ne_cont e hc) e⟩
   ·exact okt.rest rs2
   ·have := rs2.relL hrt
    rwa [List.take_length] at this
 exact start_in loop ((ID.W A rm.handled).self 0 _ _ _ J0.1 loop)
theorem take_succ_flat {α β : Type} {l : List α} {f : α -> List β} {i : Nat} {a : α} (h : l[i]? = some a) : ((l.take (i + 1)).map f).flatten = ((l.take i).map f).flatten ++ f a := by
 rw [List.take_add_one, h]
 simp
theorem ev_listcomp2 {α β : Type} {l : List α} {m : List β} {pv : α -> PV} {pv2 : β -> PV} {f : α -> β -> PV} {bd : α -> Qbs} {bd2 : β -> Qbs} {elt t1 i1 t2 i2 : Expr} {sc : Scope} {pos : Pos}
  (hit : EvIt C n nm ρ ow i1 (l.map pv)) (hfeed : Qdc C t1 pv bd) (hsc : Qdn nm sc = true) (htg : ∀ a, TgtC sc.names (bd a))
  (hit2 : ∀ a ∈ l, EvItF C n sc.names (bd a ++ Qer sc.names ρ) none i2 (m.map pv2)) (hfeed2 : Qdc C t2 pv2 bd2) (htg2 : ∀ b, TgtC sc.names (bd2 b))
  (body : ∀ a ∈ l, ∀ b ∈ m, Ev C n sc.names (bd2 b ++ (bd a ++ Qer sc.names ρ)) none elt (f a b)) (hsz : l.length * m.length <= sizeLine)
  (hdis : ∀ a b, ∀ p ∈ bd2 b, ∀ q ∈ bd a, p.1 ≠ q.1)
  (hs : ∀ env x, foldedSetIterable i1 env x = pure x := by k_all) (hs2 : ∀ env x, foldedSetIterable i2 env x = pure x := by k_all) :
  Ev C n nm ρ ow (.ListComp elt [⟨t1, i1, [], 0⟩, ⟨t2, i2, [], 0⟩] sc pos) (.lst ((l.map fun a => m.map (f a)).flatten)) := by
 intro A Xo env oa s rm st ok
 rw [arm_eval_ListComp]
 refine comp_start (o0 := { cls := .type "list", data := .seq #[] }) rfl (hs env) hsc st ok (hit A Xo env oa s rm st ok) (fun s₂ K hK => wpAny_newList hK (Nat.zero_le _)) (.inl ⟨_, _, rfl⟩) (fun h => Heap.get?_push_size _ rfl) fun s₁ s₂ s₄ D cenv I fp wr P Stt V st1 k1 st2 k2 ID hlt low2 hDn2 hLn2 hDL keep24 none_old XE J0 hDc hfp2 own0 fpL fpPT st4 ok4 hD4s => ?_
 have feed := hfeed (fun b => ((XS Xo env oa b ∨ b = D) ∨ b = cenv.locals)) s₁ l _ I fp wr P Stt V st1 ID
 have own2 : ∀ {a b o}, s₂.heap.get? b = some o -> ∀ q ∈ bd a, cenv.cells.lookup q.1 ≠ some b := fun e q hq => own0 e q.1 (htg _ q hq).2
 have hfpC : ∀ a, ∀ b ∈ fp, b ≠ cenv.locals /\ ∀ q ∈ bd a, cenv.cells.lookup q.1 ≠ some b := fun a b hb => ⟨fpL b hb, let ⟨_, e⟩ := hlt b hb; own2 e⟩
 have hwrD : ∀ b ∈ wr, b ≠ D := fun b hb => hfp2 b (feed.sub b hb)
 have cell2 : ∀ {b o}, s₂.heap.get? b = some o -> ∀ x, cenv.cells.lookup x ≠ some b ∨ Qdw sc.names x = true := fun {b o} e x => by
  cases hx : Qdw sc.names x with
  | true => exact .inr rfl
  | false => exact .inl (own0 e x hx)
 have loop : codeAny (Mo C) A (.compLoop (two elt t1 i1 t2 i2 sc pos) 0 (.ref I) (.ref D) { cenv with scope := relabel sc env }) (compPost (Mo C) A NoE none (Post C (XS Xo env oa) s (.lst ((l.map fun a => m.map (f a)).flatten))) (.ref D) cenv.locals) s₄ := by
  refine loop_out hs2 (fun k t => ∃ i vs m', i <= l.length /\ k = l.length + 1 - i /\ St C t /\ (∀ b o, b ≠ C.PT -> b ∉ wr -> s₂.heap.get? b = some o -> t.heap.get? b = some o) /\
   EnvOK C sc.names (XS (fun b => Xo b ∨ b = D) env oa) { cenv with scope := relabel sc env } none t.heap (Qer sc.names ρ) none /\
   (Stt i t.heap /\ V (fun b => ((XS Xo env oa b ∨ b = D) ∨ b = cenv.locals)) t.heap) /\ t.heap.get? D = some (Qay "list" vs m') /\ vs.length = i * m.length /\
   RelL C (fun b => ((XS Xo env oa b ∨ b = D) ∨ b = cenv.locals)) t.heap (((l.take i).map fun a => m.map (f a)).flatten) vs) ?_ (l.length + 1)
   ⟨0, [], 0, Nat.zero_le _, rfl, st4, fun b o _ _ e => keep24 b o e, ok4, J0, hD4s, by simp, Qbw⟩
  intro k t hz
  apply byc;intro kz
  obtain ⟨i, vs, m', hi, rfl, stt, kt, okt, Jt, hDt, hvl, hr⟩ := hz
  apply kz;clear kz
  rcases Nat.lt_or_ge i l.length with hlt' | hge
  ·have ha : l[i]? = some l[i] := by simp [hlt']
   refine wpAny_mono (feed.next A n sc.names _ { cenv with scope := relabel sc env } none t (Qer sc.names ρ) none i (bd l[i]) _ (by simp [hlt']) rm stt okt XE (hfpC _) Jt (htg _).tgt fun t2 st2' kt2 okt2 Jt2 => ?_) (fun r s₁ h => .inr h) nof
   have hD2 : t2.heap.get? D = some (Qay "list" vs m') := kt2 D _ hDL (fun q _ => hDc q.1) (fun q => hwrD D q rfl) hDt
   have cont2 : Cont (fun b => ((XS Xo env oa b ∨ b = D) ∨ b = cenv.locals)) t.heap t2.heap := fun b o hb hco e =>
    kt2 b o (fun q => hb (.inr q)) (fun z _ q => by obtain ⟨v, e1, e2⟩ := okt.cellAt z.1 b q; exact e2 o e hco) (fun q => (feed.wrs i t Jt b q).ne_cont e hco) e
   have hr2 := hr.mono (fun _ _ _ e => e) cont2
   refine wpAny_mono (hit2 l[i] (List.getElem_mem hlt') A _ _ _ t2 rm st2' okt2) (fun x t3 ⟨st3', k3, h3⟩ => wpAny_mono h3 (fun y t4 hz => ?_) nof) nof
   apply byc;intro kz
   obtain ⟨st4', k4, I2, fp2, wr2, P2, Stt2, V2, e2, ID2, h02, hV2, hlt2⟩ := hz
   apply kz;clear kz
   subst e2
   have okt3 := okt2.kp st2' st3' k3
   have okt4 := okt3.kp st3' st4' k4
   have hD3 : t3.heap.get? D = some (Qay "list" vs m') := k3 D _ (st2'.pt_cont hD2 Qbf) hD2
   have hD4 : t4.heap.get? D = some (Qay "list" vs m') := k4 D _ (st3'.pt_cont hD3 Qbf) hD3
   have fpL2 : ∀ b ∈ fp2, b ≠ cenv.locals := fun b hb q => by
    rcases ID2.fpK b hb with h1 | ⟨h1, _⟩
    ·apply byc;intro kz
     obtain ⟨mm, ⟨o, es, ep, ho, _⟩, _⟩ := okt3.loc
     apply kz;clear kz
     rw [q, ho] at h1; cases h1
    ·exact h1 (.inr (.inl q))
   have fpC2 : ∀ b ∈ fp2, ∀ x, cenv.cells.lookup x ≠ some b ∨ Qdw sc.names x = true := fun b hb x => .inl fun q => by
    apply byc;intro kz
    obtain ⟨v, ⟨o, ho, _⟩, e2⟩ := okt3.cellAt x b q
    apply kz;clear kz
    rcases ID2.fpK b hb with h1 | ⟨_, o', h1, h2⟩
    ·rw [ho] at h1; cases h1
    ·exact e2 o' h1 h2
   have fpD2 : ∀ b ∈ fp2, b ≠ D := fun b hb q => by
    rcases ID2.fpK b hb with h1 | ⟨h1, _⟩
    ·rw [q, hD3] at h1; cases h1
    ·exact h1 (.inl (.inl (.inr q)))
   have fpPT2 : ∀ b ∈ fp2, b ≠ C.PT := fun b hb hp => by
    rcases ID2.fpK b hb with h1 | ⟨_, o1, h1, h2⟩
    ·obtain ⟨more, tt⟩ := st3'.tab
     rw [hp, tt.2] at h1; cases h1
    ·exact st3'.pt_cont h1 h2 hp
   have hmul : (i + 1) * m.length <= l.length * m.length := Nat.mul_le_mul_right _ hlt'
   have hsm : (i + 1) * m.length = i * m.length + m.length := Nat.succ_mul i m.length
   refine codeAny_mono (fill_in (g := f l[i]) (rows := ((l.take i).map fun a => m.map (f a)).flatten) rm st4' okt4 XE (.inl (.inr rfl)) hDL hDc (Qbb st2 hDn2) hD4 ((hr2.kp st2' k3).kp st3' k4) hfeed2 htg2 st3' ID2 ⟨h02, XE ▸ hV2⟩ fpL2 fpC2 fpD2 fpPT2 ?_ (body l[i] (List.getElem_mem hlt')) (by lia)) fun r t5 h5 => ?_
   ·intro b p hp y d e q
    by_cases hy : ∃ z ∈ bd l[i], z.1 = y
    ·apply byc;intro kz
     obtain ⟨z, hz, rfl⟩ := hy
     apply kz;clear kz
     exact hdis _ _ p hp z hz q
    ·rw [Qcw (fun z hz q' => hy ⟨z, hz, q'⟩)] at e
     have h1 := (Qeb e).2
     rw [← q, (htg2 b p hp).2] at h1; cases h1
   apply byc;intro kz
   obtain ⟨hf, vs5, k5, st5, ok5, hD5, hr5, kk5, ct5⟩ := h5
   apply kz;clear kz
   have old2 : ∀ b o, b ≠ C.PT -> t2.heap.get? b = some o -> b ≠ D -> b ≠ cenv.locals -> (∀ x, cenv.cells.lookup x ≠ some b ∨ Qdw sc.names x = true) -> t5.heap.get? b = some o := fun b o hp e n1 n2 n3 => by
    have e3 := k3 b o hp e
    exact kk5 b o hp (fun q => by have := ID2.wrN b q; rw [e3] at this; cases this) n1 n2 n3 (k4 b o hp e3)
   refine ⟨hf, l.length + 1 - (i + 1), by lia, i + 1, vs5, k5, hlt', rfl, st5, fun b o hp hw e => ?_, ok5.unbind (fun q hq => (htg _ q hq).2), ?_, hD5, ?_, ?_⟩
   ·have n2 : b ≠ cenv.locals := fun q => by rw [q, hLn2] at e; cases e
    have e1 := kt b o hp hw e
    exact old2 b o hp (kt2 b o n2 (own2 e) hw e1) (fun q => by rw [q, hDn2] at e; cases e) n2 (cell2 e)
   ·refine feed.frame (i + 1) t2 _ Jt2 (fun b hb o e => ?_) ((k3.cont st2' _).trans ((k4.cont st3' _).trans ct5))
    obtain ⟨o', e'⟩ := hlt b hb
    exact old2 b o (fpPT b hb) e (hfp2 b hb) (hfpC l[i] b hb).1 (cell2 e')
   ·have := hr5.length
    rw [this, List.length_append, List.length_map, hsm, ← hvl, hr.length]
   ·rw [take_succ_flat ha]; exact hr5
  ·have hil : i = l.length := by lia
   subst hil
   refine wpAny_mono (feed.done A n t _ rm stt (by simpa using Jt) fun t2 st2' hk2 => ?_) (fun r s₁ h => .inl h) nof
   have wI := feed.wrs _ t Jt
   have hD2 : t2.heap.get? D = some (Qay "list" vs m') := hk2 D _ (fun q => hwrD D q rfl) hDt
   have rs2 : Rest t t2 := ⟨fun b o hc e => hk2 b o (fun q => (wI b q).ne_cont e hc) e, fun b o v hd e => hk2 b o (fun q => (wI b q).ne_cell e hd) e⟩
   obtain ⟨mL, hmL, _⟩ := okt.loc
   have CE : CompEnd C (XS Xo env oa) s cenv.locals D t2 := ⟨st2', fun b o hp e => by
     have e2 := k2 b o hp (k1 b o hp e)
     have hw : b ∉ wr := fun q => by
      have := ID.wrN b q
      rw [k1 b o hp e] at this; cases this
     exact hk2 b o hw (kt b o hp hw e2), ⟨mL, rs2.ns hmL⟩, none_old hLn2, none_old hDn2, hDL, Qbb st2 hLn2⟩
   obtain ⟨mm, hm⟩ := CE.ns
   refine ⟨mm, hm, fun h' hs' => CE.post hs' ?_⟩
   have hr2 := rs2.relL hr
   simp only [List.take_length] at hr2
   refine ⟨D, vs, m', rfl, ?_, hD2, hr2.mono (fun a o e q => q.elim (fun q => .inl (.inl q)) .inr) fun _ _ _ _ e => e⟩
   rintro (q | q)
   ·obtain ⟨o, ho, _⟩ := low2 D q
    rw [hDn2] at ho; cases ho
   ·exact hDL q
 refine codeAny_compStart_list loop ((ID.W A rm.handled).self 0 _ _ _ J0.1 loop)
end
section
set_option tactic.hygienic false
theorem Qah {x : Str} {pos : Pos} {d : PV} (hx : (Qdm nm x || Qdi nm x) = true) (hd : ρ.lookup x = some d) (hb : (x == ("__debug__" : Str)) = false := by k_all) (hc : (x == ("__classdict__" : Str)) = false := by k_all) : Ev C n nm ρ ow (.Name x pos) d := by
 rw [Bool.or_eq_true] at hx
 rcases hx with h | h
 ·exact Qab h hd hb
 ·exact Qan h hd hb hc
theorem ev_joinS {g : Str} {k : Nat} {kp apos pos : Pos} {e : Expr} {l : List Str} (h : Ev C n nm ρ ow e (.lst (l.map .str))) (hz : (l.map (·.length)).sum + l.length * g.length <= 16777216)
  (hl : ∀ env, starEach [e] env = [(false, eval e env)] := by k_all) (hline : (apos.endLine == pos.line) = true := by k_all) :
  Ev C n nm ρ ow (.Call (.Attribute (.Constant (.str g) k kp) "join" apos) [e] [] pos) (.str (Txt.join g l)) :=
 ev_meth F.plainAttrs_str F.slot_str_join F.type_str_join Qdf (fun X s v r => tyV_str r) (Qaw h hl) (opF_join hz) (by intro _; rfl) (fun env => by rw [hl]; rfl) hline (fun env => by rw [hl]; rfl) (fun env => by rw [hl]; rfl)
theorem ev_sgn {k k' : Nat} {kp kp' apos pos : Pos} (hline : (apos.endLine == pos.line) = true := by k_all) :
  Ev C n nm ρ ow (.Call (.Attribute (.Constant (.str sgnT) k kp) "split" apos) [.Constant (.str " ") k' kp'] [] pos) (.lst (sgn.map .str)) := by
 rw [← sgn_split]
 exact ev_meth F.plainAttrs_str F.slot_str_split F.type_str_split Qdf (fun X s v r => tyV_str r) (Qaw Qdf) (opF_split (by decide +kernel) (by decide +kernel) (by decide +kernel)) (by intro _; rfl) (by intro _; rfl) hline
structure LawA (L : List Int) (ρ : Qbs) : Prop where
 scr : Qbp ρ "script" = some (.lst (L.map .int))
 drw : Qbp ρ "draws" = some (.lst (((List.range 10).map (Qcf L)).map .int))
 hi : Qbp ρ "high" = some (.lst ((Qbu L).map .int))
 en : Qbp ρ "ends" = some (enV (cellsF L))
 lev : Qbp ρ "levels" = some (.lst ((Qcc (Qbu L)).map .int))
structure LawA1 (L : List Int) (ρ : Qbs) : Prop where
 scr : Qbp ρ "script" = some (.lst (L.map .int))
 drw : Qbp ρ "draws" = some (.lst (((List.range 10).map (Qcf L)).map .int))
 sg : Qbp ρ "signs" = some (.lst (sgn.map .str))
 tx : Qbp ρ "text" = some (.str (txtF L))
 hi : Qbp ρ "high" = some (.lst ((Qbu L).map .int))
structure LawDone (C : Cfg) (n : Nat) (L : List Int) : Prop where
 run : Ex C n (Qaf 74).names ((Qax 74).drop 1) [("base", .tup (baseL.map .int)), ("script", .lst (L.map .int))] none (fun _ _ => False) (fun e => e = .bool true)
set_option maxHeartbeats 2000000 in
theorem law_a0 {K : Frag} {fi fc : Addr} (G : Gl C) (J : JFacts C K fi fc) (h5 : 9 <= n) {L : List Int} (hL : L.length <= 63)
  (rest : ∀ ρ, LawA1 L ρ -> Ex C n (Qaf 74).names ((Qax 74).drop 5) ρ none (fun _ _ => False) (fun e => e = .bool true)) :
  LawDone C n L := by
 constructor
 refine Qai (Qcu (l := List.range 10) (pv := fun k => .int (k : Int)) (f := fun k => .int (Qcf L k)) (bd := fun k => [("k", .int (k : Int))]) (p := fun _ => true) (by k_all) Qad
  (Ev.it (ev_rng G (by k_all) Qag) (Qdp 10 (by lia))) Qac (by decide +kernel) (fun a => Qat (by k_all) (by k_all)) ?_ (by decide +kernel)) ?_
 ·intro k hk
  have hk' := List.mem_range.mp hk
  refine ⟨Qbe, fun _ => Qaj (d1 := .int (baseL.getD k 0)) (d2 := .int ((pickNums L (some (k : Int)) (some 60) (some 10)).map fun x => x.fmod 1000000).sum) (Qdk (i := (k : Int)) (l := baseL.map .int) (Ev.tt (Qah (by k_all) (by k_mem))) (Qah (by k_all) (by k_mem)) (by lia) ?_ (by lia))
   (Qbh G.b_sum Qaq (by k_all) (Qaw (d := .lst (((pickNums L (some (k : Int)) (some 60) (some 10)).map fun x => x.fmod 1000000).map .int)) (Ev.cast (Qas (l := pickNums L (some (k : Int)) (some 60) (some 10)) (pv := .int) (f := fun x => .int (x.fmod 1000000)) (bd := fun x => [("x", .int x)]) (p := fun _ => true)
    (Ev.it (ev_slice3 (by decide) (Ev.tl (Qah (by k_all) (by k_mem))) (Qah (by k_all) (by k_mem)) Qag Qag (szc (by lia))) rfl) Qac (by decide +kernel) (fun a => Qat (by k_all) (by k_all)) ?_ ?_) (by rw [Qap, List.map_map]; rfl))) opF_sum) Qbo⟩
  ·have : k < baseL.length := hk'
   simp [this]
  ·intro x hx
   exact ⟨Qbe, fun _ => Qaj (Qah (by k_all) (by k_mem)) Qag (Qco (by decide))⟩
  ·have hi : IntsAre (L.map fun i => Value.int i 0) L := by
    have : ∀ (L : List Int), IntsAre (L.map fun i => Value.int i 0) L := by
     intro L
     induction L with
     | nil => exact .nil
     | cons a L ih => exact .cons a 0 ih
    exact this L
   exact szc (Nat.le_trans (length_pickNums_le hi _ _ _) (by lia))
 have hdr : PV.lst (((List.range 10).filter fun _ => true).map fun k => PV.int (Qcf L k)) = .lst (((List.range 10).map (Qcf L)).map .int) := by rw [Qap, List.map_map]; rfl
 rw [hdr]
 refine Qai (Qak ev_sgn (by k_all) Qad) ?_
 have drawAt : ∀ k, k < 10 -> (((List.range 10).map (Qcf L)).map PV.int)[((k : Nat) : Int).toNat]? = some (.int (Qcf L k)) := fun k hk => by simp [hk]
 have tk7 : (((List.range 10).map (Qcf L)).map PV.int).take 7 = (((List.range 7).map (Qcf L)).map PV.int) := rfl
 refine Qai (Qak (d := .str (txtF L)) (ev_joinS (l := (List.range 7).map fun k => sgn.getD ((Qcf L k).fmod 48).toNat "") (Ev.cast (Qas (l := (List.range 7).map (Qcf L)) (pv := .int) (f := fun d => .str (sgn.getD (d.fmod 48).toNat "")) (bd := fun d => [("d", .int d)]) (p := fun _ => true)
   (Ev.it (Ev.cast (ev_slice_lst (lo := none) (hi := some 7) (Ev.tl (Qah (by k_all) (by k_mem))) trivial Qag (by simp only [List.length_map, List.length_range]; decide +kernel)) (show PV.lst _ = PV.lst (((List.range 7).map (Qcf L)).map PV.int) from rfl)) rfl) Qac (by decide +kernel) (fun a => Qat (by k_all) (by k_all)) ?_ (by simp only [List.length_map, List.length_range]; exact szc (by lia))) (by rw [Qap, List.map_map, List.map_map]; rfl)) ?_) (by k_all) Qad) ?_
 ·intro d hd
  obtain ⟨x, e1, e2, e3⟩ := sgn_at d
  refine ⟨Qbe, fun _ => Ev.cast (Qar (l := sgn.map .str) (i := d.fmod 48) (d := .str x) (Ev.tl (Qah (by k_all) (by k_mem))) (Qaj (Qah (by k_all) (by k_mem)) Qag (Qco (by decide))) (Qfh (by decide)).1 (by rw [List.getElem?_map, e1]; rfl) (by have := (Qfh (a := d) (b := 48) (by decide)).2; lia)) (by rw [e2])⟩
 ·have e0 : ("" : Str).length = 0 := by decide +kernel
  have : ∀ (l : List Nat), ((l.map fun k => sgn.getD ((Qcf L k).fmod 48).toNat "").map fun x => x.length).sum <= 3 * l.length := by
   intro l
   induction l with
   | nil => simp
   | cons a l ih =>
    have := sgn_len3 L a
    rw [List.map_cons, List.map_cons, List.sum_cons, List.length_cons]
    lia
  have := this (List.range 7)
  rw [List.length_range] at this
  rw [e0]; lia
 obtain ⟨ta, hta, TG⟩ := TabOK.glob G
 have hTl := txt_len L
 have hok := high_ok L
 refine Qai (Qak (d := .lst ((Qbu L).map .int)) (Qfr ((sp_cut G TG (txt_all L) (by lia)).le (by lia)) (by k_all) (Qby (Qah (by k_all) (by k_mem)) (ev_glo (by k_all) hta))) (by k_all) Qad) ?_
 exact rest _ ⟨by k_mem, by k_mem, by k_mem, by k_mem, by k_mem⟩
set_option maxHeartbeats 2000000 in
theorem law_a1 (G : Gl C) (h5 : 9 <= n) {L : List Int} (l1 : LawA1 L ρ)
  (rest : ∀ ρ, LawA1 L ρ -> Ex C n (Qaf 74).names ((Qax 74).drop 6) ρ none (fun _ _ => False) (fun e => e = .bool true)) :
  Ex C n (Qaf 74).names ((Qax 74).drop 5) ρ none (fun _ _ => False) (fun e => e = .bool true) := by
 obtain ⟨a1, a2, a3, a4, a5⟩ := l1
 have hTl := txt_len L
 have all2 : All1 ltab (txtF L) := fun c hc => by
  have := txt_all L c hc
  unfold dhas at this ⊢
  rwa [← tab_eq]
 refine Qbi (Qey (N := fun p q => LawA1 L p /\ q = none) (b := false) (Tv.cast (Qbk (Qah (by k_all) (by k_mem)) (Qfr ((sp_cut G (TabOK.of ltab) all2 (by lia)).le (by lia)) (by k_all) (Qby (Qah (by k_all) (by k_mem)) (Ev.cast (ev_dictcompS (l := List.range 48) (pv := fun k => .int (k : Int)) (f := fun k => .int (7 + (k : Int))) (ky := fun k => sgn.getD k "") (bd := fun k => [("k", .int (k : Int))]) (p := fun _ => true)
   (Ev.it (ev_rng G (by k_all) Qag) (Qdp 48 (by lia))) Qac (by decide +kernel) (fun a => Qat (by k_all) (by k_all)) ?_ (by decide +kernel)) ?_))) (Qdz (by lia))) ?_) (fun q => nomatch q) fun _ => Qcb ⟨⟨by k_mem, by k_mem, by k_mem, by k_mem, by k_mem⟩, rfl⟩) ?_
 ·intro k hk
  have hk' := List.mem_range.mp hk
  have hs : (sgn.map PV.str)[((k : Nat) : Int).toNat]? = some (.str (sgn.getD k "")) := by
   have : k < sgn.length := by rw [sgn_len]; exact hk'
   simp [this]
  exact ⟨Qbe, fun _ => ⟨Qar (l := sgn.map .str) (i := (k : Int)) (Ev.tl (Qah (by k_all) (by k_mem))) (Qah (by k_all) (by k_mem)) (by lia) hs (by lia), Qaj Qag (Qah (by k_all) (by k_mem)) Qbo⟩⟩
 ·rw [Qap]
  show PV.dctS (Qcv (fun (k : Nat) => sgn.getD k "") (fun k => PV.int (7 + (k : Int))) (List.range 48)) = .dctS (tabS ltab)
  rw [dfold_map PV.int]; rfl
 ·have e : cutF ltab (txtF L).length (txtF L) = Qbu L := (cutF_congr tab_eq _ _).symm
  rw [e]; simp
 rintro ρ1 _ ⟨h, rfl⟩
 exact rest _ h
end
section
set_option tactic.hygienic false
theorem pylong_small {a b : Int} (h : b.natAbs < 2 ^ 64) : Builtin.divisionGoesByPylong a b = false := by
 unfold Builtin.divisionGoesByPylong
 have h1 : b.natAbs.log2 <= 64 := by
  by_cases h0 : b.natAbs = 0
  ·rw [h0]; decide
  ·exact Nat.le_of_lt ((Nat.log2_lt h0).mpr h)
 have : ¬ (if (b == 0) = true then 0 else b.natAbs.log2 / 30 + 1) > 300 := by
  split
  ·omega
  ·omega
 simp only [Bool.and_eq_false_iff, decide_eq_false_iff_not]
 exact .inl this
theorem ev_menu {p0 p1 p2 p3 p4 p5 pos : Pos} : Ev C n nm ρ ow (.Tuple [.Constant (.str "\n") 0 p0, .Constant (.str "\r") 0 p1, .Constant (.str "\r\n") 0 p2, .Constant (.str " \n") 0 p3, .Constant (.str "a\r") 0 p4, .Constant (.str "\x0b\r\n") 0 p5] 0 pos) (.tup ((menuL.map Qbd).map .str)) := by
 have e : menuL.map Qbd = [("\n" : Str), "\r", "\r\n", " \n", "a\r", "\x0b\r\n"] := by decide +kernel
 rw [e]
 refine Qbz ?_ ?_
 ·refine Qao ?_ ?_ ?_
  ·exact Qdf
  ·refine Qao ?_ ?_ ?_
   ·exact Qdf
   ·refine Qao ?_ ?_ ?_
    ·exact Qdf
    ·refine Qao ?_ ?_ ?_
     ·exact Qdf
     ·refine Qao ?_ ?_ ?_
      ·exact Qdf
      ·refine Qao ?_ ?_ ?_
       ·exact Qdf
       ·exact Qdt
       ·intro _; rfl
      ·intro _; rfl
     ·intro _; rfl
    ·intro _; rfl
   ·intro _; rfl
  ·intro _; rfl
 ·exact sz10 rfl
theorem ev_ways {p0 p1 p2 p3 p1' p3' pos : Pos} : Ev C n nm ρ ow (.Tuple [.Constant (.int 1) 0 p0, .UnaryOp .USub (.Constant (.int 1) 0 p1) p1', .Constant (.int 2) 0 p2, .UnaryOp .USub (.Constant (.int 3) 0 p3) p3'] 0 pos) (.tup (([1, -1, 2, -3] : List Int).map .int)) := by
 refine Qbz (ds := [.int 1, .int (-1), .int 2, .int (-3)]) ?_ ?_
 ·refine Qao ?_ ?_ ?_
  ·exact Qag
  ·refine Qao ?_ ?_ ?_
   ·exact ev_neg Qag
   ·refine Qao ?_ ?_ ?_
    ·exact Qag
    ·refine Qao ?_ ?_ ?_
     ·exact ev_neg Qag
     ·exact Qdt
     ·intro _; rfl
    ·intro _; rfl
   ·intro _; rfl
  ·intro _; rfl
 ·exact sz10 rfl
structure LawA2 (L : List Int) (ρ : Qbs) : Prop where
 scr : Qbp ρ "script" = some (.lst (L.map .int))
 drw : Qbp ρ "draws" = some (.lst (((List.range 10).map (Qcf L)).map .int))
 hi : Qbp ρ "high" = some (.lst ((Qbu L).map .int))
 en : Qbp ρ "ends" = some (enV (cellsF L))
theorem draw_at (L : List Int) {k : Nat} (hk : k < 10) : (((List.range 10).map (Qcf L)).map PV.int)[((k : Nat) : Int).toNat]? = some (.int (Qcf L k)) := by simp [hk]
theorem ev_draw {L : List Int} {k k0 : Nat} {p1 p2 p3 : Pos} (hk : k < 10) (hn : (Qdm nm "draws" || Qdi nm "draws") = true) (h : Qbp ρ "draws" = some (.lst (((List.range 10).map (Qcf L)).map .int))) :
  Ev C n nm ρ ow (.Subscript (.Name "draws" p1) (.Constant (.int (k : Int)) k0 p2) p3) (.int (Qcf L k)) :=
 Qar (i := (k : Int)) (Ev.tl (Qah hn h)) Qag (by omega) (draw_at L hk) (by omega)
set_option maxHeartbeats 2000000 in
theorem law_b0 (G : Gl C) (h5 : 9 <= n) {L : List Int} (l1 : LawA1 L ρ)
  (rest : ∀ ρ, LawA2 L ρ -> Ex C n (Qaf 74).names ((Qax 74).drop 8) ρ none (fun _ _ => False) (fun e => e = .bool true)) :
  Ex C n (Qaf 74).names ((Qax 74).drop 6) ρ none (fun _ _ => False) (fun e => e = .bool true) := by
 obtain ⟨a1, a2, a3, a4, a5⟩ := l1
 have hok := high_ok L
 refine Qai (ρ' := (("menu" : Str), PV.tup ((menuL.map Qbd).map .str)) :: ρ) (ow' := none) ?_ ?_
 ·refine Qak ?_ ?_ ?_ ?_
  ·exact ev_menu
  ·k_all
  ·exact Qad
  ·intro _; rfl
 refine Qai (Qcu (l := List.range (Qbu L).length) (pv := fun k => .int (k : Int)) (f := fun k => .str (Qbd (endF L k))) (bd := fun k => [("k", .int (k : Int))]) (p := fun _ => true) (by k_all) Qad
  (Ev.it (Ev.cast (ev_rng G (by k_all) (ev_len G (by k_all) (Qah (by k_all) (by k_mem)) (by rw [List.length_map]; exact szc (by have := hok.len; omega)))) (by rw [List.length_map])) (Qdp _ (by have := hok.len; omega))) Qac (by decide +kernel) (fun a => Qat (by k_all) (by k_all)) ?_ (by rw [List.length_range]; exact szc (by have := hok.len; omega))) ?_
 ·intro k hk
  have hk' := List.mem_range.mp hk
  have hkl : k < 21 := by have := hok.len; omega
  have hpow : (6 : Int) ^ k ≠ 0 := by
   intro q
   have := Int.pow_pos (n := 6) (m := k) (by decide)
   omega
  have hpl : ((6 : Int) ^ k).natAbs < 2 ^ 64 := by
   rw [Int.natAbs_pow]
   have h1 : (6 : Int).natAbs ^ k <= 6 ^ 20 := Nat.pow_le_pow_right (by decide) (by omega)
   exact Nat.lt_of_le_of_lt h1 (by decide)
  have hm := Qfh (a := (Qcf L 7).fdiv (6 ^ k)) (b := 6) (by decide)
  have hmi : (((Qcf L 7).fdiv (6 ^ k)).fmod 6).toNat < menuL.length := by
   have : menuL.length = 6 := rfl
   omega
  refine ⟨Qbe, fun _ => Qdk (l := (menuL.map Qbd).map .str) (i := ((Qcf L 7).fdiv (6 ^ k)).fmod 6) (Ev.tt (Qah (by k_all) (by k_mem))) (Qaj (Qaj (ev_draw (k := 7) (by omega) (by k_all) (by k_mem)) (Qaj Qag (Qah (by k_all) (by k_mem)) (op_pow_int (k := (k : Int)) (by omega) ?_)) (Qdq (by rw [Int.toNat_natCast]; exact hpow) (pylong_small (by rw [Int.toNat_natCast]; exact hpl)))) Qag (Qco (by decide))) hm.1 ?_ (by omega)⟩
  ·have : Builtin.Int.intBits 6 = 3 := by decide +kernel
   rw [this]; omega
  ·unfold endF
   simp [hmi]
 refine rest _ ⟨by k_mem, by k_mem, by k_mem, ?_⟩
 refine lk_here.trans ?_
 rw [Qap]
 unfold enV cellsF
 rw [List.map_map, List.map_map, List.map_map]; rfl
theorem way_ok (L : List Int) : wayF L ≠ 0 /\ Builtin.Int.intBits (wayF L) <= 64 /\ ([1, -1, 2, -3] : List Int)[((Qcf L 9).fmod 4).toNat]? = some (wayF L) := by
 have hm := Qfh (a := Qcf L 9) (b := 4) (by decide)
 have key : ∀ i, i < 4 -> ([1, -1, 2, -3] : List Int).getD i 1 ≠ 0 /\ Builtin.Int.intBits (([1, -1, 2, -3] : List Int).getD i 1) <= 64 /\ ([1, -1, 2, -3] : List Int)[i]? = some (([1, -1, 2, -3] : List Int).getD i 1) := by decide +kernel
 exact key _ (by omega)
set_option maxHeartbeats 2000000 in
theorem law_b1 {K : Frag} {fi fc : Addr} (G : Gl C) (J : JFacts C K fi fc) (h5 : 9 <= n) {L : List Int} (hL : L.length <= 63) (P : Facts (Qbu L)) (l1 : LawA2 L ρ)
  (rest : ∀ ρ, LawA L ρ -> Ex C n (Qaf 74).names ((Qax 74).drop 10) ρ none (fun _ _ => False) (fun e => e = .bool true)) :
  Ex C n (Qaf 74).names ((Qax 74).drop 8) ρ none (fun _ _ => False) (fun e => e = .bool true) := by
 obtain ⟨a1, a2, a3, a4⟩ := l1
 have hok := high_ok L
 obtain ⟨w1, w2, w3⟩ := way_ok L
 have hm := Qfh (a := Qcf L 9) (b := 4) (by decide)
 refine Qai (ρ' := (("levels" : Str), PV.lst ((Qcc (Qbu L)).map .int)) :: ρ) (ow' := none) ?_ ?_
 ·refine Qak ?_ ?_ ?_ ?_
  ·refine Qfr ((sp_levels G J w1 w2 (by have := hok.len; omega)).le (by omega)) (by k_all) (Qby ?_ ?_)
   ·exact Qah (by k_all) a3
   ·refine Qdk (l := ([1, -1, 2, -3] : List Int).map .int) (i := (Qcf L 9).fmod 4) (Ev.tt ev_ways) (Qaj (ev_draw (k := 9) (by omega) (by k_all) a2) Qag (Qco (by decide))) hm.1 ?_ (by omega)
    rw [List.getElem?_map, w3]; rfl
  ·k_all
  ·exact Qad
  ·intro _; rfl
 refine Qbi (Qey (N := fun p q => LawA L p /\ q = none) (b := false) (Tv.cast (Qbk (Qah (by k_all) (by k_mem)) (Qas (l := rng54) (pv := .int) (f := .int) (bd := fun x => [("level", .int x)]) (p := fun x => (Qbu L).contains x)
   (Ev.it (Qbh G.b_range Qcj (by k_all) (Qds Qag Qag (ev_neg Qag)) (opF_range3 (by decide) (by decide +kernel))) rng54_items) Qac (by decide +kernel) (fun a => Qat (by k_all) (by k_all)) ?_ (by decide +kernel)) (Qdz (by omega))) ?_) (fun q => nomatch q) fun _ => Qcb ⟨⟨by k_mem, by k_mem, by k_mem, by k_mem, by k_mem⟩, rfl⟩) ?_
 ·intro x hx
  exact ⟨Qcl (Qbk (Qah (by k_all) (by k_mem)) (Qah (by k_all) (by k_mem)) opc_in_ints), fun _ => Qah (by k_all) (by k_mem)⟩
 ·rw [← P.lev]; simp
 rintro ρ1 _ ⟨h, rfl⟩
 exact rest _ h
end
section
set_option tactic.hygienic false
theorem lev_len (h : List Int) (P : Facts h) : (Qcc h).length <= 48 := by
 rw [P.lev]
 have := List.length_filter_le (fun x => h.contains x) rng54
 have e : rng54.length = 48 := by decide
 lia
theorem len_td {α : Type} (l : List α) (a b : Nat) : ((l.drop a).take b).length <= l.length := Nat.le_trans (List.length_take_le' ..) (by rw [List.length_drop]; exact Nat.sub_le _ _)
theorem flat_len2 {α β γ : Type} (l : List α) (m : List β) (f : α -> β -> γ) : ((l.map fun a => m.map (f a)).flatten).length = l.length * m.length := by
 induction l with
 | nil => simp
 | cons a l ih => rw [List.map_cons, List.flatten_cons, List.length_append, ih, List.length_map, List.length_cons, Nat.succ_mul, Nat.add_comm]
theorem dis_ab {d d' : PV} {p q : Str × PV} (hp : p ∈ ([(("b" : Str), d)] : Qbs)) (hq : q ∈ ([(("a" : Str), d')] : Qbs)) : p.1 ≠ q.1 := by
 simp only [List.mem_singleton] at hp hq
 subst hp hq
 exact (by decide +kernel : ("b" : Str) ≠ "a")
set_option maxHeartbeats 2000000 in
theorem law_c0 (G : Gl C) (h5 : 9 <= n) {L : List Int} (hL : L.length <= 63) (P : Facts (Qbu L)) (l1 : LawA L ρ)
  (rest : ∀ ρ, LawA L ρ -> Ex C n (Qaf 74).names ((Qax 74).drop 11) ρ none (fun _ _ => False) (fun e => e = .bool true)) :
  Ex C n (Qaf 74).names ((Qax 74).drop 10) ρ none (fun _ _ => False) (fun e => e = .bool true) := by
 have l1' := l1
 obtain ⟨a1, a2, a3, a4, a5⟩ := l1
 have hll := lev_len _ P
 generalize hlv : Qcc (Qbu L) = lv at *
 refine Qbi (Qez (l := ([255] ++ (lv.map fun a => lv.map fun b => 256 + a - b).flatten) ++ L.take 60) (pv := .int) (bd := fun x => [("x", .int x)]) (I := fun _ ρ ow => ow = none /\ LawA L ρ)
  (Ev.itF (Ev.cast (Qaj (Qaj (Qgd (Qaw Qag) (sz10 rfl)) (ev_listcomp2 (l := lv) (m := lv) (pv := .int) (pv2 := .int) (f := fun a b => .int (256 + a - b)) (bd := fun a => [("a", .int a)]) (bd2 := fun b => [("b", .int b)]) (Ev.it (Qah (by k_all) (by k_mem)) rfl) Qac (by decide +kernel) (fun a => Qat (by k_all) (by k_all))
    (fun a _ => Ev.itF (Qah (by k_all) (by k_mem)) rfl) Qac (fun a => Qat (by k_all) (by k_all)) (fun a _ b _ => Qaj (Qaj Qag (Qah (by k_all) (by k_mem)) Qbo) (Qah (by k_all) (by k_mem)) Qav) ?_ (fun a b p hp q hq => dis_ab hp hq)) (Qeq ?_)) (ev_slice_lst (lo := none) (hi := some 60) (Ev.tl (Qah (by k_all) (by k_mem))) trivial Qag (by rw [List.length_map]; exact szc (by lia))) (Qeq ?_)) (d' := .lst ((([255] ++ (lv.map fun a => lv.map fun b => 256 + a - b).flatten) ++ L.take 60).map .int)) ?_) rfl) Qac ⟨rfl, l1'⟩ ?_) ?_
 ·have : lv.length * lv.length <= 48 * 48 := Nat.mul_le_mul hll hll
  exact szc (by lia)
 ·rw [flat_len2]
  have : lv.length * lv.length <= 48 * 48 := Nat.mul_le_mul hll hll
  simp only [List.length_cons, List.length_nil]
  exact szc (by lia)
 ·rw [List.length_append, flat_len2]
  have : lv.length * lv.length <= 48 * 48 := Nat.mul_le_mul hll hll
  have h4 := len_td (L.map PV.int) ((none : Option Int).elim 0 (clipAt (L.map PV.int).length)) (((some (60 : Int)).elim (L.map PV.int).length (clipAt (L.map PV.int).length)) - ((none : Option Int).elim 0 (clipAt (L.map PV.int).length)))
  have h5 : (L.map PV.int).length = L.length := List.length_map _
  have h6 : ([PV.int 255] : List PV).length = 1 := rfl
  rw [h6]
  generalize (((L.map PV.int).drop ((none : Option Int).elim 0 (clipAt (L.map PV.int).length))).take (((some (60 : Int)).elim (L.map PV.int).length (clipAt (L.map PV.int).length)) - ((none : Option Int).elim 0 (clipAt (L.map PV.int).length)))).length = q at *
  exact szc (by lia)
 ·have hc : ((L.map PV.int).drop ((none : Option Int).elim 0 (clipAt (L.map PV.int).length))).take (((some (60 : Int)).elim (L.map PV.int).length (clipAt (L.map PV.int).length)) - ((none : Option Int).elim 0 (clipAt (L.map PV.int).length))) = (L.take 60).map PV.int := by
   have e60 : clipAt (L.map PV.int).length (60 : Int) = min 60 L.length := by
    rw [show (60 : Int) = ((60 : Nat) : Int) from rfl, clipAt_nat, List.length_map]
   simp only [Option.elim, e60, List.drop_zero, Nat.sub_zero]
   rw [← List.map_take]
   congr 1
   rcases Nat.le_total 60 L.length with h | h
   ·rw [Nat.min_eq_left h]
   ·rw [Nat.min_eq_right h, List.take_of_length_le (Nat.le_refl _), List.take_of_length_le h]
  rw [hc, List.map_append, List.map_append, List.map_flatten, List.map_map]
  congr 4
  simp only [Function.comp_def, List.map_map]
 ·rintro j x ρ' _ hx ⟨rfl, h⟩
  refine ⟨tgt_one (by k_all) Qad, ?_⟩
  obtain ⟨b1, b2, b3, b4, b5⟩ := h
  refine Qbi (Qey (N := fun p q => p = (("x" : Str), PV.int x) :: ρ' /\ q = none) (b := false) (Tv.cast (tv_or (Qbk (Qfr ((sp_isterminal G : Spec C (0 + 1) _ _ _).le (by lia)) (by k_all) (Qaw (Qah (by k_all) (by k_mem)))) (ev_cmp (Qah (by k_all) (by k_mem)) Qag opc_lt) Qfw) fun _ =>
   tv_or (Qbk (Qfr ((sp_isnonterminal G : Spec C (0 + 1) _ _ _).le (by lia)) (by k_all) (Qaw (Qah (by k_all) (by k_mem)))) (ev_cmp (Qah (by k_all) (by k_mem)) Qag opc_gt) Qfw) fun _ =>
   tv_or (Qbk (Qfr ((sp_iseof G : Spec C (0 + 1) _ _ _).le (by lia)) (by k_all) (Qaw (Qaj (Qah (by k_all) (by k_mem)) Qag Qav))) (ev_cmp (Qah (by k_all) (by k_mem)) Qag opc_eq) Qfw) fun _ => tv_or_nil) ?_) (fun q => nomatch q) fun _ => Qcb ⟨rfl, rfl⟩) ?_
  ·have e1 : decide (256 <= x) = decide (255 < x) := by
    rw [Bool.eq_iff_iff, decide_eq_true_eq, decide_eq_true_eq]; lia
   have e2 : (x - 256 == 0) = (x == 256) := by
    rw [Bool.eq_iff_iff, beq_iff_eq, beq_iff_eq]; lia
   rw [e1, e2]; simp
  rintro _ _ ⟨rfl, rfl⟩
  refine Qcb ⟨rfl, ?_⟩
  subst hlv
  exact ⟨by k_mem, by k_mem, by k_mem, by k_mem, by k_mem⟩
 ·rintro ρ1 _ ⟨rfl, h⟩
  exact rest _ h
end
section
set_option tactic.hygienic false
theorem lev_sub {h : List Int} (P : Facts h) : ∀ x ∈ Qcc h, x ∈ h := by
 intro x hx
 rw [P.lev] at hx
 simpa using (List.mem_filter.mp hx).2
theorem lev_nd {h : List Int} (P : Facts h) : (Qcc h).Nodup := by
 rw [P.lev]
 exact List.Nodup.sublist List.filter_sublist (by decide : rng54.Nodup)
theorem lev_le {h : List Int} (P : Facts h) : (Qcc h).length <= h.length := Qcs (lev_nd P) (lev_sub P)
structure LawD (L : List Int) (ρ : Qbs) : Prop where
 drw : Qbp ρ "draws" = some (.lst (((List.range 10).map (Qcf L)).map .int))
 hi : Qbp ρ "high" = some (.lst ((Qbu L).map .int))
 lev : Qbp ρ "levels" = some (.lst ((Qcc (Qbu L)).map .int))
 fl : Qbp ρ "faults" = some (.lst [])
 lv : Qbp ρ "lives" = some (.dctI (Qca (Qem (Qbu L))))
 jn : Qbp ρ "joins" = some (.dctI (Qca (Qdj (Qbu L))))
set_option maxHeartbeats 2000000 in
theorem law_d0 (G : Gl C) (h5 : 9 <= n) {L : List Int} (P : Facts (Qbu L)) (l1 : LawA L ρ)
  (rest : ∀ ρ, LawD L ρ -> Ex C n (Qaf 74).names ((Qax 74).drop 13) ρ none (fun _ _ => False) (fun e => e = .bool true)) :
  Ex C n (Qaf 74).names ((Qax 74).drop 11) ρ none (fun _ _ => False) (fun e => e = .bool true) := by
 obtain ⟨a1, a2, a3, a4, a5⟩ := l1
 have hok := high_ok L
 have hlen := hok.len
 have hll := lev_le P
 refine Qai (Qak (d := .lst []) (Qgd Qdt (sz10 rfl)) (by k_all) Qad) ?_
 have sp := sp_lives G (cells := cellsF L) (lv := Qcc (Qbu L)) (fl := .lst []) (cells_menu L) (by rw [cells_len]; omega) (by omega) (fun x hx => by have := hok.val x (lev_sub P x hx); omega)
 have hhi : hiV (cellsF L) = .lst ((Qbu L).map .int) := by unfold hiV; rw [cells_high]
 rw [hhi, cells_high] at sp
 refine Qai (ρ' := (("lives" : Str), PV.dctI (Qca (Qem (Qbu L)))) :: (("joins" : Str), PV.dctI (Qca (Qdj (Qbu L)))) :: (("faults" : Str), PV.lst []) :: ρ) (ow' := none)
  (exs_tup (ps := [(("lives", _), .dctI (Qca (Qem (Qbu L)))), (("joins", _), .dctI (Qca (Qdj (Qbu L))))])
   (Qfr (sp.le (by omega)) (by k_all) (Qao (Qah (by k_all) (by k_mem)) (Qds (Qah (by k_all) (by k_mem)) (Qah (by k_all) (by k_mem)) (Qah (by k_all) (by k_mem)))))
   ?_ (show ([("lives" : Str), "joins"] : List Str).Nodup by decide +kernel) (by intro _; rfl) (fun env => .inl rfl) (by intro _; rfl)) ?_
 ·intro p hp
  revert p; refine al ?_ (al ?_ an) <;> exact ⟨by k_all, Qad⟩
 exact rest _ ⟨by k_mem, by k_mem, by k_mem, by k_mem, by k_mem, by k_mem⟩
structure LawE (L : List Int) (ρ : Qbs) : Prop extends LawD L ρ where
 fla : Qbp ρ "flat" = some (.lst ((Qcq (Qbu L)).map .int))
theorem flat_vals {h : List Int} (ho : RowOK h) : ∀ k, 0 <= (Qcq h).getD k 0 /\ (Qcq h).getD k 0 <= 54 := by
 have hh : ∀ k, 0 <= h.getD k 0 /\ h.getD k 0 <= 54 := by
  intro k
  by_cases q : k < h.length
  ·have : h.getD k 0 = h[k] := by simp [q]
   rw [this]; have := ho.val _ (List.getElem_mem q); omega
  ·have : h.getD k 0 = 0 := by simp at q; simp [q]
   rw [this]; omega
 have hm : ∀ x ∈ Qcq h, 0 <= x /\ x <= 54 := by
  intro x hx
  unfold Qcq at hx
  simp only [List.mem_append, List.mem_singleton, List.mem_map] at hx
  rcases hx with (rfl | ⟨k, _, rfl⟩) | rfl
  ·omega
  ·exact hh k
  ·omega
 intro k
 by_cases q : k < (Qcq h).length
 ·have : (Qcq h).getD k 0 = (Qcq h)[k] := by simp [q]
  rw [this]; exact hm _ (List.getElem_mem q)
 ·have : (Qcq h).getD k 0 = 0 := by simp at q; simp [q]
  rw [this]; omega
theorem flatF_len {h : List Int} : 2 <= (Qcq h).length /\ (Qcq h).length <= h.length + 2 := by
 unfold Qcq
 rw [List.length_append, List.length_append, List.length_map]
 have := List.length_filter_le (fun k => k == 0 || h.getD k 0 != h.getD (k - 1) 0) (List.range h.length)
 rw [List.length_range] at this
 simp only [List.length_cons, List.length_nil]
 omega
theorem int_at {h : List Int} {k : Nat} (hk : k < h.length) : (h.map PV.int)[((k : Nat) : Int).toNat]? = some (.int (h.getD k 0)) := by simp [hk]
theorem ev_at {h : List Int} {x : Str} {p1 pos : Pos} {e : Expr} {i : Int} {k : Nat} (hx : (Qdm nm x || Qdi nm x) = true) (hl : Qbp ρ x = some (.lst (h.map .int))) (he : Ev C n nm ρ ow e (.int i)) (hi : i = (k : Int)) (hk : k < h.length) (hs : k < 100000) (hb : (x == ("__debug__" : Str)) = false := by k_all) (hc : (x == ("__classdict__" : Str)) = false := by k_all)
  (hsub : ∀ o t, subscripted e false o (.int i t) = operate [o, .int i t] (getItem o (.int i t)) := by k_all) :
  Ev C n nm ρ ow (.Subscript (.Name x p1) e pos) (.int (h.getD k 0)) := by
 subst hi
 exact Qar (i := (k : Int)) (Ev.tl (Qah hx hl hb hc)) he (by omega) (int_at hk) (by omega) hsub
set_option maxHeartbeats 2000000 in
theorem law_d1 (G : Gl C) (h5 : 9 <= n) {L : List Int} (P : Facts (Qbu L)) (l1 : LawD L ρ)
  (rest : ∀ ρ, LawE L ρ -> Ex C n (Qaf 74).names ((Qax 74).drop 14) ρ none (fun _ _ => False) (fun e => e = .bool true)) :
  Ex C n (Qaf 74).names ((Qax 74).drop 13) ρ none (fun _ _ => False) (fun e => e = .bool true) := by
 obtain ⟨a1, a2, a3, a4, a5, a6⟩ := l1
 have hlen := (high_ok L).len
 generalize hh : Qbu L = h at *
 refine Qai (Qak (d := .lst ((Qcq h).map .int)) (Ev.cast (Qaj (Qaj (Qgd (Qaw Qag) (sz10 rfl)) (Qas (l := List.range h.length) (pv := fun k => .int (k : Int)) (f := fun k => .int (h.getD k 0)) (bd := fun k => [("k", .int (k : Int))]) (p := fun k => k == 0 || h.getD k 0 != h.getD (k - 1) 0)
  (Ev.it (Ev.cast (ev_rng G (by k_all) (ev_len G (by k_all) (Qah (by k_all) (by k_mem)) (by rw [List.length_map]; exact szc (by omega)))) (by rw [List.length_map])) (Qdp _ (by omega))) Qac (by decide +kernel) (fun a => Qat (by k_all) (by k_all)) ?_ (by rw [List.length_range]; exact szc (by omega))) (Qeq ?_)) (Qgd (Qaw Qag) (sz10 rfl)) (Qeq ?_)) ?_) (by k_all) Qad) ?_
 ·intro k hk
  have hk' := List.mem_range.mp hk
  refine ⟨Qcl (Tv.cast (tv_or2 (b := ((k : Int) == 0)) (c := h.getD k 0 != h.getD (k - 1) 0) (Qbk (Qah (by k_all) (by k_mem)) Qag opc_eq) fun hb => Qbk (ev_at (k := k) (by k_all) (by k_mem) (Qah (by k_all) (by k_mem)) rfl hk' (by omega)) (ev_at (k := k - 1) (by k_all) (by k_mem) (Qaj (Qah (by k_all) (by k_mem)) Qag Qav) ?_ (by omega) (by omega)) opc_ne) ?_), fun _ => ev_at (k := k) (by k_all) (by k_mem) (Qah (by k_all) (by k_mem)) rfl hk' (by omega)⟩
  ·have : (k : Int) ≠ 0 := by simpa using hb
   omega
  ·congr 1
   rw [Bool.eq_iff_iff, beq_iff_eq, beq_iff_eq]; omega
 ·have := flatF_len (h := h)
  unfold Qcq at this
  simp only [List.length_append, List.length_map, List.length_cons, List.length_nil] at this ⊢
  exact szc (by omega)
 ·have := flatF_len (h := h)
  unfold Qcq at this
  simp only [List.length_append, List.length_map, List.length_cons, List.length_nil] at this ⊢
  exact szc (by omega)
 ·unfold Qcq
  rw [List.map_append, List.map_append, List.map_map]; rfl
 subst hh
 exact rest _ ⟨⟨by k_mem, by k_mem, by k_mem, by k_mem, by k_mem, by k_mem⟩, by k_mem⟩
structure LawF (L : List Int) (ρ : Qbs) : Prop extends LawE L ρ where
 tur : Qbp ρ "turns" = some (.lst ((turnsF (Qbu L)).map .int))
set_option maxHeartbeats 2000000 in
theorem law_d2 (G : Gl C) (h5 : 9 <= n) {L : List Int} (P : Facts (Qbu L)) (l1 : LawE L ρ)
  (rest : ∀ ρ, LawF L ρ -> Ex C n (Qaf 74).names ((Qax 74).drop 15) ρ none (fun _ _ => False) (fun e => e = .bool true)) :
  Ex C n (Qaf 74).names ((Qax 74).drop 14) ρ none (fun _ _ => False) (fun e => e = .bool true) := by
 obtain ⟨⟨a1, a2, a3, a4, a5, a6⟩, a7⟩ := l1
 have hok := high_ok L
 have hlen := hok.len
 have hv := flat_vals hok
 have hfl := flatF_len (h := Qbu L)
 have hT : PV.lst ((turnsF (Qbu L)).map .int) = .lst (((List.range ((Qcq (Qbu L)).length - 2)).filter fun k => decide (0 < ((Qcq (Qbu L)).getD (k + 1) 0 - (Qcq (Qbu L)).getD k 0) * ((Qcq (Qbu L)).getD (k + 1) 0 - (Qcq (Qbu L)).getD (k + 2) 0))).map fun k => .int ((Qcq (Qbu L)).getD (k + 1) 0)) := by
  unfold turnsF; rw [List.map_map]; rfl
 generalize hf : Qcq (Qbu L) = f at *
 refine Qai (Qcu (l := List.range (f.length - 2)) (pv := fun k => .int ((k + 1 : Nat) : Int)) (f := fun k => .int (f.getD (k + 1) 0)) (bd := fun k => [("k", .int ((k + 1 : Nat) : Int))]) (p := fun k => decide (0 < (f.getD (k + 1) 0 - f.getD k 0) * (f.getD (k + 1) 0 - f.getD (k + 2) 0))) (by k_all) Qad
  (Ev.it (d := .rng 1 ((f.length - 1 : Nat) : Int) 1) (Qbh G.b_range Qcj (by k_all) (Qby Qag (Ev.cast (Qaj (ev_len G (by k_all) (Qah (by k_all) (by k_mem)) (by rw [List.length_map]; exact szc (by omega))) Qag Qav) ?_)) opF_range2) (by rw [rng1_items _ (by omega)]; rfl)) Qac (by decide +kernel) (fun a => Qat (by k_all) (by k_all)) ?_ (by rw [List.length_range]; exact szc (by omega))) ?_
 ·rw [List.length_map]; congr 1; omega
 ·intro k hk
  have hk' := List.mem_range.mp hk
  have v0 := hv k
  have v1 := hv (k + 1)
  have v2 := hv (k + 2)
  refine ⟨Qcl (Qbk (Qaj (Qaj (ev_at (x := ("flat" : Str)) (k := k + 1) (by k_all) (by k_mem) (Qah (by k_all) (by k_mem)) rfl (by omega) (by omega)) (ev_at (x := ("flat" : Str)) (k := k) (by k_all) (by k_mem) (Qaj (Qah (by k_all) (by k_mem)) Qag Qav) (by omega) (by omega) (by omega)) Qav)
   (Qaj (ev_at (x := ("flat" : Str)) (k := k + 1) (by k_all) (by k_mem) (Qah (by k_all) (by k_mem)) rfl (by omega) (by omega)) (ev_at (x := ("flat" : Str)) (k := k + 2) (by k_all) (by k_mem) (Qaj (Qah (by k_all) (by k_mem)) Qag Qbo) (by omega) (by omega) (by omega)) Qav) (Qcn (mul_small (by omega) (by omega)))) Qag opc_gt), fun _ => ev_at (x := ("flat" : Str)) (k := k + 1) (by k_all) (by k_mem) (Qah (by k_all) (by k_mem)) rfl (by omega) (by omega)⟩
 rw [← hT]
 subst hf
 exact rest _ ⟨⟨⟨by k_mem, by k_mem, by k_mem, by k_mem, by k_mem, by k_mem⟩, by k_mem⟩, by k_mem⟩
end
section
set_option tactic.hygienic false
noncomputable def toldV (h : List Int) (x : Int) : Int := match Qcm (Qdj h) x with | some c => (ct c).getD 0 0 | none => 0
theorem toldV_eq (h : List Int) (x : Int) : toldV h x = (match Qcm (Qdj h) x with | some c => (ct c).getD 0 0 | none => 0) := rfl
theorem told_fact {h : List Int} (P : Facts h) : ∀ x ∈ Qcc h, toldV h x = (((turnsF h).countP (· == x) : Nat) : Int) - (if x == (Qcc h).getD 0 0 then 1 else 0) := P.told
theorem dfold_congr {α K β : Type} [DecidableEq K] {ky : α -> K} {f g : α -> β} {l : List α} (h : ∀ a ∈ l, f a = g a) : Qcv ky f l = Qcv ky g l := by
 have : ∀ (l : List α) (acc : List (K × β)), (∀ a ∈ l, f a = g a) -> l.foldl (fun acc a => Qdb acc (ky a) (f a)) acc = l.foldl (fun acc a => Qdb acc (ky a) (g a)) acc := by
  intro l
  induction l with
  | nil => intro acc _; rfl
  | cons a l ih => intro acc h; rw [List.foldl_cons, List.foldl_cons, h a List.mem_cons_self]; exact ih _ fun b hb => h b (List.mem_cons_of_mem _ hb)
 exact this l [] h
theorem joinsT_ok (h : List Int) : OkJ (Qcc h) (Qdj h) := joinsF_ok _ (Nat.le_refl _)
theorem ct_pv {c : CV} (hk : CV.kd (some 4) c) : ∃ l, c = .t l /\ l.length = 4 := by
 cases c with
 | i a => cases hk
 | t l => exact ⟨l, rfl, by simpa [CV.kd] using hk.symm⟩
theorem turns_len (h : List Int) (hl : h.length <= 21) : (turnsF h).length <= 21 := by
 unfold turnsF
 rw [List.length_map]
 have := List.length_filter_le (fun k => decide (0 < ((Qcq h).getD (k + 1) 0 - (Qcq h).getD k 0) * ((Qcq h).getD (k + 1) 0 - (Qcq h).getD (k + 2) 0))) (List.range ((Qcq h).length - 2))
 rw [List.length_range] at this
 have := flatF_len (h := h)
 omega
noncomputable def ifTest (st : Stmt) : Expr := (parts st).2
set_option maxHeartbeats 2000000 in
theorem told_if (G : Gl C) (h5 : 9 <= n) {T : List (Int × CV)} {tu lv : List Int} {tv : Int -> Int} (hll : lv.length <= 21) (htl : tu.length <= 21) (hpt : ∀ x ∈ lv, tv x = ((tu.countP (· == x) : Nat) : Int) - (if x == lv.getD 0 0 then 1 else 0))
  (a1 : Qbp ρ "faults" = some (.lst [])) (a2 : Qbp ρ "told" = some (.dctI (Qcv (fun x => x) (fun x => .int (tv x)) lv))) (a3 : Qbp ρ "levels" = some (.lst (lv.map .int))) (a4 : Qbp ρ "turns" = some (.lst (tu.map .int))) :
  Tv C n (Qaf 74).names ρ none (ifTest (((Qax 74)[16]?).getD (.Pass default))) false := by
 refine Tv.cast (tv_or2 (b := false) (c := false) ?_ fun _ => ?_) rfl
 ·exact Tv.cast (Qbk (Qah (by k_all) (by k_mem)) (Qgd Qdt (sz10 rfl)) (Qdz (l := []) (m := []) (by omega))) rfl
 ·refine Qbk (d1 := .dctI (Qcv (fun x => x) (fun x => .int (tv x)) lv)) (d2 := .dctI (Qcv (fun x => x) (fun x => .int (tv x)) lv)) ?_ ?_ ?_
  ·exact Qah (by k_all) (by k_mem)
  ·refine Ev.cast (Qeh (l := lv) (pv := .int) (f := fun x => .int (((tu.countP (· == x) : Nat) : Int) - (if x == lv.getD 0 0 then 1 else 0))) (ky := fun x => x) (bd := fun x => [("level", .int x)]) (p := fun _ => true) ?_ ?_ ?_ ?_ ?_ ?_ ?_) ?_
   ·exact Ev.it (Qah (by k_all) (by k_mem)) rfl
   ·exact Qac
   ·decide +kernel
   ·exact fun a => Qat (by k_all) (by k_all)
   ·intro x hx
    have h0 : 0 < lv.length := by
     cases h : lv with
     | nil => rw [h] at hx; cases hx
     | cons a l => simp
    refine ⟨Qbe, fun _ => ⟨?_, ?_⟩⟩
    ·exact Qah (by k_all) (by k_mem)
    ·refine Qaj (d1 := .int ((tu.countP (· == x) : Nat) : Int)) (d2 := .int (if x == lv.getD 0 0 then 1 else 0)) ?_ ?_ Qav
     ·refine ev_meth (d1 := .lst (tu.map .int)) (ds := [.int x]) PySem.F.plainAttrs_list PySem.F.slot_list_count PySem.F.type_list_count ?_ (fun X s v r => tyV_lst r) ?_ (opF_count (szc (by omega))) ?_ ?_ ?_ ?_ ?_
      ·exact Qah (by k_all) (by k_mem)
      ·exact Qaw (Qah (by k_all) (by k_mem))
      ·intro _; rfl
      ·intro _; rfl
      ·rfl
      ·intro _; rfl
      ·intro _; rfl
     ·refine Qfq ?_ ?_ ?_
      ·refine Qbk (d1 := .int x) (d2 := .int (lv.getD 0 0)) ?_ ?_ opc_eq
       ·exact Qah (by k_all) (by k_mem)
       ·exact ev_at (x := ("levels" : Str)) (k := 0) (by k_all) (by k_mem) Qag rfl h0 (by omega)
      ·exact Qag
      ·exact Qag
   ·exact szc (by omega)
   ·intro _ _; rfl
   ·rw [Qap]
    congr 1
    exact (dfold_congr fun x hx => congrArg PV.int (hpt x hx)).symm
  ·refine opc_ne_dct ?_ (dfold_nd _) (by omega)
   intro p hp
   exact dfold_all (P := Simple) (ky := fun x : Int => x) (f := fun x => PV.int (tv x)) (fun _ => trivial) lv p hp
set_option maxHeartbeats 2000000 in
theorem law_e (G : Gl C) (h5 : 9 <= n) {L : List Int} (P : Facts (Qbu L)) (l1 : LawF L ρ)
  (rest : ∀ ρ, LawD L ρ -> Ex C n (Qaf 74).names ((Qax 74).drop 17) ρ none (fun _ _ => False) (fun e => e = .bool true)) :
  Ex C n (Qaf 74).names ((Qax 74).drop 15) ρ none (fun _ _ => False) (fun e => e = .bool true) := by
 have hD := l1.toLawE.toLawD
 obtain ⟨⟨⟨a1, a2, a3, a4, a5, a6⟩, a7⟩, a8⟩ := l1
 have hlen := (high_ok L).len
 have hll := lev_le P
 have hll' : (Qcc (Qbu L)).length <= 21 := by omega
 have hJ := joinsT_ok (Qbu L)
 have htl := turns_len (Qbu L) hlen
 have hnd := lev_nd P
 have hje := toldV_eq (Qbu L)
 have hpt' := told_fact P
 have fin : ∀ d, LawD L (("told", d) :: ρ) := fun d => ⟨by k_mem, by k_mem, by k_mem, by k_mem, by k_mem, by k_mem⟩
 have hjk := hJ.kd
 clear hD P hJ
 generalize toldV (Qbu L) = tv at *
 generalize Qdj (Qbu L) = T at *
 generalize turnsF (Qbu L) = tu at *
 generalize Qcc (Qbu L) = lv at *
 have e16 := told_if (n := n) (T := T) (tu := tu) (lv := lv) (tv := tv) G (by omega) hll' htl hpt' (ρ := (("told" : Str), .dctI (Qcv (fun x => x) (fun x => .int (tv x)) lv)) :: ρ) (by k_mem) (by k_mem) (by k_mem) (by k_mem)
 refine Qai (exs_dictcompI (l := lv) (pv := .int) (f := fun x => .int (tv x)) (ky := fun x => x) (bd := fun x => [("level", .int x)]) (p := fun _ => true) (by k_all) Qad
  (Ev.it (Qah (by k_all) (by k_mem)) rfl) Qac (by decide +kernel) (fun a => Qat (by k_all) (by k_all)) ?_ (szc (by omega))) ?_
 ·intro x hx
  refine ⟨Qbe, fun _ => ⟨Qah (by k_all) (by k_mem), Ev.cast (Qge (Qbk (Qah (by k_all) (by k_mem)) (Qah (by k_all) (by k_mem)) opc_in_dct) (d1 := .int (tv x)) (fun hh => ?_) (fun _ => Qag)) ?_⟩⟩
  ·rw [dhas_tabC] at hh
   obtain ⟨c, hc⟩ := Option.isSome_iff_exists.mp hh
   obtain ⟨l, rfl, hl4⟩ := ct_pv (hjk _ (Qdg hc))
   have e : tv x = l.getD 0 0 := by rw [hje, hc]; rfl
   rw [e]
   refine Qdk (l := l.map .int) (i := 0) (Ev.tt (Qdl (Ev.ti (Qah (by k_all) (by k_mem))) (Qah (by k_all) (by k_mem)) (by rw [Qfa, hc]; rfl))) Qag (by omega) ?_ (by omega)
   have : 0 < l.length := by omega
   simp [this]
  ·rw [dhas_tabC]
   cases hc : Qcm T x with
   | some c => simp [dhas, hc]
   | none => simp [dhas, hc, hje]
 rw [Qap]
 refine Qbi (Qey (N := fun p q => p = (("told" : Str), .dctI (Qcv (fun x => x) (fun x => .int (tv x)) lv)) :: ρ /\ q = none) (b := false) e16 (fun q => nomatch q) fun _ => Qcb ⟨rfl, rfl⟩) ?_
 rintro _ _ ⟨rfl, rfl⟩
 exact rest _ (fin _)
end
section
set_option tactic.hygienic false
structure LawG (D : Nat -> Int) (h lv : List Int) (T J : List (Int × CV)) (ρ : Qbs) : Prop where
 drw : Qbp ρ "draws" = some (.lst (((List.range 10).map D).map .int))
 hi : Qbp ρ "high" = some (.lst (h.map .int))
 lev : Qbp ρ "levels" = some (.lst (lv.map .int))
 lvs : Qbp ρ "lives" = some (.dctI (Qca T))
 jn : Qbp ρ "joins" = some (.dctI (Qca J))
noncomputable def dueV (T : List (Int × CV)) (c : Int) : Int := 1 + ((T.filter fun p => decide (c < p.1)).map fun p => ci p.2).sum
noncomputable def lessV (h lv : List Int) : Int := h.getD 0 0 - lv.getD 0 0 + (upsF h).sum
structure FactsG (h lv : List Int) (T J : List (Int × CV)) : Prop where
 few : ∀ c dn up : Int, 0 <= c -> (dn = c /\ up = 0) ∨ (dn = 0 /\ up = c) -> dueV T c ∈ (runS lv dn up (h.getD 0 0) (h.drop 1)).map (fun p => p.2 + p.1.fmod 2) /\ ∀ x ∈ (runS lv dn up (h.getD 0 0) (h.drop 1)).map (fun p => p.2 + p.1.fmod 2), dueV T c <= x
 four : ∀ p ∈ J, (ct p.2).getD 1 0 - (ct p.2).getD 2 0 = (ct p.2).getD 3 0
 sum1 : (T.map fun p => p.1 * ci p.2).sum = lessV h lv
 sum2 : (J.map fun p => (ct p.2).getD 3 0).sum = 2 * lessV h lv
 ne : h ≠ []
 hl : h.length <= 21
 ll : lv.length <= 21
 mx : lv.getD 0 0 ∈ h /\ ∀ x ∈ h, x <= lv.getD 0 0
 Tk : ∀ p ∈ T, CV.kd none p.2
 Tn : (T.map (·.1)).Nodup
 Tl : T.length <= 1000
 Ts : ∀ p ∈ T, -2000 <= p.1 /\ p.1 <= 2000
 Jk : ∀ p ∈ J, CV.kd (some 4) p.2
 Jn : (J.map (·.1)).Nodup
 Jl : J.length <= 1000
structure LawH (D : Nat -> Int) (h lv : List Int) (T J : List (Int × CV)) (b0 b1 : Int) (ρ : Qbs) : Prop extends LawG D h lv T J ρ where
 bn : Qbp ρ "bounds" = some (.tup ([b0, b1].map .int))
theorem ex_max : ∀ (l : List Int), l ≠ [] -> ∃ m ∈ l, ∀ x ∈ l, x <= m
 | [], h => absurd rfl h
 | [a], _ => ⟨a, List.mem_cons_self, fun x hx => by simp at hx; lia⟩
 | a :: b :: l, _ => by
  obtain ⟨m, h1, h2⟩ := ex_max (b :: l) (by simp)
  by_cases h : a <= m
  ·refine ⟨m, List.mem_cons_of_mem _ h1, fun x hx => ?_⟩
   rcases List.mem_cons.mp hx with rfl | hx
   ·exact h
   ·exact h2 x hx
  ·refine ⟨a, List.mem_cons_self, fun x hx => ?_⟩
   rcases List.mem_cons.mp hx with rfl | hx
   ·exact Int.le_refl _
   ·have := h2 x hx; lia
theorem ci_pv {c : CV} (h : CV.kd none c) : c.pv = .int (ci c) := by
 cases c with
 | i a => rfl
 | t l => cases h
set_option maxHeartbeats 2000000 in
theorem law_f0 (G : Gl C) (h5 : 9 <= n) {D : Nat -> Int} {h lv : List Int} {T J : List (Int × CV)} (P : FactsG h lv T J) (l1 : LawG D h lv T J ρ)
  (rest : ∀ ρ b0 b1, 0 <= b0 -> 0 <= b1 -> LawH D h lv T J b0 b1 ρ -> Ex C n (Qaf 74).names ((Qax 74).drop 18) ρ none (fun _ _ => False) (fun e => e = .bool true)) :
  Ex C n (Qaf 74).names ((Qax 74).drop 17) ρ none (fun _ _ => False) (fun e => e = .bool true) := by
 obtain ⟨a1, a2, a3, a4, a5⟩ := l1
 obtain ⟨m, hm, hmx⟩ := ex_max (1 :: T.map (·.1)) (by simp)
 have h1m : (1 : Int) <= m := hmx 1 List.mem_cons_self
 have q0 := Qfh (a := D 8) (b := 30) (by decide)
 have q1 := Qfh (a := (D 8).fdiv 30) (b := 2) (by decide)
 have hTl := P.Tl
 have dr : ∀ {ρ : Qbs} {p1 p2 p3 : Pos} {k0 : Nat}, Qbp ρ "draws" = some (.lst (((List.range 10).map D).map .int)) -> Ev C n (Qaf 74).names ρ none (.Subscript (.Name "draws" p1) (.Constant (.int 8) k0 p2) p3) (.int (D 8)) := fun hh =>
  Qar (i := 8) (Ev.tl (Qah (by k_all) hh)) Qag (by lia) (by simp) (by lia)
 refine Qai (ρ' := (("bounds" : Str), PV.tup ([(D 8).fmod 30, m - ((D 8).fdiv 30).fmod 2].map .int)) :: ρ) (ow' := none) ?_ ?_
 ·refine Qak ?_ ?_ ?_ ?_
  ·refine Qbz (ds := [.int ((D 8).fmod 30), .int (m - ((D 8).fdiv 30).fmod 2)]) (Qby ?_ ?_) (sz10 rfl)
   ·exact Qaj (dr (by k_mem)) Qag (Qco (by decide))
   ·refine Qaj (d1 := .int m) (d2 := .int (((D 8).fdiv 30).fmod 2)) ?_ ?_ Qav
    ·refine Qbh G.b_max Qaq (by k_all) (Qaw (d := .lst ((1 :: T.map (·.1)).map .int)) ?_) (opF_max hm hmx)
     refine Ev.cast (Qaj (Qgd (Qaw Qag) (sz10 rfl)) (Qbh G.b_list Qcj (by k_all) (Qaw (Qah (by k_all) (by k_mem))) (opF_list_dct (by simp only [Qca, List.length_map]; exact szc (by lia)))) (Qeq ?_)) ?_
     ·simp only [Qca, List.length_map, List.length_cons, List.length_nil]; exact szc (by lia)
     ·rw [List.map_cons, Qca, List.map_map, List.map_map]; rfl
    ·exact Qaj (Qaj (dr (by k_mem)) Qag (Qdq (by decide) (pylong_small (by decide)))) Qag (Qco (by decide))
  ·k_all
  ·exact Qad
  ·intro _; rfl
 exact rest _ ((D 8).fmod 30) (m - ((D 8).fdiv 30).fmod 2) q0.1 (by lia) ⟨⟨by k_mem, by k_mem, by k_mem, by k_mem, by k_mem⟩, by k_mem⟩
theorem filt_tab {T : List (Int × CV)} (Tk : ∀ p ∈ T, CV.kd none p.2) (Tn : (T.map (·.1)).Nodup) (c : Int) :
  (Qcv (fun p : Int × CV => p.1) (fun p => p.2.pv) (T.filter fun p => decide (c < p.1))).map (·.2) = ((T.filter fun p => decide (c < p.1)).map fun p => ci p.2).map .int := by
 rw [dcopy_self _ (List.Nodup.sublist (List.Sublist.map _ List.filter_sublist) Tn)]
 unfold Qca
 rw [List.map_map, List.map_map]
 apply List.map_congr_left
 intro p hp
 exact ci_pv (Tk p (List.mem_filter.mp hp).1)
noncomputable def kB : List Stmt := forBody (((Qax 74)[18]?).getD (.Pass default))
set_option maxHeartbeats 2000000 in
theorem law_k (G : Gl C) (h5 : 9 <= n) {D : Nat -> Int} {h lv : List Int} {T J : List (Int × CV)} (P : FactsG h lv T J) {b0 b1 : Int} (hb0 : 0 <= b0) (hb1 : 0 <= b1) {k : Nat} (hk : k < 2) (l1 : LawH D h lv T J b0 b1 ρ) (lk : Qbp ρ "k" = some (.int (k : Int))) :
  Ex C n (Qaf 74).names kB ρ none (fun ρ' ow' => ow' = none /\ LawH D h lv T J b0 b1 ρ') (fun e => e = .bool true) := by
 obtain ⟨⟨a1, a2, a3, a4, a5⟩, a6⟩ := l1
 obtain ⟨c, hc0, hcb⟩ : ∃ c : Int, 0 <= c /\ [b0, b1][k]? = some c := by
  rcases Nat.lt_or_ge k 1 with q | q
  ·have : k = 0 := by lia
   subst this; exact ⟨b0, hb0, rfl⟩
  ·have : k = 1 := by lia
   subst this; exact ⟨b1, hb1, rfl⟩
 have qe := Qfh (a := (D 8).fdiv 60 + (k : Int)) (b := 2) (by decide)
 have hTl := P.Tl
 have hle := P.hl
 have hll := P.ll
 have dr : ∀ {ρ : Qbs} {p1 p2 p3 : Pos} {k0 : Nat}, Qbp ρ "draws" = some (.lst (((List.range 10).map D).map .int)) -> Ev C n (Qaf 74).names ρ none (.Subscript (.Name "draws" p1) (.Constant (.int 8) k0 p2) p3) (.int (D 8)) := fun hh =>
  Qar (i := 8) (Ev.tl (Qah (by k_all) hh)) Qag (by lia) (by simp) (by lia)
 have bd : ∀ {nm : Qck} {ρ : Qbs} {p1 p2 p3 : Pos}, (Qdm nm "bounds" || Qdi nm "bounds") = true -> (Qdm nm "k" || Qdi nm "k") = true -> Qbp ρ "bounds" = some (.tup ([b0, b1].map .int)) -> Qbp ρ "k" = some (.int (k : Int)) -> Ev C n nm ρ none (.Subscript (.Name "bounds" p1) (.Name "k" p2) p3) (.int c) := fun n1 n2 h1 h2 =>
  Qdk (l := [b0, b1].map .int) (i := (k : Int)) (Ev.tt (Qah n1 h1)) (Qah n2 h2) (by lia) (by rw [List.getElem?_map, Int.toNat_natCast, hcb]; rfl) (by lia)
 have hfew := P.few c (c - c * ((D 8).fdiv 60 + (k : Int)).fmod 2) (c * ((D 8).fdiv 60 + (k : Int)).fmod 2) hc0 (by
  have : ((D 8).fdiv 60 + (k : Int)).fmod 2 = 0 ∨ ((D 8).fdiv 60 + (k : Int)).fmod 2 = 1 := by lia
  rcases this with q | q <;> rw [q]
  ·left; lia
  ·right; lia)
 have hft := filt_tab P.Tk P.Tn c
 have hTn := P.Tn
 have hdu : dueV T c = 1 + ((T.filter fun p => decide (c < p.1)).map fun p => ci p.2).sum := rfl
 generalize hdd : dueV T c = du at *
 generalize heu : ((D 8).fdiv 60 + (k : Int)).fmod 2 = eu at *
 have hcons : h = h.getD 0 0 :: h.drop 1 := by
  cases h with
  | nil => exact absurd rfl P.ne
  | cons a l => rfl
 refine Qai (ρ' := (("due" : Str), PV.int du) :: ρ) (ow' := none) ?_ ?_
 ·refine Qak ?_ ?_ ?_ ?_
  ·rw [hdu]
   refine Qaj Qag ?_ Qbo
   refine Qfr ((sp_count_calls G hft : Spec C (0 + 1) _ _ _).le (by lia)) (by k_all) (Qaw ?_)
   refine Qeh (l := T) (pv := fun p => .int p.1) (f := fun p => p.2.pv) (ky := fun p => p.1) (bd := fun p => [("life", .int p.1)]) (p := fun p => decide (c < p.1)) ?_ ?_ ?_ ?_ ?_ ?_ ?_
   ·exact Ev.it (Qah (by k_all) (by k_mem)) (by simp only [Qek, Qca, List.map_map]; rfl)
   ·exact Qac
   ·decide +kernel
   ·exact fun a => Qat (by k_all) (by k_all)
   ·intro p hp
    refine ⟨Qcl (Qbk (Qah (by k_all) (by k_mem)) (bd (by k_all) (by k_all) (by k_mem) (by k_mem)) opc_gt), fun _ => ⟨Qah (by k_all) (by k_mem), ?_⟩⟩
    exact Qdl (Ev.ti (Qah (by k_all) (by k_mem))) (Qah (by k_all) (by k_mem)) (by rw [Qfa, dget_mem hTn hp]; rfl)
   ·exact szc (by lia)
   ·intro _ _; rfl
  ·k_all
  ·exact Qad
  ·intro _; rfl
 refine Qai (ρ' := (("up" : Str), PV.int (c * eu)) :: (("due" : Str), PV.int du) :: ρ) (ow' := none) ?_ ?_
 ·refine Qak ?_ ?_ ?_ ?_
  ·refine Qaj (bd (by k_all) (by k_all) (by k_mem) (by k_mem)) (d2 := .int eu) ?_ (Qcn (mul_small (by lia) (by lia)))
   rw [← heu]
   exact Qaj (Qaj (Qaj (dr (by k_mem)) Qag (Qdq (by decide) (pylong_small (by decide)))) (Qah (by k_all) (by k_mem)) Qbo) Qag (Qco (by decide))
  ·k_all
  ·exact Qad
  ·intro _; rfl
 have sp := sp_fewest (h0 := h.getD 0 0) (hs := h.drop 1) (lv := lv) (dn := c - c * eu) (up := c * eu) (m := du) (by lia) (by rw [List.length_drop]; lia) G hfew.1 hfew.2
 rw [← hcons] at sp
 refine Qbi (Qey (N := fun p q => p = (("up" : Str), PV.int (c * eu)) :: (("due" : Str), PV.int du) :: ρ /\ q = none) (b := false) (Tv.cast (Qbk (d1 := .int du) (d2 := .int du) ?_ ?_ opc_ne) (by simp)) (fun q => nomatch q) fun _ => Qcb ⟨rfl, rfl⟩) ?_
 ·refine Qfr (sp.le (by lia)) (by k_all) (Qao ?_ (Qds ?_ ?_ ?_))
  ·exact Qah (by k_all) (by k_mem)
  ·exact Qah (by k_all) (by k_mem)
  ·exact Qaj (bd (by k_all) (by k_all) (by k_mem) (by k_mem)) (Qah (by k_all) (by k_mem)) Qav
  ·exact Qah (by k_all) (by k_mem)
 ·exact Qah (by k_all) (by k_mem)
 rintro _ _ ⟨rfl, rfl⟩
 exact Qcb ⟨rfl, ⟨⟨by k_mem, by k_mem, by k_mem, by k_mem, by k_mem⟩, by k_mem⟩⟩
set_option maxHeartbeats 2000000 in
theorem law_f1 (G : Gl C) (h5 : 9 <= n) {D : Nat -> Int} {h lv : List Int} {T J : List (Int × CV)} (P : FactsG h lv T J) {b0 b1 : Int} (hb0 : 0 <= b0) (hb1 : 0 <= b1) (l1 : LawH D h lv T J b0 b1 ρ)
  (rest : ∀ ρ, LawH D h lv T J b0 b1 ρ -> Ex C n (Qaf 74).names ((Qax 74).drop 19) ρ none (fun _ _ => False) (fun e => e = .bool true)) :
  Ex C n (Qaf 74).names ((Qax 74).drop 18) ρ none (fun _ _ => False) (fun e => e = .bool true) := by
 refine Qbi (Qez (l := List.range 2) (pv := fun k => .int (k : Int)) (bd := fun k => [("k", .int (k : Int))]) (I := fun _ ρ ow => ow = none /\ LawH D h lv T J b0 b1 ρ)
  (Ev.itF (ev_rng G (by k_all) Qag) (Qdp 2 (by lia))) Qac ⟨rfl, l1⟩ ?_) ?_
 ·rintro j k ρ' _ hk ⟨rfl, hh⟩
  refine ⟨tgt_one (by k_all) Qad, ?_⟩
  obtain ⟨⟨a1, a2, a3, a4, a5⟩, a6⟩ := hh
  have hk2 := List.mem_range.mp (List.mem_of_getElem? hk)
  have := law_k (ρ := ("k", PV.int (k : Int)) :: ρ') G h5 P hb0 hb1 hk2 ⟨⟨by k_mem, by k_mem, by k_mem, by k_mem, by k_mem⟩, by k_mem⟩ (by k_mem)
  exact this
 ·rintro ρ1 _ ⟨rfl, hh⟩
  exact rest _ hh
end
section
set_option tactic.hygienic false
theorem ev_key {T : List (Int × CV)} {x : Str} {p1 p2 pos : Pos} {y : Str} (Tn : (T.map (·.1)).Nodup) {p : Int × CV} (hp : p ∈ T) (hx : (Qdm nm x || Qdi nm x) = true) (hy : (Qdm nm y || Qdi nm y) = true) (h1 : Qbp ρ x = some (.dctI (Qca T))) (h2 : Qbp ρ y = some (.int p.1))
  (hb : (x == ("__debug__" : Str)) = false := by k_all) (hc : (x == ("__classdict__" : Str)) = false := by k_all) (hb' : (y == ("__debug__" : Str)) = false := by k_all) (hc' : (y == ("__classdict__" : Str)) = false := by k_all) :
  Ev C n nm ρ ow (.Subscript (.Name x p1) (.Name y p2) pos) p.2.pv :=
 Qdl (Ev.ti (Qah hx h1 hb hc)) (Qah hy h2 hb' hc') (by rw [Qfa, dget_mem Tn hp]; rfl)
theorem ct_at {c : CV} (h : CV.kd (some 4) c) {i : Nat} (hi : i < 4) : ∃ l : List Int, c.pv = PV.tup (l.map .int) /\ (l.map PV.int)[((i : Nat) : Int).toNat]? = some (.int ((ct c).getD i 0)) := by
 obtain ⟨l, rfl, hl⟩ := ct_pv h
 refine ⟨l, rfl, ?_⟩
 have : i < l.length := by lia
 simp [ct, this]
theorem ev_four {J : List (Int × CV)} {x y : Str} {p1 p2 p3 p4 p5 : Pos} {k0 : Nat} (Jn : (J.map (·.1)).Nodup) {p : Int × CV} (hp : p ∈ J) (hk : CV.kd (some 4) p.2) {i : Nat} (hi : i < 4) (hx : (Qdm nm x || Qdi nm x) = true) (hy : (Qdm nm y || Qdi nm y) = true) (h1 : Qbp ρ x = some (.dctI (Qca J))) (h2 : Qbp ρ y = some (.int p.1))
  (hb : (x == ("__debug__" : Str)) = false := by k_all) (hc : (x == ("__classdict__" : Str)) = false := by k_all) (hb' : (y == ("__debug__" : Str)) = false := by k_all) (hc' : (y == ("__classdict__" : Str)) = false := by k_all) :
  Ev C n nm ρ ow (.Subscript (.Subscript (.Name x p1) (.Name y p2) p3) (.Constant (.int (i : Int)) k0 p4) p5) (.int ((ct p.2).getD i 0)) := by
 obtain ⟨l, e1, e2⟩ := ct_at hk hi
 exact Qdk (l := l.map .int) (i := (i : Int)) (Ev.tt (e1 ▸ ev_key Jn hp hx hy h1 h2 hb hc hb' hc')) Qag (by lia) e2 (by lia)
set_option maxHeartbeats 2000000 in
theorem law_g (G : Gl C) (h5 : 9 <= n) {D : Nat -> Int} {h lv : List Int} {T J : List (Int × CV)} (P : FactsG h lv T J) {b0 b1 : Int} (l1 : LawH D h lv T J b0 b1 ρ) :
  Ex C n (Qaf 74).names ((Qax 74).drop 19) ρ none (fun _ _ => False) (fun e => e = .bool true) := by
 obtain ⟨⟨a1, a2, a3, a4, a5⟩, a6⟩ := l1
 have hTl := P.Tl
 have hJl := P.Jl
 have hle := P.hl
 have hpos : 0 < h.length := by
  cases hh : h with
  | nil => exact absurd hh P.ne
  | cons a l => simp
 refine Qai (ρ' := (("less" : Str), PV.int (lessV h lv)) :: ρ) (ow' := none) ?_ ?_
 ·refine Qak ?_ ?_ ?_ ?_
  ·refine Qaj (d1 := .int (h.getD 0 0 - lv.getD 0 0)) (d2 := .int (upsF h).sum) (Qaj ?_ ?_ Qav) ?_ Qbo
   ·exact ev_at (x := ("high" : Str)) (k := 0) (by k_all) (by k_mem) Qag rfl hpos (by lia)
   ·exact Qbh G.b_max Qaq (by k_all) (Qaw (Qah (by k_all) (by k_mem))) (opF_max P.mx.1 P.mx.2)
   ·refine Qbh G.b_sum Qaq (by k_all) (Qaw (d := .lst ((upsF h).map .int)) ?_) opF_sum
    refine Ev.cast (Qas (l := List.range (h.length - 1)) (pv := fun k => .int ((k + 1 : Nat) : Int)) (f := fun k => .int (max 0 (h.getD (k + 1) 0 - h.getD k 0))) (bd := fun k => [("k", .int ((k + 1 : Nat) : Int))]) (p := fun _ => true) ?_ ?_ ?_ ?_ ?_ ?_ ?_) ?_
    ·exact Ev.it (d := .rng 1 ((h.length : Nat) : Int) 1) (Qbh G.b_range Qcj (by k_all) (Qby Qag (Ev.cast (ev_len G (by k_all) (Qah (by k_all) (by k_mem)) (by rw [List.length_map]; exact szc (by lia))) (by rw [List.length_map]))) opF_range2) (rng1_items _ (by lia))
    ·exact Qac
    ·decide +kernel
    ·exact fun a => Qat (by k_all) (by k_all)
    ·intro k hk
     have hk' := List.mem_range.mp hk
     refine ⟨Qbe, fun _ => ?_⟩
     refine Qbh G.b_max Qaq (by k_all) (Qby Qag (Qaj (d1 := .int (h.getD (k + 1) 0)) (d2 := .int (h.getD k 0)) ?_ ?_ Qav)) opF_max2
     ·exact ev_at (x := ("high" : Str)) (k := k + 1) (by k_all) (by k_mem) (Qah (by k_all) (by k_mem)) rfl (by lia) (by lia)
     ·exact ev_at (x := ("high" : Str)) (k := k) (i := ((k + 1 : Nat) : Int) - 1) (by k_all) (by k_mem) (Qaj (Qah (by k_all) (by k_mem)) Qag Qav) (by lia) (by lia) (by lia)
    ·rw [List.length_range]; exact szc (by lia)
    ·intro _ _; rfl
    ·rw [Qap]; unfold upsF; rw [List.map_map]; rfl
  ·k_all
  ·exact Qad
  ·intro _; rfl
 have Jn := P.Jn
 have Tn := P.Tn
 have Jk := P.Jk
 have Tk := P.Tk
 have keysJ : Qek (.dctI (Qca J)) = some (J.map fun p => PV.int p.1) := by simp only [Qek, Qca, List.map_map]; rfl
 have keysT : Qek (.dctI (Qca T)) = some (T.map fun p => PV.int p.1) := by simp only [Qek, Qca, List.map_map]; rfl
 refine Qbi (Qey (N := fun p q => p = (("less" : Str), PV.int (lessV h lv)) :: ρ /\ q = none) (b := false) (Tv.cast (Qbk (d1 := .lst (((J.filter fun p => (ct p.2).getD 1 0 - (ct p.2).getD 2 0 != (ct p.2).getD 3 0).map fun p => p.1).map .int)) (d2 := .lst []) ?_ ?_ (Qdz (m := []) (by lia))) ?_) (fun q => nomatch q) fun _ => Qcb ⟨rfl, rfl⟩) ?_
 ·refine Ev.cast (Qas (l := J) (pv := fun p => .int p.1) (f := fun p => .int p.1) (bd := fun p => [("key", .int p.1)]) (p := fun p => (ct p.2).getD 1 0 - (ct p.2).getD 2 0 != (ct p.2).getD 3 0) ?_ ?_ ?_ ?_ ?_ ?_ ?_) ?_
  ·exact Ev.it (Qah (by k_all) (by k_mem)) keysJ
  ·exact Qac
  ·decide +kernel
  ·exact fun a => Qat (by k_all) (by k_all)
  ·intro p hp
   refine ⟨Qcl (Qbk (Qaj (ev_four (i := 1) Jn hp (Jk p hp) (by lia) (by k_all) (by k_all) (by k_mem) (by k_mem)) (ev_four (i := 2) Jn hp (Jk p hp) (by lia) (by k_all) (by k_all) (by k_mem) (by k_mem)) Qav) (ev_four (i := 3) Jn hp (Jk p hp) (by lia) (by k_all) (by k_all) (by k_mem) (by k_mem)) opc_ne), fun _ => Qah (by k_all) (by k_mem)⟩
  ·exact szc (by lia)
  ·intro _ _; rfl
  ·rw [List.map_map]; rfl
 ·exact Qgd Qdt (sz10 rfl)
 ·have : J.filter (fun p => (ct p.2).getD 1 0 - (ct p.2).getD 2 0 != (ct p.2).getD 3 0) = [] := by
   rw [List.filter_eq_nil_iff]
   intro p hp
   rw [P.four p hp]; simp
  rw [this]; simp
 rintro _ _ ⟨rfl, rfl⟩
 have hs1 := P.sum1
 have hs2 := P.sum2
 refine Qef (d := .bool true) (ev_cmp (d1 := .tup ([lessV h lv, 2 * lessV h lv].map .int)) (d2 := .tup ([lessV h lv, 2 * lessV h lv].map .int)) ?_ ?_ (opc_eq_tup (by lia))) rfl
 ·refine Qbz (ds := [.int (lessV h lv), .int (2 * lessV h lv)]) (Qby ?_ ?_) (sz10 rfl)
  ·rw [← hs1]
   refine Qbh G.b_sum Qaq (by k_all) (Qaw (d := .lst ((T.map fun p => p.1 * ci p.2).map .int)) ?_) opF_sum
   refine Ev.cast (Qas (l := T) (pv := fun p => .int p.1) (f := fun p => .int (p.1 * ci p.2)) (bd := fun p => [("life", .int p.1)]) (p := fun _ => true) ?_ ?_ ?_ ?_ ?_ ?_ ?_) ?_
   ·exact Ev.it (Qah (by k_all) (by k_mem)) keysT
   ·exact Qac
   ·decide +kernel
   ·exact fun a => Qat (by k_all) (by k_all)
   ·intro p hp
    have hsm := P.Ts p hp
    exact ⟨Qbe, fun _ => Qaj (Qah (by k_all) (by k_mem)) (Ev.cast (ev_key Tn hp (by k_all) (by k_all) (by k_mem) (by k_mem)) (ci_pv (Tk p hp))) (Qcn (IntMulOk.of_left (bits_small hsm.1 hsm.2)))⟩
   ·exact szc (by lia)
   ·intro _ _; rfl
   ·rw [Qap, List.map_map]; rfl
  ·rw [← hs2]
   refine Qbh G.b_sum Qaq (by k_all) (Qaw (d := .lst ((J.map fun p => (ct p.2).getD 3 0).map .int)) ?_) opF_sum
   refine Ev.cast (Qas (l := J) (pv := fun p => .int p.1) (f := fun p => .int ((ct p.2).getD 3 0)) (bd := fun p => [("key", .int p.1)]) (p := fun _ => true) ?_ ?_ ?_ ?_ ?_ ?_ ?_) ?_
   ·exact Ev.it (Qah (by k_all) (by k_mem)) keysJ
   ·exact Qac
   ·decide +kernel
   ·exact fun a => Qat (by k_all) (by k_all)
   ·intro p hp
    exact ⟨Qbe, fun _ => ev_four (i := 3) Jn hp (Jk p hp) (by lia) (by k_all) (by k_all) (by k_mem) (by k_mem)⟩
   ·exact szc (by lia)
   ·intro _ _; rfl
   ·rw [Qap, List.map_map]; rfl
 ·exact Qbz (ds := [.int (lessV h lv), .int (2 * lessV h lv)]) (Qby (Qah (by k_all) (by k_mem)) (Qaj Qag (Qah (by k_all) (by k_mem)) (Qcn (IntMulOk.of_left (by decide +kernel))))) (sz10 rfl)
end
section
set_option tactic.hygienic false
theorem dfold_keys_sub {α K β : Type} [DecidableEq K] {ky : α -> K} {f : α -> β} (l : List α) : ∀ k ∈ (Qcv ky f l).map (·.1), ∃ a ∈ l, ky a = k := by
 have : ∀ (l : List α) (acc : List (K × β)), ∀ k ∈ (l.foldl (fun acc a => Qdb acc (ky a) (f a)) acc).map (·.1), k ∈ acc.map (·.1) ∨ ∃ a ∈ l, ky a = k := by
  intro l
  induction l with
  | nil => intro acc k h; exact .inl h
  | cons a l ih =>
   intro acc k h
   rcases ih _ k h with h | ⟨b, hb, e⟩
   ·rcases Qeo h with h | h
    ·exact .inl h
    ·exact .inr ⟨a, List.mem_cons_self, h.symm⟩
   ·exact .inr ⟨b, List.mem_cons_of_mem _ hb, e⟩
 intro k hk
 rcases this l [] k hk with h | h
 ·cases h
 ·exact h
theorem lives_keys (high lv : List Int) : ∀ (k : Nat), ∀ x ∈ (Qcy high lv k).map (·.1), ∃ a b, x = Qae lv a - Qae lv b
 | 0, x, h => by simp [Qcy] at h
 | k + 1, x, h => by
  rw [Qfy, acF_keys _ _ (newLives_nd k), List.mem_append] at h
  rcases h with h | h
  ·exact lives_keys high lv k x h
  ·obtain ⟨g, _, e⟩ := dfold_keys_sub _ x (List.mem_filter.mp h).1
   exact ⟨g.1, k, e.symm⟩
theorem lev_max {h : List Int} (P : Facts h) (R : RowOK h) : (Qcc h).getD 0 0 ∈ h /\ ∀ x ∈ h, x <= (Qcc h).getD 0 0 := by
 have hs : ∀ x ∈ h, x ∈ Qcc h := by
  intro x hx
  rw [P.lev, List.mem_filter]
  refine ⟨?_, by simpa using hx⟩
  have := R.val x hx
  unfold rng54
  rw [List.mem_map]
  exact ⟨(54 - x).toNat, by rw [List.mem_range]; lia, by lia⟩
 have hp : (Qcc h).Pairwise (fun a b => b <= a) := by
  rw [P.lev]
  refine List.Pairwise.sublist List.filter_sublist ?_
  decide
 have hsub := lev_sub P
 cases hl : Qcc h with
 | nil =>
  exfalso
  cases hh : h with
  | nil => exact R.ne hh
  | cons a l =>
   have := hs a (by rw [hh]; exact List.mem_cons_self)
   rw [hl] at this; cases this
 | cons a l =>
  rw [hl] at hp hs hsub
  refine ⟨hsub a List.mem_cons_self, fun x hx => ?_⟩
  rcases List.mem_cons.mp (hs x hx) with rfl | h1
  ·exact Int.le_refl _
  ·exact (List.pairwise_cons.mp hp).1 x h1
theorem factsG {h : List Int} (R : RowOK h) (P : Facts h) : FactsG h (Qcc h) (Qem h) (Qdj h) := by
 have hll := lev_le P
 have hlen := R.len
 obtain ⟨t1, t2, t3⟩ := livesF_ok (high := h) (lv := Qcc h) (Qcc h).length (by lia)
 have J := joinsT_ok h
 have hJl := J.len
 refine ⟨P.few, P.four, P.sum1, P.sum2, R.ne, R.len, by lia, lev_max P R, t1, t2, Nat.le_trans t3 (by lia), ?_, J.kd, J.nd, by lia⟩
 intro p hp
 obtain ⟨a, b, e⟩ := lives_keys h (Qcc h) (Qcc h).length p.1 (List.mem_map.mpr ⟨p, hp, rfl⟩)
 have hb : ∀ x ∈ Qcc h, 0 <= x /\ x <= 1000 := fun x hx => by have := R.val x (lev_sub P x hx); lia
 have b1 := lvAt_bd hb a
 have b2 := lvAt_bd hb b
 lia
theorem law_walk {K : Frag} {fi fc : Addr} (G : Gl C) (J : JFacts C K fi fc) (h9 : 9 <= n) {L : List Int} (hL : L.length <= 63) (F : ∀ h, RowOK h -> Facts h) :
  LawDone C n L := by
 have R := high_ok L
 have P := F _ R
 have FG := factsG R P
 have k9 : ∀ ρ, LawD L ρ -> Ex C n (Qaf 74).names ((Qax 74).drop 17) ρ none (fun _ _ => False) (fun e => e = .bool true) := by
  intro ρ9 q9
  obtain ⟨c1, c2, c3, c4, c5, c6⟩ := q9
  generalize Qbu L = h at *
  generalize Qem h = T at *
  generalize Qdj h = T' at *
  generalize Qcc h = lv at *
  have k11 := fun ρ b0 b1 q => law_g (ρ := ρ) (D := Qcf L) (b0 := b0) (b1 := b1) G h9 FG q
  have k10 := fun ρ b0 b1 h0 h1 q => law_f1 (ρ := ρ) (D := Qcf L) (b0 := b0) (b1 := b1) G h9 FG h0 h1 q fun ρ q => k11 ρ b0 b1 q
  have k := law_f0 (ρ := ρ9) (D := Qcf L) G h9 FG ⟨c1, c2, c3, c5, c6⟩ k10
  exact k
 have k8 := fun ρ q => law_e (ρ := ρ) G h9 P q k9
 have k7 := fun ρ q => law_d2 (ρ := ρ) G h9 P q k8
 have k6 := fun ρ q => law_d1 (ρ := ρ) G h9 P q k7
 have k5 := fun ρ q => law_d0 (ρ := ρ) G h9 P q k6
 have k4 := fun ρ q => law_c0 (ρ := ρ) G h9 hL P q k5
 have k3 := fun ρ q => law_b1 (ρ := ρ) G J h9 hL P q k4
 have k2 := fun ρ q => law_b0 (ρ := ρ) G h9 q k3
 have k1 := fun ρ q => law_a1 (ρ := ρ) G h9 q k2
 have k0 := law_a0 G J h9 hL k1
 exact k0
end
section
set_option tactic.hygienic false
noncomputable def fsum (F : Int × CV -> Int) (T : List (Int × CV)) : Int := (T.map F).sum
theorem fsum_nil (F : Int × CV -> Int) : fsum F [] = 0 := rfl
theorem Qee (F : Int × CV -> Int) (p : Int × CV) (T : List (Int × CV)) : fsum F (p :: T) = F p + fsum F T := by unfold fsum; rw [List.map_cons, List.sum_cons]
theorem Qgc (F : Int × CV -> Int) (T S : List (Int × CV)) : fsum F (T ++ S) = fsum F T + fsum F S := by unfold fsum; rw [List.map_append, List.sum_append]
theorem dget_none_iff {T : List (Int × CV)} {k : Int} : Qcm T k = none ↔ k ∉ T.map (·.1) := by
 unfold Qcm
 rw [Option.map_eq_none_iff, List.find?_eq_none, List.mem_map]
 constructor
 ·rintro h ⟨p, hp, rfl⟩
  exact h p hp (by simp)
 ·intro h p hp q
  exact h ⟨p, hp, by simpa using q⟩
theorem dset_none {T : List (Int × CV)} {k : Int} (v : CV) (h : Qcm T k = none) : Qdb T k v = T ++ [(k, v)] := by
 have hn := dget_none_iff.mp h
 unfold Qdb
 rw [if_neg]
 simp only [List.any_eq_true, decide_eq_true_eq, not_exists, not_and]
 intro p hp q
 exact hn (List.mem_map.mpr ⟨p, hp, q⟩)
theorem dset_some {T : List (Int × CV)} {k : Int} {o : CV} (v : CV) (hn : (T.map (·.1)).Nodup) (h : Qcm T k = some o) : ∃ T1 T2, T = T1 ++ (k, o) :: T2 /\ Qdb T k v = T1 ++ (k, v) :: T2 := by
 have hm := Qdg h
 obtain ⟨T1, T2, rfl⟩ := List.append_of_mem hm
 refine ⟨T1, T2, rfl, ?_⟩
 rw [List.map_append, List.map_cons] at hn
 have h1 : ∀ p ∈ T1, p.1 ≠ k := fun p hp q => by
  have := (List.nodup_append.mp hn).2.2 p.1 (List.mem_map.mpr ⟨p, hp, rfl⟩) k List.mem_cons_self
  exact this q
 have h2 : ∀ p ∈ T2, p.1 ≠ k := fun p hp q => by
  have := (List.nodup_cons.mp (List.nodup_append.mp hn).2.1).1
  exact this (q ▸ List.mem_map.mpr ⟨p, hp, rfl⟩)
 unfold Qdb
 rw [if_pos (by simp), List.map_append, List.map_cons]
 have e : ∀ (L : List (Int × CV)), (∀ p ∈ L, p.1 ≠ k) -> L.map (fun p => if p.1 = k then (p.1, v) else p) = L := fun L hL => by
  conv => rhs; rw [← List.map_id L]
  apply List.map_congr_left
  intro p hp
  simp [hL p hp]
 rw [e T1 h1, e T2 h2]
 simp
theorem fsum_addC {m : Option Nat} {F : Int × CV -> Int} (hF : ∀ k c o, CV.kd m c -> CV.kd m o -> F (k, CV.add c o) = F (k, o) + F (k, c)) {T : List (Int × CV)} {p : Int × CV} (hn : (T.map (·.1)).Nodup) (hT : ∀ q ∈ T, CV.kd m q.2) (hp : CV.kd m p.2) : fsum F (addC T p) = fsum F T + F p := by
 unfold addC
 cases h : Qcm T p.1 with
 | none =>
  dsimp only
  rw [dset_none _ h, Qgc, Qee, fsum_nil]
  have e : F (p.1, p.2) = F p := rfl
  lia
 | some o =>
  dsimp only
  obtain ⟨T1, T2, e1, e2⟩ := dset_some (CV.add p.2 o) hn h
  have ho : CV.kd m o := hT _ (Qdg h)
  rw [e2, Qgc, Qee, hF _ _ _ hp ho]
  rw [e1, Qgc, Qee]
  have e : F (p.1, p.2) = F p := rfl
  lia
theorem fsum_acF {m : Option Nat} {F : Int × CV -> Int} (hF : ∀ k c o, CV.kd m c -> CV.kd m o -> F (k, CV.add c o) = F (k, o) + F (k, c)) : ∀ (S T : List (Int × CV)), (T.map (·.1)).Nodup -> (∀ q ∈ T, CV.kd m q.2) -> (∀ q ∈ S, CV.kd m q.2) -> fsum F (acF T S) = fsum F T + fsum F S
 | [], T, _, _, _ => by rw [fsum_nil]; show fsum F T = _; lia
 | p :: S, T, hn, hT, hS => by
  have hp := hS p List.mem_cons_self
  have ih := fsum_acF hF S (addC T p) (addC_nodup hn) (addC_kd hT hp) fun q hq => hS q (List.mem_cons_of_mem _ hq)
  have e : acF T (p :: S) = acF (addC T p) S := rfl
  rw [e, ih, fsum_addC hF hn hT hp, Qee]
  lia
theorem fsum_dget {T : List (Int × CV)} (hn : (T.map (·.1)).Nodup) (G : CV -> Int) (x : Int) : fsum (fun p => if p.1 = x then G p.2 else 0) T = match Qcm T x with | some c => G c | none => 0 := by
 have zero : ∀ (L : List (Int × CV)), x ∉ L.map (·.1) -> fsum (fun p => if p.1 = x then G p.2 else 0) L = 0 := by
  intro L
  induction L with
  | nil => intro _; rfl
  | cons q L ih =>
   intro h
   rw [List.map_cons, List.mem_cons, not_or] at h
   rw [Qee, ih h.2]
   have : ¬ q.1 = x := fun e => h.1 e.symm
   simp [this]
 cases h : Qcm T x with
 | none => exact zero T (dget_none_iff.mp h)
 | some c =>
  obtain ⟨T1, T2, e1, _⟩ := dset_some c hn h
  subst e1
  rw [List.map_append, List.map_cons] at hn
  have n1 : x ∉ T1.map (·.1) := fun q => (List.nodup_append.mp hn).2.2 x q x List.mem_cons_self rfl
  have n2 : x ∉ T2.map (·.1) := (List.nodup_cons.mp (List.nodup_append.mp hn).2.1).1
  rw [Qgc, Qee, zero _ n1, zero _ n2]
  simp
theorem dfold_nodup {α : Type} {ky : α -> Int} {f : α -> CV} : ∀ (l : List α), (l.map ky).Nodup -> Qcv ky f l = l.map fun a => (ky a, f a) := by
 have : ∀ (l : List α) (acc : List (Int × CV)), (l.map ky).Nodup -> (∀ a ∈ l, ky a ∉ acc.map (·.1)) -> l.foldl (fun acc a => Qdb acc (ky a) (f a)) acc = acc ++ l.map fun a => (ky a, f a) := by
  intro l
  induction l with
  | nil => intro acc _ _; simp
  | cons a l ih =>
   intro acc hn ha
   rw [List.map_cons, List.nodup_cons] at hn
   rw [List.foldl_cons, dset_none _ (dget_none_iff.mpr (ha a List.mem_cons_self)), ih _ hn.2 ?_]
   ·simp
   ·intro b hb q
    rw [List.map_append, List.mem_append] at q
    rcases q with q | q
    ·exact ha b (List.mem_cons_of_mem _ hb) q
    ·simp at q
     exact hn.1 (q ▸ List.mem_map.mpr ⟨b, hb, rfl⟩)
 intro l hl
 exact (this l [] hl fun _ _ q => nomatch q).trans (by simp)
end
section
set_option tactic.hygienic false
noncomputable def Qcr (n : Nat) (f : Nat -> Int) : Int := ((List.range n).map f).sum
theorem Qdo (f : Nat -> Int) : Qcr 0 f = 0 := rfl
theorem Qam (n : Nat) (f : Nat -> Int) : Qcr (n + 1) f = Qcr n f + f n := by
 unfold Qcr; rw [List.range_succ, List.map_append, List.sum_append]; simp
theorem Qbn {n : Nat} {f g : Nat -> Int} (h : ∀ i, i < n -> f i = g i) : Qcr n f = Qcr n g := by
 unfold Qcr
 congr 1
 exact List.map_congr_left fun i hi => h i (List.mem_range.mp hi)
theorem sum_filter {α : Type} (p : α -> Bool) (f : α -> Int) : ∀ (l : List α), (∀ a ∈ l, p a = false -> f a = 0) -> ((l.filter p).map f).sum = (l.map f).sum
 | [], _ => rfl
 | a :: l, h => by
  have ih := sum_filter p f l fun b hb => h b (List.mem_cons_of_mem _ hb)
  rw [List.filter_cons, List.map_cons, List.sum_cons]
  cases hp : p a with
  | true => rw [if_pos rfl, List.map_cons, List.sum_cons, ih]
  | false =>
   have := h a List.mem_cons_self hp
   rw [if_neg (by simp), ih]; lia
section
variable {high lv : List Int}
noncomputable def dlt (high lv : List Int) (b a : Nat) : Int := Ea high lv (b - 1) a - Ea high lv b a
theorem gone_sum (b : Nat) (G : Nat -> Int -> Int) (h0 : ∀ a, G a 0 = 0) : ((Qen high lv b).map fun g => G g.1 g.2).sum = Qcr b fun a => G a (dlt high lv b a) := by
 unfold Qen Qcr
 rw [List.map_map]
 refine sum_filter _ _ _ fun a _ h => ?_
 have : Ea high lv b a = Ea high lv (b - 1) a := by simpa using h
 show G a (Ea high lv (b - 1) a - Ea high lv b a) = 0
 rw [this, Int.sub_self]; exact h0 a
theorem lvAt_inj (hn : lv.Nodup) {a b : Nat} (ha : a < lv.length) (hb : b < lv.length) (h : Qae lv a = Qae lv b) : a = b := by
 unfold Qae at h
 have e1 : lv.getD a 0 = lv[a] := by simp [ha]
 have e2 : lv.getD b 0 = lv[b] := by simp [hb]
 rw [e1, e2] at h
 exact (List.getElem_inj hn).mp h
theorem nodup_map_inj {α β : Type} {f : α -> β} : ∀ {l : List α}, l.Nodup -> (∀ a ∈ l, ∀ b ∈ l, f a = f b -> a = b) -> (l.map f).Nodup
 | [], _, _ => List.nodup_nil
 | a :: l, hn, hi => by
  rw [List.nodup_cons] at hn
  rw [List.map_cons, List.nodup_cons]
  refine ⟨fun q => ?_, nodup_map_inj hn.2 fun b hb c hc => hi b (List.mem_cons_of_mem _ hb) c (List.mem_cons_of_mem _ hc)⟩
  obtain ⟨b, hb, e⟩ := List.mem_map.mp q
  have := hi b (List.mem_cons_of_mem _ hb) a List.mem_cons_self e
  exact hn.1 (this ▸ hb)
theorem gone_fst (b : Nat) : ((Qen high lv b).map (·.1)).Nodup := by
 unfold Qen
 rw [List.map_map]
 have e : ((·.1) ∘ fun a : Nat => (a, Ea high lv (b - 1) a - Ea high lv b a)) = fun a => a := rfl
 rw [e, List.map_id']
 exact List.Nodup.sublist List.filter_sublist List.nodup_range
theorem newLives_map (hn : lv.Nodup) {b : Nat} (hb : b < lv.length) : Qfe high lv b = (Qen high lv b).map fun g => (Qae lv g.1 - Qae lv b, CV.i g.2) := by
 unfold Qfe
 refine dfold_nodup _ ?_
 have h1 := gone_fst (high := high) (lv := lv) b
 have h2 : (Qen high lv b).map (fun g => Qae lv g.1 - Qae lv b) = ((Qen high lv b).map (·.1)).map fun a => Qae lv a - Qae lv b := by rw [List.map_map]; rfl
 rw [h2]
 refine nodup_map_inj h1 fun a ha c hc e => ?_
 obtain ⟨g, hg, rfl⟩ := List.mem_map.mp ha
 obtain ⟨g', hg', rfl⟩ := List.mem_map.mp hc
 have b1 := Qex hg
 have b2 := Qex hg'
 exact lvAt_inj hn (by lia) (by lia) (by lia)
theorem lives_sum (w : Int -> Int) (hn : lv.Nodup) (h30 : lv.length <= 30) : ∀ (k : Nat), k <= lv.length -> fsum (fun p => w p.1 * ci p.2) (Qcy high lv k) = Qcr k fun b => Qcr b fun a => w (Qae lv a - Qae lv b) * dlt high lv b a
 | 0, _ => by simp [Qcy, fsum, Qcr]
 | k + 1, hk => by
  obtain ⟨q1, q2, _⟩ := livesF_ok (high := high) (lv := lv) k (by lia)
  rw [Qfy, fsum_acF (m := none) ?_ _ _ q2 q1 (newLives_kd k), lives_sum w hn h30 k (by lia), Qam]
  ·congr 1
   rw [newLives_map hn (by lia)]
   unfold fsum
   rw [List.map_map]
   exact gone_sum k (fun a x => w (Qae lv a - Qae lv k) * x) fun a => Int.mul_zero _
  ·intro k c o hc ho
   cases c with
   | t l => cases hc
   | i a =>
    cases o with
    | t l => cases ho
    | i b => exact Int.mul_add _ _ _
theorem zip_at {c o : List Int} {i : Nat} (hc : i < c.length) (ho : i < o.length) : (List.zipWith (fun a b => a + b) c o).getD i 0 = c.getD i 0 + o.getD i 0 := by
 rw [List.getD_eq_getElem?_getD, List.getElem?_zipWith]
 simp [hc, ho]
theorem newJoin_eq (hn : lv.Nodup) {b : Nat} {g : Nat × Int} (hb : b < lv.length) (hg : g.1 < b) : Qea lv b g = [(Qae lv g.1, fourF lv b g), (Qae lv b, fourF lv b g)] := by
 have hne : Qae lv g.1 ≠ Qae lv b := fun q => by have := lvAt_inj hn (by lia) hb q; lia
 unfold Qea
 have e1 : Qdb ([] : List (Int × CV)) (Qae lv g.1) (fourF lv b g) = [(Qae lv g.1, fourF lv b g)] := rfl
 rw [e1, dset_none _ (dget_none_iff.mpr (by simp; exact fun q => hne q.symm))]
 rfl
theorem joins_add (u : Int -> Int) {i : Nat} (hi : i < 4) : ∀ (k : Int) (c o : CV), CV.kd (some 4) c -> CV.kd (some 4) o -> u k * (ct (CV.add c o)).getD i 0 = u k * (ct o).getD i 0 + u k * (ct c).getD i 0 := by
 intro k c o hc ho
 obtain ⟨l, rfl, hl⟩ := ct_pv hc
 obtain ⟨m, rfl, hm⟩ := ct_pv ho
 show u k * (List.zipWith (fun a b => a + b) l m).getD i 0 = _
 rw [zip_at (by lia) (by lia), Int.mul_add, Int.add_comm]; rfl
theorem joinsAt_sum (u : Int -> Int) {i : Nat} (hi : i < 4) (hn : lv.Nodup) {b : Nat} (hb : b < lv.length) : ∀ (l : List (Nat × Int)) (T : List (Int × CV)), OkJ lv T -> (∀ g ∈ l, g.1 < b) ->
  fsum (fun p => u p.1 * (ct p.2).getD i 0) (Qev lv T b l) = fsum (fun p => u p.1 * (ct p.2).getD i 0) T + (l.map fun g => (u (Qae lv g.1) + u (Qae lv b)) * (ct (fourF lv b g)).getD i 0).sum
 | [], T, _, _ => by rw [List.map_nil, List.sum_nil]; show fsum _ T = _; lia
 | g :: l, T, hT, hl => by
  have hg := hl g List.mem_cons_self
  have hN := newJoin_ok (lv := lv) hb hg
  have ih := joinsAt_sum u hi hn hb l (acF T (Qea lv b g)) (hT.add hN.1) fun q hq => hl q (List.mem_cons_of_mem _ hq)
  have e : Qev lv T b (g :: l) = Qev lv (acF T (Qea lv b g)) b l := rfl
  rw [e, ih, fsum_acF (m := some 4) (fun k c o h1 h2 => joins_add u hi k c o h1 h2) _ _ hT.nd hT.kd hN.1.kd, newJoin_eq hn hb hg, Qee, Qee, fsum_nil, List.map_cons, List.sum_cons, Int.add_mul]
  dsimp only
  lia
theorem joins_sum (u : Int -> Int) {i : Nat} (hi : i < 4) (z : Int -> Int -> Int) (hz : ∀ b g, (ct (fourF lv b g)).getD i 0 = g.2 * z (Qae lv g.1) (Qae lv b)) (hn : lv.Nodup) : ∀ (k : Nat), k <= lv.length ->
  fsum (fun p => u p.1 * (ct p.2).getD i 0) (Qcz high lv k) = Qcr k fun b => Qcr b fun a => (u (Qae lv a) + u (Qae lv b)) * (dlt high lv b a * z (Qae lv a) (Qae lv b))
 | 0, _ => by simp [Qcz, fsum, Qcr]
 | k + 1, hk => by
  rw [Qfz, joinsAt_sum u hi hn (by lia) _ _ (joinsF_ok k (by lia)) (fun g hg => Qex hg), joins_sum u hi z hz hn k (by lia), Qam]
  congr 1
  have e : ((Qen high lv k).map fun g => (u (Qae lv g.1) + u (Qae lv k)) * (ct (fourF lv k g)).getD i 0) = (Qen high lv k).map fun g => (u (Qae lv g.1) + u (Qae lv k)) * (g.2 * z (Qae lv g.1) (Qae lv k)) := by
   apply List.map_congr_left
   intro g _
   rw [hz]
  rw [e]
  exact gone_sum k (fun a x => (u (Qae lv a) + u (Qae lv k)) * (x * z (Qae lv a) (Qae lv k))) fun a => by rw [Int.zero_mul, Int.mul_zero]
end
theorem joins_lin {lv : List Int} {high : List Int} (k : Nat) (hk : k <= lv.length) : ∀ p ∈ Qcz high lv k, (ct p.2).getD 1 0 - (ct p.2).getD 2 0 = (ct p.2).getD 3 0 := by
 let P : CV -> Prop := fun c => CV.kd (some 4) c /\ (ct c).getD 1 0 - (ct c).getD 2 0 = (ct c).getD 3 0
 have hadd : ∀ c o, P c -> P o -> P (CV.add c o) := by
  rintro c o ⟨hc, e1⟩ ⟨ho, e2⟩
  refine ⟨CV.kd_add hc ho, ?_⟩
  obtain ⟨l, rfl, hl⟩ := ct_pv hc
  obtain ⟨m, rfl, hm⟩ := ct_pv ho
  show (List.zipWith (fun a b => a + b) l m).getD 1 0 - (List.zipWith (fun a b => a + b) l m).getD 2 0 = (List.zipWith (fun a b => a + b) l m).getD 3 0
  rw [zip_at (by lia) (by lia), zip_at (by lia) (by lia), zip_at (by lia) (by lia)]
  have e1' : l.getD 1 0 - l.getD 2 0 = l.getD 3 0 := e1
  have e2' : m.getD 1 0 - m.getD 2 0 = m.getD 3 0 := e2
  lia
 have hacF : ∀ (S T : List (Int × CV)), (∀ p ∈ T, P p.2) -> (∀ p ∈ S, P p.2) -> ∀ p ∈ acF T S, P p.2 := by
  intro S
  induction S with
  | nil => intro T h _; exact h
  | cons p S ih =>
   intro T h h'
   refine ih (addC T p) ?_ fun q hq => h' q (List.mem_cons_of_mem _ hq)
   unfold addC
   refine Qgf h ?_
   have hp := h' p List.mem_cons_self
   cases hd : Qcm T p.1 with
   | none => exact hp
   | some o => exact hadd _ _ hp (h _ (Qdg hd))
 have hfour : ∀ b g, P (fourF lv b g) := fun b g => ⟨rfl, by
  show g.2 * Qae lv g.1 - g.2 * Qae lv b = g.2 * (Qae lv g.1 - Qae lv b)
  rw [Int.mul_sub]⟩
 have hnew : ∀ b g, ∀ p ∈ Qea lv b g, P p.2 := fun b g => Qgf (Qgf (fun _ h => nomatch h) (hfour b g)) (hfour b g)
 have hat : ∀ (b : Nat) (l : List (Nat × Int)) (T : List (Int × CV)), (∀ p ∈ T, P p.2) -> ∀ p ∈ Qev lv T b l, P p.2 := by
  intro b l
  induction l with
  | nil => intro T h; exact h
  | cons g l ih => intro T h; exact ih _ (hacF _ _ h (hnew b g))
 have hall : ∀ k, ∀ p ∈ Qcz high lv k, P p.2 := by
  intro k
  induction k with
  | zero => intro p h; simp [Qcz] at h
  | succ k ih => rw [Qfz]; exact hat _ _ _ ih
 exact fun p hp => (hall k p hp).2
end
section
set_option tactic.hygienic false
noncomputable abbrev Desc (l : List Int) : Prop := l.Pairwise fun a b => b < a
theorem desc_cut (h : Int) : ∀ {l : List Int}, Desc l -> (∀ x ∈ l.take (l.countP fun l => decide (h < l)), h < x) /\ (∀ x ∈ l.drop (l.countP fun l => decide (h < l)), x <= h)
 | [], _ => ⟨fun x hx => by simp at hx, fun x hx => by simp at hx⟩
 | a :: r, hd => by
  rw [Desc, List.pairwise_cons] at hd
  obtain ⟨i1, i2⟩ := desc_cut h hd.2
  by_cases ha : h < a
  ·have e : (a :: r).countP (fun l => decide (h < l)) = r.countP (fun l => decide (h < l)) + 1 := by rw [List.countP_cons]; simp [ha]
   rw [e, List.take_succ_cons, List.drop_succ_cons]
   refine ⟨fun x hx => ?_, i2⟩
   rcases List.mem_cons.mp hx with rfl | hx
   ·exact ha
   ·exact i1 x hx
  ·have h0 : r.countP (fun l => decide (h < l)) = 0 := by
    rw [List.countP_eq_zero]
    intro x hx
    have := hd.1 x hx
    simp; lia
   have e : (a :: r).countP (fun l => decide (h < l)) = 0 := by rw [List.countP_cons, h0]; simp [ha]
   rw [e]
   refine ⟨fun x hx => by simp at hx, fun x hx => ?_⟩
   rw [List.drop_zero] at hx
   rcases List.mem_cons.mp hx with rfl | hx
   ·lia
   ·have := hd.1 x hx; lia
theorem insL_mem {l : List Int} {h x : Int} : x ∈ insL l h ↔ x ∈ l ∨ x = h := by
 unfold insL
 split
 ·rename_i hc
  have hc' : h ∈ l := by simpa using hc
  exact ⟨.inl, fun q => q.elim id fun q => q ▸ hc'⟩
 ·constructor
  ·intro q
   rw [List.mem_append, List.mem_append, List.mem_singleton] at q
   rcases q with (q | q) | q
   ·exact .inl (List.mem_of_mem_take q)
   ·exact .inr q
   ·exact .inl (List.mem_of_mem_drop q)
  ·intro q
   rw [List.mem_append, List.mem_append, List.mem_singleton]
   rcases q with q | q
   ·have := List.take_append_drop (l.countP fun l => decide (h < l)) l
    rw [← this, List.mem_append] at q
    rcases q with q | q
    ·exact .inl (.inl q)
    ·exact .inr q
   ·exact .inl (.inr q)
theorem insL_desc {l : List Int} {h : Int} (hd : Desc l) : Desc (insL l h) := by
 unfold insL
 split
 ·exact hd
 ·rename_i hc
  have hc' : h ∉ l := by simpa using hc
  obtain ⟨i1, i2⟩ := desc_cut h hd
  have e := List.take_append_drop (l.countP fun l => decide (h < l)) l
  have i3 : ∀ x ∈ l.drop (l.countP fun l => decide (h < l)), x < h := fun x hx => by
   have h1 := i2 x hx
   have h2 : x ≠ h := fun q => hc' (q ▸ List.mem_of_mem_drop hx)
   lia
  generalize l.take (l.countP fun l => decide (h < l)) = u at *
  generalize l.drop (l.countP fun l => decide (h < l)) = v at *
  rw [← e] at hd
  have hd' := List.pairwise_append.mp hd
  rw [Desc, List.append_assoc, List.pairwise_append]
  refine ⟨hd'.1, ?_, ?_⟩
  ·rw [List.singleton_append, List.pairwise_cons]
   exact ⟨i3, hd'.2.1⟩
  ·intro a ha b hb
   rw [List.singleton_append, List.mem_cons] at hb
   rcases hb with rfl | hb
   ·exact i1 a ha
   ·exact hd'.2.2 a ha b hb
theorem levF_desc : ∀ (h l : List Int), Desc l -> Desc (h.foldl insL l) /\ ∀ x, x ∈ h.foldl insL l ↔ x ∈ l ∨ x ∈ h
 | [], l, hd => ⟨hd, fun x => by simp⟩
 | a :: h, l, hd => by
  obtain ⟨h1, h2⟩ := levF_desc h (insL l a) (insL_desc hd)
  refine ⟨h1, fun x => ?_⟩
  rw [List.foldl_cons, h2 x, insL_mem, List.mem_cons]
  constructor
  ·rintro ((q | q) | q)
   ·exact .inl q
   ·exact .inr (.inl q)
   ·exact .inr (.inr q)
  ·rintro (q | q | q)
   ·exact .inl (.inl q)
   ·exact .inl (.inr q)
   ·exact .inr q
theorem desc_ext : ∀ {l m : List Int}, Desc l -> Desc m -> (∀ x, x ∈ l ↔ x ∈ m) -> l = m
 | [], [], _, _, _ => rfl
 | [], b :: m, _, _, h => absurd ((h b).mpr List.mem_cons_self) (by simp)
 | a :: l, [], _, _, h => absurd ((h a).mp List.mem_cons_self) (by simp)
 | a :: l, b :: m, h1, h2, h => by
  rw [Desc, List.pairwise_cons] at h1 h2
  have hab : a = b := by
   have q1 := (h a).mp List.mem_cons_self
   have q2 := (h b).mpr List.mem_cons_self
   rcases List.mem_cons.mp q1 with q1 | q1
   ·exact q1
   ·rcases List.mem_cons.mp q2 with q2 | q2
    ·exact q2.symm
    ·have := h1.1 b q2
     have := h2.1 a q1
     lia
  subst hab
  congr 1
  refine desc_ext h1.2 h2.2 fun x => ?_
  constructor
  ·intro hx
   rcases List.mem_cons.mp ((h x).mp (List.mem_cons_of_mem _ hx)) with rfl | q
   ·have := h1.1 x hx; lia
   ·exact q
  ·intro hx
   rcases List.mem_cons.mp ((h x).mpr (List.mem_cons_of_mem _ hx)) with rfl | q
   ·have := h2.1 x hx; lia
   ·exact q
theorem rng54_desc : Desc rng54 := by unfold Desc; decide +kernel
theorem rng54_mem {x : Int} : x ∈ rng54 ↔ 7 <= x /\ x <= 54 := by
 unfold rng54
 rw [List.mem_map]
 constructor
 ·rintro ⟨i, hi, rfl⟩
  rw [List.mem_range] at hi
  lia
 ·intro h
  exact ⟨(54 - x).toNat, by rw [List.mem_range]; lia, by lia⟩
theorem lev_fact {h : List Int} (R : RowOK h) : Qcc h = rng54.filter fun x => h.contains x := by
 obtain ⟨h1, h2⟩ := levF_desc h [] List.Pairwise.nil
 refine desc_ext h1 (List.Pairwise.sublist List.filter_sublist rng54_desc) fun x => ?_
 have e : x ∈ Qcc h ↔ x ∈ h := by
  have := h2 x
  simpa [Qcc] using this
 show x ∈ Qcc h ↔ _
 rw [e, List.mem_filter, rng54_mem]
 constructor
 ·intro hx; exact ⟨R.val x hx, by simpa using hx⟩
 ·intro hx; simpa using hx.2
theorem lev_props {h : List Int} : Desc (Qcc h) /\ ∀ x, x ∈ Qcc h ↔ x ∈ h := by
 obtain ⟨h1, h2⟩ := levF_desc h [] List.Pairwise.nil
 exact ⟨h1, fun x => by simpa [Qcc] using h2 x⟩
end
section
set_option tactic.hygienic false
mutual
noncomputable def hyU (c : Int) : Int -> List Int -> Int
 | _, [] => 1
 | M, h :: r => if M < h then hyU c h r else if h < M - c then 1 + hyD c h r else hyU c M r
noncomputable def hyD (c : Int) : Int -> List Int -> Int
 | _, [] => 0
 | m, h :: r => if h < m then hyD c h r else if m + c < h then hyU c h r else hyD c m r
end
theorem Qbq (u v : Int) (b : Bool) (h : Int) (r : List Int) : ((sch u v b (h :: r) : Nat) : Int) = if u <= h then (if b then 1 else 0) + ((sch u v false r : Nat) : Int) else if h < v then ((sch u v true r : Nat) : Int) else ((sch u v b r : Nat) : Int) := by
 rw [sch]
 split
 ·cases b <;> simp <;> lia
 ·split <;> rfl
noncomputable def gx (c x : Int) (b1 b2 : Bool) (r : List Int) : Int := ((sch x (x - c) b1 r : Nat) : Int) - ((sch (x + 1) (x - c) b2 r : Nat) : Int)
noncomputable def Qfo (lv : List Int) (f : Int -> Int) : Int := (lv.map f).sum
theorem isum_add (f g : Int -> Int) : ∀ (lv : List Int), Qfo lv (fun x => f x + g x) = Qfo lv f + Qfo lv g
 | [] => rfl
 | a :: l => by have := isum_add f g l; unfold Qfo at *; rw [List.map_cons, List.map_cons, List.map_cons, List.sum_cons, List.sum_cons, List.sum_cons]; lia
theorem Qcp {f g : Int -> Int} {lv : List Int} (h : ∀ x ∈ lv, f x = g x) : Qfo lv f = Qfo lv g := by
 unfold Qfo; congr 1; exact List.map_congr_left h
theorem isum_one {lv : List Int} (hn : lv.Nodup) {y : Int} (hy : y ∈ lv) : Qfo lv (fun x => if x = y then 1 else 0) = 1 := by
 have zero : ∀ (l : List Int), y ∉ l -> Qfo l (fun x => if x = y then 1 else 0) = 0 := by
  intro l
  induction l with
  | nil => intro _; rfl
  | cons a l ih =>
   intro h
   rw [List.mem_cons, not_or] at h
   have := ih h.2
   unfold Qfo at *
   rw [List.map_cons, List.sum_cons, this, if_neg (fun q => h.1 q.symm)]; rfl
 induction lv with
 | nil => cases hy
 | cons a l ih =>
  rw [List.nodup_cons] at hn
  unfold Qfo
  rw [List.map_cons, List.sum_cons]
  rcases List.mem_cons.mp hy with rfl | hy
  ·have := zero l hn.1
   unfold Qfo at this
   rw [this, if_pos rfl]; rfl
  ·have := ih hn.2 hy
   unfold Qfo at this
   have hne : ¬ a = y := fun q => by subst q; exact hn.1 hy
   rw [this, if_neg hne]; rfl
noncomputable def sU (c M : Int) (r : List Int) (x : Int) : Int := gx c x (decide (M < x)) (decide (M <= x)) r
noncomputable def sD (c m : Int) (r : List Int) (x : Int) : Int := gx c x (decide (m + c < x)) (decide (m + c < x)) r
theorem step_up {c M h x : Int} {r : List Int} (hc : 0 <= c) (hh : M < h) : sU c M (h :: r) x = ((if x = h then 1 else 0) - (if x = M then 1 else 0)) + sU c h r x := by
 unfold sU gx
 rw [Qbq, Qbq]
 rcases Int.lt_trichotomy x M with q | q | q
 ·have a1 : ¬ M < x := by lia
  have a2 : ¬ M <= x := by lia
  have a3 : ¬ h < x := by lia
  have a4 : ¬ h <= x := by lia
  have a5 : x <= h := by lia
  have a6 : x + 1 <= h := by lia
  have a7 : ¬ x = h := by lia
  have a8 : ¬ x = M := by lia
  simp [a1, a2, a3, a4, a5, a6, a7, a8]
 ·have a1 : ¬ M < x := by lia
  have a2 : M <= x := by lia
  have a3 : ¬ h < x := by lia
  have a4 : ¬ h <= x := by lia
  have a5 : x <= h := by lia
  have a6 : x + 1 <= h := by lia
  have a7 : ¬ x = h := by lia
  have a8 : x = M := by lia
  simp only [a1, a2, a3, a4, a5, a6, a7, decide_true, decide_false, if_true, if_false, Bool.false_eq_true]
  rw [if_pos a8]; lia
 ·have a1 : M < x := by lia
  have a2 : M <= x := by lia
  have a8 : ¬ x = M := by lia
  rcases Int.lt_trichotomy x h with q' | q' | q'
  ·have a3 : ¬ h < x := by lia
   have a4 : ¬ h <= x := by lia
   have a5 : x <= h := by lia
   have a6 : x + 1 <= h := by lia
   have a7 : ¬ x = h := by lia
   simp only [a1, a2, a3, a4, a5, a6, a7, a8, decide_true, decide_false, if_true, if_false, Bool.false_eq_true]
   lia
  ·have a3 : ¬ h < x := by lia
   have a4 : h <= x := by lia
   have a5 : x <= h := by lia
   have a6 : ¬ x + 1 <= h := by lia
   have a9 : ¬ h < x - c := by lia
   simp only [a1, a2, a3, a4, a5, a6, a8, a9, decide_true, decide_false, if_true, if_false, Bool.false_eq_true]
   rw [if_pos q']; lia
  ·have a3 : h < x := by lia
   have a4 : h <= x := by lia
   have a5 : ¬ x <= h := by lia
   have a6 : ¬ x + 1 <= h := by lia
   have a7 : ¬ x = h := by lia
   simp only [a1, a2, a3, a4, a5, a6, a7, a8, decide_true, decide_false, if_true, if_false, Bool.false_eq_true]
   by_cases a9 : h < x - c <;> simp [a9]
theorem step_keepU {c M h x : Int} {r : List Int} (hc : 0 <= c) (h1 : ¬ M < h) (h2 : ¬ h < M - c) : sU c M (h :: r) x = sU c M r x := by
 unfold sU gx
 rw [Qbq, Qbq]
 rcases Int.lt_trichotomy x M with q | q | q
 ·have e1 : decide (M < x) = false := decide_eq_false (by lia)
  have e2 : decide (M <= x) = false := decide_eq_false (by lia)
  have n1 : ¬ h < x - c := by lia
  rw [e1, e2]
  by_cases a : x <= h <;> by_cases b : x + 1 <= h <;> simp [a, b, n1]
 ·have e1 : decide (M < x) = false := decide_eq_false (by lia)
  have e2 : decide (M <= x) = true := decide_eq_true (by lia)
  have n1 : ¬ h < x - c := by lia
  have n2 : ¬ x + 1 <= h := by lia
  rw [e1, e2]
  by_cases a : x <= h <;> simp [a, n1, n2]
 ·have e1 : decide (M < x) = true := decide_eq_true (by lia)
  have e2 : decide (M <= x) = true := decide_eq_true (by lia)
  have n1 : ¬ x <= h := by lia
  have n2 : ¬ x + 1 <= h := by lia
  rw [e1, e2]
  by_cases a : h < x - c <;> simp [a, n1, n2]
theorem step_fall {c M h x : Int} {r : List Int} (hc : 0 <= c) (h2 : h < M - c) : sU c M (h :: r) x = sD c h r x := by
 unfold sU sD gx
 rw [Qbq, Qbq]
 by_cases q : h + c < x
 ·have e3 : decide (h + c < x) = true := decide_eq_true q
  have n1 : ¬ x <= h := by lia
  have n2 : ¬ x + 1 <= h := by lia
  have n3 : h < x - c := by lia
  rw [e3, if_neg n1, if_neg n2, if_pos n3, if_pos n3]
 ·have e3 : decide (h + c < x) = false := decide_eq_false q
  have e1 : decide (M < x) = false := decide_eq_false (by lia)
  have e2 : decide (M <= x) = false := decide_eq_false (by lia)
  have n3 : ¬ h < x - c := by lia
  rw [e1, e2, e3]
  by_cases a : x <= h <;> by_cases b : x + 1 <= h <;> simp [a, b, n3]
theorem step_down {c m h x : Int} {r : List Int} (hc : 0 <= c) (h1 : h < m) : sD c m (h :: r) x = sD c h r x := by
 unfold sD gx
 rw [Qbq, Qbq]
 by_cases q : h + c < x
 ·have e3 : decide (h + c < x) = true := decide_eq_true q
  have n1 : ¬ x <= h := by lia
  have n2 : ¬ x + 1 <= h := by lia
  have n3 : h < x - c := by lia
  rw [e3, if_neg n1, if_neg n2, if_pos n3, if_pos n3]
 ·have e3 : decide (h + c < x) = false := decide_eq_false q
  have e1 : decide (m + c < x) = false := decide_eq_false (by lia)
  have n3 : ¬ h < x - c := by lia
  rw [e1, e3]
  by_cases a : x <= h <;> by_cases b : x + 1 <= h <;> simp [a, b, n3]
theorem step_keepD {c m h x : Int} {r : List Int} (hc : 0 <= c) (h1 : ¬ h < m) (h2 : ¬ m + c < h) : sD c m (h :: r) x = sD c m r x := by
 unfold sD gx
 rw [Qbq, Qbq]
 by_cases q : m + c < x
 ·have e3 : decide (m + c < x) = true := decide_eq_true q
  have n1 : ¬ x <= h := by lia
  have n2 : ¬ x + 1 <= h := by lia
  rw [e3]
  by_cases a : h < x - c <;> simp [a, n1, n2]
 ·have e3 : decide (m + c < x) = false := decide_eq_false q
  have n3 : ¬ h < x - c := by lia
  rw [e3]
  by_cases a : x <= h <;> by_cases b : x + 1 <= h <;> simp [a, b, n3]
theorem rise_core {c h x : Int} {r : List Int} (hc : 0 <= c) : gx c x true true (h :: r) = (if x = h then 1 else 0) + sU c h r x := by
 unfold sU gx
 rw [Qbq, Qbq]
 rcases Int.lt_trichotomy x h with q' | q' | q'
 ·have a3 : ¬ h < x := by lia
  have a4 : ¬ h <= x := by lia
  have a5 : x <= h := by lia
  have a6 : x + 1 <= h := by lia
  have a7 : ¬ x = h := by lia
  simp only [a3, a4, a5, a6, a7, decide_true, decide_false, if_true, if_false, Bool.false_eq_true]
  lia
 ·have a3 : ¬ h < x := by lia
  have a4 : h <= x := by lia
  have a5 : x <= h := by lia
  have a6 : ¬ x + 1 <= h := by lia
  have a9 : ¬ h < x - c := by lia
  simp only [a3, a4, a5, a6, a9, decide_true, decide_false, if_true, if_false, Bool.false_eq_true]
  rw [if_pos q']; lia
 ·have a3 : h < x := by lia
  have a4 : h <= x := by lia
  have a5 : ¬ x <= h := by lia
  have a6 : ¬ x + 1 <= h := by lia
  have a7 : ¬ x = h := by lia
  simp only [a3, a4, a5, a6, a7, decide_true, decide_false, if_true, if_false, Bool.false_eq_true]
  by_cases a9 : h < x - c <;> simp [a9]
theorem step_rise {c m h x : Int} {r : List Int} (hc : 0 <= c) (h2 : m + c < h) : sD c m (h :: r) x = (if x = h then 1 else 0) + sU c h r x := by
 by_cases q : m + c < x
 ·unfold sD
  rw [decide_eq_true q]
  exact rise_core hc
 ·unfold sD sU gx
  rw [Qbq, Qbq]
  have a1 : ¬ h < x := by lia
  have a2 : ¬ h <= x := by lia
  have a5 : x <= h := by lia
  have a7 : ¬ x = h := by lia
  have a9 : ¬ h < x - c := by lia
  simp only [q, a1, a2, a5, a7, a9, decide_true, decide_false, if_true, if_false, Bool.false_eq_true]
  by_cases a6 : x + 1 <= h <;> simp [a6]
theorem isum_sub (f g : Int -> Int) (lv : List Int) : Qfo lv (fun x => f x - g x) = Qfo lv f - Qfo lv g := by
 have := isum_add (fun x => f x - g x) g lv
 have e : Qfo lv (fun x => f x - g x + g x) = Qfo lv f := Qcp fun x _ => by lia
 lia
mutual
theorem sumU {c : Int} (hc : 0 <= c) {lv : List Int} (hn : lv.Nodup) : ∀ (r : List Int) (M : Int), M ∈ lv -> (∀ x ∈ r, x ∈ lv) -> Qfo lv (sU c M r) = hyU c M r - 1
 | [], M, _, _ => by
  have : Qfo lv (sU c M []) = Qfo lv fun _ => 0 := Qcp fun x _ => rfl
  rw [this]
  have z : ∀ (l : List Int), Qfo l (fun _ => 0) = 0 := by intro l; induction l with | nil => rfl | cons a l ih => unfold Qfo at *; rw [List.map_cons, List.sum_cons, ih]; rfl
  rw [z, hyU]; rfl
 | h :: r, M, hM, hr => by
  have hh := hr h List.mem_cons_self
  have hr' : ∀ x ∈ r, x ∈ lv := fun x hx => hr x (List.mem_cons_of_mem _ hx)
  rw [hyU]
  by_cases h1 : M < h
  ·rw [if_pos h1, Qcp (fun x _ => step_up hc h1), isum_add, isum_sub, isum_one hn hh, isum_one hn hM]
   have := sumU hc hn r h hh hr'
   have e : Qfo lv (fun x => sU c h r x) = Qfo lv (sU c h r) := rfl
   lia
  ·rw [if_neg h1]
   by_cases h2 : h < M - c
   ·rw [if_pos h2, Qcp (fun x _ => step_fall hc h2)]
    have := sumD hc hn r h hh hr'
    have e : Qfo lv (fun x => sD c h r x) = Qfo lv (sD c h r) := rfl
    lia
   ·rw [if_neg h2, Qcp (fun x _ => step_keepU hc h1 h2)]
    exact sumU hc hn r M hM hr'
theorem sumD {c : Int} (hc : 0 <= c) {lv : List Int} (hn : lv.Nodup) : ∀ (r : List Int) (m : Int), m ∈ lv -> (∀ x ∈ r, x ∈ lv) -> Qfo lv (sD c m r) = hyD c m r
 | [], m, _, _ => by
  have : Qfo lv (sD c m []) = Qfo lv fun _ => 0 := Qcp fun x _ => rfl
  rw [this]
  have z : ∀ (l : List Int), Qfo l (fun _ => 0) = 0 := by intro l; induction l with | nil => rfl | cons a l ih => unfold Qfo at *; rw [List.map_cons, List.sum_cons, ih]; rfl
  rw [z, hyD]
 | h :: r, m, hm, hr => by
  have hh := hr h List.mem_cons_self
  have hr' : ∀ x ∈ r, x ∈ lv := fun x hx => hr x (List.mem_cons_of_mem _ hx)
  rw [hyD]
  by_cases h1 : h < m
  ·rw [if_pos h1, Qcp (fun x _ => step_down hc h1)]
   exact sumD hc hn r h hh hr'
  ·rw [if_neg h1]
   by_cases h2 : m + c < h
   ·rw [if_pos h2, Qcp (fun x _ => step_rise hc h2), isum_add, isum_one hn hh]
    have := sumU hc hn r h hh hr'
    have e : Qfo lv (fun x => sU c h r x) = Qfo lv (sU c h r) := rfl
    lia
   ·rw [if_neg h2, Qcp (fun x _ => step_keepD hc h1 h2)]
    exact sumD hc hn r m hm hr'
end
theorem isles_hy {c : Int} (hc : 0 <= c) {lv : List Int} (hn : lv.Nodup) {h0 : Int} {hs : List Int} (h0m : h0 ∈ lv) (hsm : ∀ x ∈ hs, x ∈ lv) : Qfo lv (fun x => gx c x true true (h0 :: hs)) = hyU c h0 hs := by
 have e : ∀ x ∈ lv, gx c x true true (h0 :: hs) = (if x = h0 then 1 else 0) + sU c h0 hs x := fun x _ => rise_core hc
 rw [Qcp e, isum_add, isum_one hn h0m]
 have := sumU hc hn hs h0 h0m hsm
 have e : Qfo lv (fun x => sU c h0 hs x) = Qfo lv (sU c h0 hs) := rfl
 lia
end
section
set_option tactic.hygienic false
theorem dget_dset' (S : List (Int × Int)) (k v x : Int) : Qcm (Qdb S k v) x = if x = k then some v else Qcm S x := by
 unfold Qdb
 by_cases h : S.any (fun kv => decide (kv.1 = k)) = true
 ·rw [if_pos h]
  unfold Qcm
  induction S with
  | nil => simp at h
  | cons p S ih =>
   rw [List.map_cons, List.find?_cons, List.find?_cons]
   by_cases hp : p.1 = k
   ·subst hp
    by_cases hx : x = p.1
    ·subst hx; simp
    ·have hx' : ¬ p.1 = x := fun q => hx q.symm
     simp only [if_true, hx, hx', decide_false, if_false]
     by_cases h2 : S.any (fun kv => decide (kv.1 = p.1)) = true
     ·have := ih h2
      simp only [hx, if_false] at this
      exact this
     ·have e : S.map (fun kv => if kv.1 = p.1 then (kv.1, v) else kv) = S := by
       conv => rhs; rw [← List.map_id S]
       apply List.map_congr_left
       intro q hq
       have : ¬ q.1 = p.1 := fun z => h2 (by simp only [List.any_eq_true, decide_eq_true_eq]; exact ⟨q, hq, z⟩)
       simp [this]
      rw [e]
   ·simp only [hp, if_false]
    have h2 : S.any (fun kv => decide (kv.1 = k)) = true := by
     rw [List.any_cons] at h
     simpa [hp] using h
    by_cases hx : p.1 = x
    ·have : ¬ x = k := fun q => hp (hx.trans q)
     simp [hx, this]
    ·simp only [hx, decide_false]
     exact ih h2
 ·rw [if_neg h]
  have hn : ∀ p ∈ S, ¬ p.1 = k := fun p hp q => h (by simp only [List.any_eq_true, decide_eq_true_eq]; exact ⟨p, hp, q⟩)
  unfold Qcm
  rw [List.find?_append]
  by_cases hx : x = k
  ·subst hx
   have : S.find? (fun kv => decide (kv.1 = x)) = none := by
    rw [List.find?_eq_none]
    intro p hp
    simpa using hn p hp
   rw [this]; simp
  ·have hx' : ¬ k = x := fun q => hx q.symm
   simp [hx, hx']
noncomputable abbrev atS (p : Int × Int) : Int := p.1.fdiv 2
noncomputable abbrev dirS (p : Int × Int) : Int := p.1.fmod 2
theorem fd2 (t d : Int) (h : d = 0 ∨ d = 1) : (2 * t + d).fdiv 2 = t /\ (2 * t + d).fmod 2 = d := by
 have e1 : (2 * t + d).fdiv 2 = (2 * t + d) / 2 := Int.fdiv_eq_ediv_of_nonneg _ (by decide)
 have e2 : (2 * t + d).fmod 2 = (2 * t + d) % 2 := Int.fmod_eq_emod_of_nonneg _ (by decide)
 rw [e1, e2]
 lia
theorem upd_facts (t : Int) (p : Int × Int) : (updN t p).fdiv 2 = t /\ (updN t p).fmod 2 = (if t > atS p then 1 else if t < atS p then 0 else dirS p) := by
 unfold updN
 have hd := fmod2 p.1
 refine fd2 t _ ?_
 split
 ·exact .inr rfl
 ·split
  ·exact .inl rfl
  ·exact hd
theorem step_lower {lv : List Int} {dn up h : Int} {S : List (Int × Int)} : ∀ q ∈ stepS lv dn up S h, ∃ t ∈ Qei lv h dn up, ∃ p ∈ S, q.1 = updN t p /\ q.2 = updC t p := by
 let P : List (Int × Int) -> Prop := fun more => ∀ q ∈ more, ∃ t ∈ Qei lv h dn up, ∃ p ∈ S, q.1 = updN t p /\ q.2 = updC t p
 have h1 : ∀ t ∈ Qei lv h dn up, ∀ p ∈ S, ∀ more, P more -> P (updS t more p) := by
  intro t ht p hp more hm q hq
  unfold updS at hq
  have hq' : q ∈ more ∨ q = (updN t p, match Qcm more (updN t p) with | some v => min (updC t p) v | none => updC t p) := by
   unfold Qdb at hq
   split at hq
   ·rw [List.mem_map] at hq
    obtain ⟨r, hr, rfl⟩ := hq
    by_cases e : r.1 = updN t p
    ·right; rw [if_pos e, e]; try rfl
    ·left; rw [if_neg e]; exact hr
   ·rw [List.mem_append, List.mem_singleton] at hq
    exact hq
  rcases hq' with hq' | rfl
  ·exact hm q hq'
  ·cases hd : Qcm more (updN t p) with
   | none => exact ⟨t, ht, p, hp, rfl, rfl⟩
   | some v =>
    dsimp only
    rcases Int.le_total (updC t p) v with hl | hl
    ·rw [Int.min_eq_left hl]; exact ⟨t, ht, p, hp, rfl, rfl⟩
    ·rw [Int.min_eq_right hl]; exact hm _ (Qdg hd)
 have h2 : ∀ t ∈ Qei lv h dn up, ∀ (T : List (Int × Int)), (∀ p ∈ T, p ∈ S) -> ∀ more, P more -> P (T.foldl (updS t) more) := by
  intro t ht T
  induction T with
  | nil => intro _ more hm; exact hm
  | cons p T ih => intro hT more hm; exact ih (fun q hq => hT q (List.mem_cons_of_mem _ hq)) _ (h1 t ht p (hT p List.mem_cons_self) more hm)
 have h3 : ∀ (ts : List Int), (∀ t ∈ ts, t ∈ Qei lv h dn up) -> ∀ more, P more -> P (ts.foldl (fun more to => S.foldl (updS to) more) more) := by
  intro ts
  induction ts with
  | nil => intro _ more hm; exact hm
  | cons t ts ih => intro ht more hm; exact ih (fun q hq => ht q (List.mem_cons_of_mem _ hq)) _ (h2 t (ht t List.mem_cons_self) S (fun _ => id) more hm)
 exact h3 _ (fun _ => id) [] (fun q hq => nomatch hq)
theorem step_upper {lv : List Int} {dn up h : Int} {S : List (Int × Int)} {t : Int} (ht : t ∈ Qei lv h dn up) {p : Int × Int} (hp : p ∈ S) : ∃ q ∈ stepS lv dn up S h, q.1 = updN t p /\ q.2 <= updC t p := by
 let Low : Int -> Int -> List (Int × Int) -> Prop := fun k c more => ∃ v, Qcm more k = some v /\ v <= c
 have k1 : ∀ k c t' p' more, Low k c more -> Low k c (updS t' more p') := by
  rintro k c t' p' more ⟨v, hv, hc⟩
  show ∃ w, Qcm (Qdb more (updN t' p') _) k = some w /\ w <= c
  rw [dget_dset']
  by_cases e : k = updN t' p'
  ·subst e
   rw [if_pos rfl, hv]
   exact ⟨_, rfl, by dsimp only; lia⟩
  ·rw [if_neg e]; exact ⟨v, hv, hc⟩
 have k2 : ∀ k c t' (T : List (Int × Int)) more, Low k c more -> Low k c (T.foldl (updS t') more) := by
  intro k c t' T
  induction T with
  | nil => intro more h; exact h
  | cons p' T ih => intro more h; exact ih _ (k1 k c t' p' more h)
 have k3 : ∀ k c (ts : List Int) more, Low k c more -> Low k c (ts.foldl (fun more to => S.foldl (updS to) more) more) := by
  intro k c ts
  induction ts with
  | nil => intro more h; exact h
  | cons t' ts ih => intro more h; exact ih _ (k2 k c t' S more h)
 have m1 : ∀ more, Low (updN t p) (updC t p) (updS t more p) := by
  intro more
  show ∃ w, Qcm (Qdb more (updN t p) _) (updN t p) = some w /\ w <= updC t p
  rw [dget_dset', if_pos rfl]
  refine ⟨_, rfl, ?_⟩
  cases Qcm more (updN t p) with
  | none => exact Int.le_refl _
  | some v => dsimp only; lia
 have m2 : ∀ (T : List (Int × Int)), p ∈ T -> ∀ more, Low (updN t p) (updC t p) (T.foldl (updS t) more) := by
  intro T
  induction T with
  | nil => intro h; cases h
  | cons p' T ih =>
   intro h more
   rcases List.mem_cons.mp h with rfl | h
   ·exact k2 _ _ t T _ (m1 more)
   ·exact ih h _
 have m3 : ∀ (ts : List Int), t ∈ ts -> ∀ more, Low (updN t p) (updC t p) (ts.foldl (fun more to => S.foldl (updS to) more) more) := by
  intro ts
  induction ts with
  | nil => intro h; cases h
  | cons t' ts ih =>
   intro h more
   rcases List.mem_cons.mp h with rfl | h
   ·exact k3 _ _ ts _ (m2 S hp more)
   ·exact ih h _
 obtain ⟨v, hv, hc⟩ := m3 _ ht []
 exact ⟨(updN t p, v), Qdg hv, rfl, hc⟩
end
section
set_option tactic.hygienic false
structure IsA (lv : List Int) (lo a : Int) : Prop where
 mem : a ∈ lv
 le : lo <= a
 min : ∀ l ∈ lv, lo <= l -> a <= l
structure IsB (lv : List Int) (hi b : Int) : Prop where
 mem : b ∈ lv
 le : b <= hi
 max : ∀ l ∈ lv, l <= hi -> l <= b
theorem exB {lv : List Int} {hi m : Int} (hm : m ∈ lv) (h : m <= hi) : ∃ b, IsB lv hi b := by
 have hne : lv.filter (fun l => decide (l <= hi)) ≠ [] := by
  intro q
  rw [List.filter_eq_nil_iff] at q
  exact q m hm (by simpa using h)
 obtain ⟨b, h1, h2⟩ := ex_max _ hne
 rw [List.mem_filter] at h1
 exact ⟨b, h1.1, by simpa using h1.2, fun l hl hle => h2 l (List.mem_filter.mpr ⟨hl, by simpa using hle⟩)⟩
theorem exA {lv : List Int} {lo m : Int} (hm : m ∈ lv) (h : lo <= m) : ∃ a, IsA lv lo a := by
 apply byc;intro kz
 obtain ⟨b, h1, h2, h3⟩ := exB (lv := lv.map fun x => -x) (hi := -lo) (m := -m) (List.mem_map.mpr ⟨m, hm, rfl⟩) (by lia)
 obtain ⟨a, ha, rfl⟩ := List.mem_map.mp h1
 apply kz;clear kz
 refine ⟨a, ha, by lia, fun l hl hle => ?_⟩
 have := h3 (-l) (List.mem_map.mpr ⟨l, hl, rfl⟩) (by lia)
 lia
structure InvU (lv : List Int) (dn up M g : Int) (S : List (Int × Int)) : Prop where
 low : ∀ q ∈ S, g <= q.2 /\ (g + 1 <= q.2 ∨ (M - dn <= atS q /\ dirS q = 1))
 wit : ∃ q ∈ S, q.2 <= g /\ dirS q = 1 /\ IsA lv (M - dn) (atS q)
structure InvD (lv : List Int) (dn up m g : Int) (S : List (Int × Int)) : Prop where
 low : ∀ q ∈ S, g <= q.2 /\ (g + 1 <= q.2 ∨ atS q <= m + up ∨ dirS q = 1)
 wit : ∃ q ∈ S, q.2 <= g /\ dirS q = 0 /\ IsB lv (m + up) (atS q)
theorem adm_iff {lv : List Int} {h dn up t : Int} : t ∈ Qei lv h dn up ↔ t ∈ lv /\ h - dn <= t /\ t <= h + up := by
 unfold Qei
 rw [List.mem_filter]
 simp
theorem nx {lv : List Int} {dn up h : Int} {S : List (Int × Int)} {q : Int × Int} (hq : q ∈ stepS lv dn up S h) :
  ∃ p ∈ S, h - dn <= atS q /\ atS q <= h + up /\ (dirS p = 0 ∨ dirS p = 1) /\
   ((atS q > atS p /\ dirS q = 1 /\ q.2 = p.2) ∨ (atS q = atS p /\ dirS q = dirS p /\ q.2 = p.2) ∨ (atS q < atS p /\ dirS q = 0 /\ dirS p = 0 /\ q.2 = p.2) ∨ (atS q < atS p /\ dirS q = 0 /\ dirS p = 1 /\ q.2 = p.2 + 1)) := by
 apply byc;intro kz
 obtain ⟨t, ht, p, hp, e1, e2⟩ := step_lower q hq
 obtain ⟨_, t1, t2⟩ := adm_iff.mp ht
 obtain ⟨f1, f2⟩ := upd_facts t p
 apply kz;clear kz
 have hd := fmod2 p.1
 have ea : atS q = t := by unfold atS; rw [e1]; exact f1
 have ed : dirS q = (if t > atS p then 1 else if t < atS p then 0 else dirS p) := by unfold dirS; rw [e1]; exact f2
 unfold updC at e2
 refine ⟨p, hp, by lia, by lia, hd, ?_⟩
 rcases Int.lt_trichotomy t (atS p) with q' | q' | q'
 ·rw [if_neg (by lia), if_pos q'] at ed
  rcases hd with hd | hd
  ·rw [if_neg (by rintro ⟨_, z⟩; lia)] at e2
   exact .inr (.inr (.inl ⟨by lia, ed, hd, by lia⟩))
  ·rw [if_pos ⟨q', hd⟩] at e2
   exact .inr (.inr (.inr ⟨by lia, ed, hd, by lia⟩))
 ·rw [if_neg (by lia), if_neg (by lia)] at ed
  rw [if_neg (by rintro ⟨z, _⟩; unfold atS at q'; lia)] at e2
  exact .inr (.inl ⟨by lia, ed, by lia⟩)
 ·rw [if_pos (by lia)] at ed
  rw [if_neg (by rintro ⟨z, _⟩; unfold atS at q'; lia)] at e2
  exact .inl ⟨by lia, ed, by lia⟩
theorem z01 : ¬ (0 : Int) = 1 := by decide
theorem nxs {lv : List Int} {dn up h : Int} {S : List (Int × Int)} {q : Int × Int} (hq : q ∈ stepS lv dn up S h) :
  ∃ p ∈ S, (h - dn <= atS q /\ atS q <= h + up) /\ p.2 <= q.2 /\ ((dirS q = 1 /\ atS p <= atS q) ∨ (dirS p = 0 /\ atS q <= atS p) ∨ p.2 + 1 <= q.2) := by
 obtain ⟨p, hp, t1, t2, hd, hc⟩ := nx hq
 refine ⟨p, hp, ⟨t1, t2⟩, ?_⟩
 rcases hc with ⟨a, b, c⟩ | ⟨a, b, c⟩ | ⟨a, _, b, c⟩ | ⟨a, _, b, c⟩
 ·exact ⟨Int.le_of_eq c.symm, .inl ⟨b, Int.le_of_lt a⟩⟩
 ·refine ⟨Int.le_of_eq c.symm, ?_⟩
  rcases hd with d | d
  ·exact .inr (.inl ⟨d, Int.le_of_eq a⟩)
  ·exact .inl ⟨b.trans d, Int.le_of_eq a.symm⟩
 ·exact ⟨Int.le_of_eq c.symm, .inr (.inl ⟨b, Int.le_of_lt a⟩)⟩
 ·exact ⟨by rw [c]; exact Int.le_add_one (Int.le_refl _), .inr (.inr (Int.le_of_eq c.symm))⟩
theorem goUp {lv : List Int} {dn up h t : Int} {S : List (Int × Int)} {p : Int × Int} (hp : p ∈ S) (hd : dirS p = 1 ∨ atS p < t) (ht : t ∈ lv) (h1 : h - dn <= t) (h2 : t <= h + up) (h3 : atS p <= t) : ∃ q ∈ stepS lv dn up S h, q.2 <= p.2 /\ dirS q = 1 /\ atS q = t := by
 apply byc;intro kz
 obtain ⟨q, hq, e1, e2⟩ := step_upper (adm_iff.mpr ⟨ht, h1, h2⟩) hp
 obtain ⟨f1, f2⟩ := upd_facts t p
 apply kz;clear kz
 refine ⟨q, hq, ?_, ?_, ?_⟩
 ·unfold updC at e2
  rw [if_neg (by rintro ⟨z, _⟩; unfold atS at h3; lia)] at e2
  lia
 ·unfold dirS; rw [e1, f2]
  by_cases z : t > atS p
  ·rw [if_pos z]
  ·rw [if_neg z, if_neg (by lia)]
   rcases hd with hd | hd
   ·exact hd
   ·lia
 ·unfold atS; rw [e1]; exact f1
theorem goDown {lv : List Int} {dn up h t : Int} {S : List (Int × Int)} {p : Int × Int} (hp : p ∈ S) (hd : dirS p = 0 ∨ t < atS p) (ht : t ∈ lv) (h1 : h - dn <= t) (h2 : t <= h + up) (h3 : t <= atS p) : ∃ q ∈ stepS lv dn up S h, q.2 <= p.2 + dirS p /\ dirS q = 0 /\ atS q = t := by
 apply byc;intro kz
 obtain ⟨q, hq, e1, e2⟩ := step_upper (adm_iff.mpr ⟨ht, h1, h2⟩) hp
 obtain ⟨f1, f2⟩ := upd_facts t p
 apply kz;clear kz
 have hdp := fmod2 p.1
 refine ⟨q, hq, ?_, ?_, ?_⟩
 ·unfold updC at e2
  have e3 : dirS p = p.1.fmod 2 := rfl
  split at e2 <;> lia
 ·unfold dirS; rw [e1, f2]
  rw [if_neg (by lia)]
  by_cases z : t < atS p
  ·rw [if_pos z]
  ·rw [if_neg z]
   rcases hd with hd | hd
   ·exact hd
   ·lia
 ·unfold atS; rw [e1]; exact f1
section
variable {lv : List Int} {c dn up : Int} (hc : 0 <= c) (hp : (dn = c /\ up = 0) ∨ (dn = 0 /\ up = c))
include hc hp
theorem inv_rise {M g h : Int} {S : List (Int × Int)} (I : InvU lv dn up M g S) (hh : h ∈ lv) (h1 : M < h) : InvU lv dn up h g (stepS lv dn up S h) := by
 refine ⟨fun q hq => ?_, ?_⟩
 ·apply byc;intro kz
  obtain ⟨p, hpS, ⟨t1, t2⟩, e, hcase⟩ := nxs hq
  obtain ⟨l1, l2⟩ := I.low p hpS
  apply kz;clear kz
  refine ⟨Int.le_trans l1 e, ?_⟩
  rcases hcase with ⟨a, b⟩ | ⟨a, b⟩ | a
  ·exact .inr ⟨t1, a⟩
  ·exact .inl (l2.elim (fun z => Int.le_trans z e) fun z => absurd (a.symm.trans z.2) z01)
  ·exact .inl (Int.le_trans (Int.add_le_add_right l1 1) a)
 ·apply byc;intro kz
  obtain ⟨p, hpS, w1, w2, w3⟩ := I.wit
  obtain ⟨t, T⟩ := exA (lo := h - dn) hh (by lia)
  apply kz;clear kz
  have := w3.min t T.mem (by have := T.le; lia)
  have th := T.min h hh (by lia)
  have tl := T.le
  apply byc;intro kz
  obtain ⟨q, hq, z1, z2, z3⟩ := goUp (dn := dn) (up := up) (h := h) hpS (.inl w2) T.mem T.le (by lia) this
  apply kz;clear kz
  exact ⟨q, hq, by lia, z2, z3 ▸ T⟩
theorem inv_keepU {M g h : Int} {S : List (Int × Int)} (I : InvU lv dn up M g S) (hM : M ∈ lv) (hh : h ∈ lv) (h1 : ¬ M < h) (h2 : ¬ h < M - c) : InvU lv dn up M g (stepS lv dn up S h) := by
 refine ⟨fun q hq => ?_, ?_⟩
 ·apply byc;intro kz
  obtain ⟨p, hpS, ⟨t1, t2⟩, e, hcase⟩ := nxs hq
  obtain ⟨l1, l2⟩ := I.low p hpS
  apply kz;clear kz
  refine ⟨Int.le_trans l1 e, ?_⟩
  rcases hcase with ⟨a, b⟩ | ⟨a, b⟩ | a
  ·exact l2.imp (fun z => Int.le_trans z e) fun z => ⟨Int.le_trans z.1 b, a⟩
  ·exact .inl (l2.elim (fun z => Int.le_trans z e) fun z => absurd (a.symm.trans z.2) z01)
  ·exact .inl (Int.le_trans (Int.add_le_add_right l1 1) a)
 ·apply byc;intro kz
  obtain ⟨p, hpS, w1, w2, w3⟩ := I.wit
  apply kz;clear kz
  have a1 := w3.le
  have a2 : atS p <= h + up := by
   rcases hp with ⟨e1, e2⟩ | ⟨e1, e2⟩
   ·have := w3.min h hh (by lia); lia
   ·have := w3.min M hM (by lia); lia
  apply byc;intro kz
  obtain ⟨q, hq, z1, z2, z3⟩ := goUp (dn := dn) (up := up) (h := h) hpS (.inl w2) w3.mem (by lia) a2 (Int.le_refl _)
  apply kz;clear kz
  exact ⟨q, hq, by lia, z2, z3 ▸ w3⟩
theorem inv_fall {M g h : Int} {S : List (Int × Int)} (I : InvU lv dn up M g S) (hh : h ∈ lv) (h2 : h < M - c) : InvD lv dn up h (g + 1) (stepS lv dn up S h) := by
 refine ⟨fun q hq => ?_, ?_⟩
 ·apply byc;intro kz
  obtain ⟨p, hpS, ⟨t1, t2⟩, e, hcase⟩ := nxs hq
  obtain ⟨l1, l2⟩ := I.low p hpS
  apply kz;clear kz
  refine ⟨?_, .inr (.inl t2)⟩
  rcases hcase with ⟨a, b⟩ | ⟨a, b⟩ | a
  ·refine l2.elim (fun z => Int.le_trans z e) fun z => ?_
   have := z.1
   lia
  ·exact l2.elim (fun z => Int.le_trans z e) fun z => absurd (a.symm.trans z.2) z01
  ·exact Int.le_trans (Int.add_le_add_right l1 1) a
 ·apply byc;intro kz
  obtain ⟨p, hpS, w1, w2, w3⟩ := I.wit
  obtain ⟨t, T⟩ := exB (hi := h + up) hh (by lia)
  apply kz;clear kz
  have a1 := w3.le
  have a2 := T.le
  have a3 := T.max h hh (by lia)
  apply byc;intro kz
  obtain ⟨q, hq, z1, z2, z3⟩ := goDown (dn := dn) (up := up) (h := h) hpS (.inr (by lia)) T.mem (by lia) (by lia) (by lia)
  apply kz;clear kz
  exact ⟨q, hq, by lia, z2, z3 ▸ T⟩
theorem inv_down {m g h : Int} {S : List (Int × Int)} (I : InvD lv dn up m g S) (hh : h ∈ lv) (h1 : h < m) : InvD lv dn up h g (stepS lv dn up S h) := by
 refine ⟨fun q hq => ?_, ?_⟩
 ·apply byc;intro kz
  obtain ⟨p, hpS, ⟨t1, t2⟩, e, hcase⟩ := nxs hq
  obtain ⟨l1, l2⟩ := I.low p hpS
  apply kz;clear kz
  exact ⟨Int.le_trans l1 e, .inr (.inl t2)⟩
 ·apply byc;intro kz
  obtain ⟨p, hpS, w1, w2, w3⟩ := I.wit
  obtain ⟨t, T⟩ := exB (hi := h + up) hh (by lia)
  apply kz;clear kz
  have a2 := T.le
  have a3 := T.max h hh (by lia)
  have a4 := w3.max t T.mem (by lia)
  apply byc;intro kz
  obtain ⟨q, hq, z1, z2, z3⟩ := goDown (dn := dn) (up := up) (h := h) hpS (.inl w2) T.mem (by lia) (by lia) a4
  apply kz;clear kz
  exact ⟨q, hq, by lia, z2, z3 ▸ T⟩
theorem inv_keepD {m g h : Int} {S : List (Int × Int)} (I : InvD lv dn up m g S) (hm : m ∈ lv) (hh : h ∈ lv) (h1 : ¬ h < m) (h2 : ¬ m + c < h) : InvD lv dn up m g (stepS lv dn up S h) := by
 refine ⟨fun q hq => ?_, ?_⟩
 ·apply byc;intro kz
  obtain ⟨p, hpS, ⟨t1, t2⟩, e, hcase⟩ := nxs hq
  obtain ⟨l1, l2⟩ := I.low p hpS
  apply kz;clear kz
  refine ⟨Int.le_trans l1 e, ?_⟩
  rcases hcase with ⟨a, b⟩ | ⟨a, b⟩ | a
  ·exact .inr (.inr a)
  ·exact l2.imp (fun z => Int.le_trans z e) fun z => .inl (z.elim (fun z => Int.le_trans b z) fun z => absurd (a.symm.trans z) z01)
  ·exact .inl (Int.le_trans (Int.add_le_add_right l1 1) a)
 ·apply byc;intro kz
  obtain ⟨p, hpS, w1, w2, w3⟩ := I.wit
  apply kz;clear kz
  have a1 := w3.le
  have a2 : h - dn <= atS p := by
   rcases hp with ⟨e1, e2⟩ | ⟨e1, e2⟩
   ·have := w3.max m hm (by lia); lia
   ·have := w3.max h hh (by lia); lia
  apply byc;intro kz
  obtain ⟨q, hq, z1, z2, z3⟩ := goDown (dn := dn) (up := up) (h := h) hpS (.inl w2) w3.mem a2 (by lia) (Int.le_refl _)
  apply kz;clear kz
  exact ⟨q, hq, by lia, z2, z3 ▸ w3⟩
theorem inv_up {m g h : Int} {S : List (Int × Int)} (I : InvD lv dn up m g S) (hh : h ∈ lv) (h2 : m + c < h) : InvU lv dn up h g (stepS lv dn up S h) := by
 refine ⟨fun q hq => ?_, ?_⟩
 ·apply byc;intro kz
  obtain ⟨p, hpS, ⟨t1, t2⟩, e, hcase⟩ := nxs hq
  obtain ⟨l1, l2⟩ := I.low p hpS
  apply kz;clear kz
  refine ⟨Int.le_trans l1 e, ?_⟩
  rcases hcase with ⟨a, b⟩ | ⟨a, b⟩ | a
  ·exact .inr ⟨t1, a⟩
  ·refine .inl (l2.elim (fun z => Int.le_trans z e) fun z => z.elim (fun z => ?_) fun z => absurd (a.symm.trans z) z01)
   lia
  ·exact .inl (Int.le_trans (Int.add_le_add_right l1 1) a)
 ·apply byc;intro kz
  obtain ⟨p, hpS, w1, w2, w3⟩ := I.wit
  obtain ⟨t, T⟩ := exA (lo := h - dn) hh (by lia)
  apply kz;clear kz
  have a1 := w3.le
  have a2 := T.le
  have a3 := T.min h hh (by lia)
  apply byc;intro kz
  obtain ⟨q, hq, z1, z2, z3⟩ := goUp (dn := dn) (up := up) (h := h) hpS (.inr (by lia)) T.mem T.le (by lia) (by lia)
  apply kz;clear kz
  exact ⟨q, hq, by lia, z2, z3 ▸ T⟩
noncomputable def EndS (S : List (Int × Int)) (v : Int) : Prop := (∀ q ∈ S, v <= q.2 + dirS q) /\ ∃ q ∈ S, q.2 + dirS q <= v
mutual
theorem dpU : ∀ (hs : List Int) (M g : Int) (S : List (Int × Int)), M ∈ lv -> (∀ x ∈ hs, x ∈ lv) -> InvU lv dn up M g S -> EndS (hs.foldl (stepS lv dn up) S) (g + hyU c M hs)
 | [], M, g, S, hM, hs, I => by
  rw [hyU]
  refine ⟨fun q hq => ?_, ?_⟩
  ·have := I.low q hq
   have hd := fmod2 q.1
   have e : dirS q = q.1.fmod 2 := rfl
   lia
  ·apply byc;intro kz
   obtain ⟨q, hq, w1, w2, _⟩ := I.wit
   apply kz;clear kz
   exact ⟨q, hq, by lia⟩
 | h :: r, M, g, S, hM, hs, I => by
  have hh := hs h List.mem_cons_self
  have hr : ∀ x ∈ r, x ∈ lv := fun x hx => hs x (List.mem_cons_of_mem _ hx)
  rw [hyU, List.foldl_cons]
  by_cases h1 : M < h
  ·rw [if_pos h1]
   exact dpU r h g _ hh hr (inv_rise hc hp I hh h1)
  ·rw [if_neg h1]
   by_cases h2 : h < M - c
   ·rw [if_pos h2, ← Int.add_assoc]
    exact dpD r h (g + 1) _ hh hr (inv_fall hc hp I hh h2)
   ·rw [if_neg h2]
    exact dpU r M g _ hM hr (inv_keepU hc hp I hM hh h1 h2)
theorem dpD : ∀ (hs : List Int) (m g : Int) (S : List (Int × Int)), m ∈ lv -> (∀ x ∈ hs, x ∈ lv) -> InvD lv dn up m g S -> EndS (hs.foldl (stepS lv dn up) S) (g + hyD c m hs)
 | [], m, g, S, hm, hs, I => by
  rw [hyD]
  refine ⟨fun q hq => ?_, ?_⟩
  ·have := I.low q hq
   have hd := fmod2 q.1
   have e : dirS q = q.1.fmod 2 := rfl
   lia
  ·apply byc;intro kz
   obtain ⟨q, hq, w1, w2, _⟩ := I.wit
   apply kz;clear kz
   exact ⟨q, hq, by lia⟩
 | h :: r, m, g, S, hm, hs, I => by
  have hh := hs h List.mem_cons_self
  have hr : ∀ x ∈ r, x ∈ lv := fun x hx => hs x (List.mem_cons_of_mem _ hx)
  rw [hyD, List.foldl_cons]
  by_cases h1 : h < m
  ·rw [if_pos h1]
   exact dpD r h g _ hh hr (inv_down hc hp I hh h1)
  ·rw [if_neg h1]
   by_cases h2 : m + c < h
   ·rw [if_pos h2]
    exact dpU r h g _ hh hr (inv_up hc hp I hh h2)
   ·rw [if_neg h2]
    exact dpD r m g _ hm hr (inv_keepD hc hp I hm hh h1 h2)
end
theorem inv_start {h0 : Int} (hh : h0 ∈ lv) : InvU lv dn up h0 0 (startS lv dn up h0) := by
 have hmem : ∀ (l : List Int) (acc : List (Int × Int)) (q : Int × Int), q ∈ l.foldl (fun acc to => Qdb acc (2 * to + 1) 0) acc -> q ∈ acc ∨ ∃ t ∈ l, q = (2 * t + 1, 0) := by
  intro l
  induction l with
  | nil => intro acc q h; exact .inl h
  | cons a l ih =>
   intro acc q h
   rcases ih _ q h with h | ⟨t, ht, e⟩
   ·replace h : q ∈ Qdb acc (2 * a + 1) 0 := h
    unfold Qdb at h
    split at h
    ·rw [List.mem_map] at h
     apply byc;intro kz
     obtain ⟨r, hr, rfl⟩ := h
     apply kz;clear kz
     by_cases e : r.1 = 2 * a + 1
     ·rw [if_pos e, e]; exact .inr ⟨a, List.mem_cons_self, rfl⟩
     ·rw [if_neg e]; exact .inl hr
    ·rw [List.mem_append, List.mem_singleton] at h
     exact h.imp id fun e => ⟨a, List.mem_cons_self, e⟩
   ·exact .inr ⟨t, List.mem_cons_of_mem _ ht, e⟩
 have hin : ∀ (l : List Int) (acc : List (Int × Int)) (t : Int), (t ∈ l ∨ Qcm acc (2 * t + 1) = some 0) -> Qcm (l.foldl (fun acc to => Qdb acc (2 * to + 1) 0) acc) (2 * t + 1) = some 0 := by
  intro l
  induction l with
  | nil => intro acc t h; exact h.elim (fun h => nomatch h) id
  | cons a l ih =>
   intro acc t h
   refine ih _ t ?_
   by_cases e : t = a
   ·right; rw [dget_dset', if_pos (by lia)]
   ·rcases h with h | h
    ·rcases List.mem_cons.mp h with h | h
     ·exact absurd h e
     ·exact .inl h
    ·right; rw [dget_dset', if_neg (by lia)]; exact h
 refine ⟨fun q hq => ?_, ?_⟩
 ·rcases hmem _ _ q hq with h | ⟨t, ht, rfl⟩
  ·cases h
  ·apply byc;intro kz
   obtain ⟨_, t1, _⟩ := adm_iff.mp ht
   obtain ⟨f1, f2⟩ := fd2 t 1 (.inr rfl)
   apply kz;clear kz
   refine ⟨Int.le_refl _, .inr ⟨?_, f2⟩⟩
   show h0 - dn <= (2 * t + 1).fdiv 2
   rw [f1]; exact t1
 ·obtain ⟨t, T⟩ := exA (lo := h0 - dn) hh (by lia)
  have a3 := T.min h0 hh (by lia)
  have := hin _ [] t (.inl (adm_iff.mpr ⟨T.mem, T.le, (by lia : t <= h0 + up)⟩))
  obtain ⟨f1, f2⟩ := fd2 t 1 (.inr rfl)
  refine ⟨(2 * t + 1, 0), Qdg this, Int.le_refl _, f2, ?_⟩
  show IsA lv (h0 - dn) ((2 * t + 1).fdiv 2)
  rw [f1]; exact T
theorem few_hy {h0 : Int} {hs : List Int} (hh : h0 ∈ lv) (hr : ∀ x ∈ hs, x ∈ lv) : hyU c h0 hs ∈ (runS lv dn up h0 hs).map (fun p => p.2 + p.1.fmod 2) /\ ∀ x ∈ (runS lv dn up h0 hs).map (fun p => p.2 + p.1.fmod 2), hyU c h0 hs <= x := by
 apply byc;intro kz
 obtain ⟨k1, q, hq, k2⟩ := dpU hc hp hs h0 0 _ hh hr (inv_start hc hp hh)
 apply kz;clear kz
 rw [Int.zero_add] at k1 k2
 have e := k1 q hq
 refine ⟨List.mem_map.mpr ⟨q, hq, ?_⟩, fun x hx => ?_⟩
 ·show q.2 + dirS q = _
  lia
 ·apply byc;intro kz
  obtain ⟨p, hpS, rfl⟩ := List.mem_map.mp hx
  apply kz;clear kz
  exact k1 p hpS
end
end
section
set_option tactic.hygienic false
theorem sch_congr {u u' v v' : Int} : ∀ (h : List Int) (b : Bool), (∀ x ∈ h, (u <= x ↔ u' <= x) /\ (x < v ↔ x < v')) -> sch u v b h = sch u' v' b h
 | [], _, _ => rfl
 | a :: r, b, hx => by
  obtain ⟨h1, h2⟩ := hx a List.mem_cons_self
  have ih := fun b => sch_congr r b fun x hx' => hx x (List.mem_cons_of_mem _ hx')
  rw [sch, sch, ih false, ih true, ih b]
  by_cases q : u <= a
  ·rw [if_pos q, if_pos (h1.mp q)]
  ·rw [if_neg q, if_neg fun z => q (h1.mpr z)]
   by_cases q' : a < v
   ·rw [if_pos q', if_pos (h2.mp q')]
   ·rw [if_neg q', if_neg fun z => q' (h2.mpr z)]
theorem sch_none {u v : Int} : ∀ (h : List Int) (b : Bool), (∀ x ∈ h, ¬ u <= x) -> sch u v b h = 0
 | [], _, _ => rfl
 | a :: r, b, hx => by
  have ih := fun b => sch_none (v := v) r b fun x hx' => hx x (List.mem_cons_of_mem _ hx')
  rw [sch, if_neg (hx a List.mem_cons_self), ih, ih]
  split <;> rfl
theorem sch_one {v : Int} : ∀ (h : List Int) (b : Bool), (∀ x ∈ h, v <= x) -> h ≠ [] -> sch v v b h = if b then 1 else 0
 | [], _, _, hn => absurd rfl hn
 | [a], b, hx, _ => by
  rw [sch, if_pos (hx a List.mem_cons_self)]
  cases b <;> rfl
 | a :: c :: r, b, hx, _ => by
  have ih := sch_one (v := v) (c :: r) false (fun x hx' => hx x (List.mem_cons_of_mem _ hx')) (by simp)
  rw [sch, if_pos (hx a List.mem_cons_self), ih]
  cases b <;> rfl
noncomputable def exF (h : List Int) (x y : Int) : Int := ((sch x y true h : Nat) : Int) - ((sch (x + 1) y true h : Nat) : Int)
theorem exF_congr {h : List Int} {x y y' : Int} (H : ∀ z ∈ h, z < y ↔ z < y') : exF h x y = exF h x y' := by
 unfold exF
 rw [sch_congr h true fun z hz => ⟨Iff.rfl, H z hz⟩, sch_congr h true fun z hz => ⟨Iff.rfl, H z hz⟩]
structure LvOK (h lv : List Int) : Prop where
 desc : Desc lv
 mem : ∀ x, x ∈ lv ↔ x ∈ h
section
variable {h lv : List Int} (L : LvOK h lv)
include L
theorem LvOK.lt {a b : Nat} (hab : a < b) (hb : b < lv.length) : Qae lv b < Qae lv a := by
 have := List.pairwise_iff_getElem.mp L.desc a b (by lia) hb hab
 unfold Qae
 have h0 : a < lv.length := by lia
 have e1 : lv.getD a 0 = lv[a] := by simp [h0]
 have e2 : lv.getD b 0 = lv[b] := by simp [hb]
 rw [e1, e2]; exact this
theorem LvOK.ex {x : Int} (hx : x ∈ h) : ∃ k, k < lv.length /\ x = Qae lv k := by
 obtain ⟨k, hk, e⟩ := List.getElem_of_mem ((L.mem x).mpr hx)
 exact ⟨k, hk, by unfold Qae; simp [hk, e]⟩
theorem LvOK.le {a b : Nat} (hab : a <= b) (hb : b < lv.length) : Qae lv b <= Qae lv a := by
 rcases Nat.lt_or_ge a b with q | q
 ·exact Int.le_of_lt (L.lt q hb)
 ·have : a = b := by lia
  subst this; exact Int.le_refl _
theorem LvOK.next {a : Nat} (ha : a + 1 < lv.length) {x : Int} (hx : x ∈ h) : Qae lv a <= x ↔ Qae lv (a + 1) + 1 <= x := by
 have h1 := L.lt (Nat.lt_succ_self a) ha
 constructor
 ·intro q; have : Qae lv (a + 1) < Qae lv a := h1; lia
 ·intro q
  obtain ⟨k, hk, rfl⟩ := L.ex hx
  refine L.le ?_ (by lia)
  rcases Nat.lt_or_ge a k with z | z
  ·have := L.le (a := a + 1) (b := k) z hk; lia
  ·exact z
theorem LvOK.top {x : Int} (hx : x ∈ h) : x <= Qae lv 0 := by
 obtain ⟨k, hk, rfl⟩ := L.ex hx
 exact L.le (Nat.zero_le _) hk
theorem LvOK.bot {x : Int} (hx : x ∈ h) : Qae lv (lv.length - 1) <= x := by
 obtain ⟨k, hk, rfl⟩ := L.ex hx
 exact L.le (by lia) (by lia)
theorem Rn_eq {b a : Nat} (ha : a < lv.length) : Rn h lv b a = ((sch (Qae lv a + 1) (Qae lv b) true h : Nat) : Int) := by
 cases a with
 | zero =>
  rw [sch_none h true fun x hx q => by have := L.top hx; lia]; rfl
 | succ a =>
  show ((sch (Qae lv a) (Qae lv b) true h : Nat) : Int) = _
  rw [sch_congr h true fun x hx => ⟨L.next ha hx, Iff.rfl⟩]
theorem Ea_eq {b a : Nat} (ha : a < lv.length) : Ea h lv b a = exF h (Qae lv a) (Qae lv b) := by
 unfold Ea exF
 rw [Rn_eq L ha]; rfl
theorem ex_total (hne : h ≠ []) : Qcr lv.length (fun a => exF h (Qae lv a) (Qae lv (lv.length - 1))) = 1 := by
 have key : ∀ k, k <= lv.length -> Qcr k (fun a => exF h (Qae lv a) (Qae lv (lv.length - 1))) = Rn h lv (lv.length - 1) k := by
  intro k
  induction k with
  | zero => intro _; rfl
  | succ k ih =>
   intro hk
   rw [Qam, ih (by lia), ← Ea_eq L (by lia)]
   unfold Ea; lia
 rw [key _ (Nat.le_refl _)]
 have hpos : 0 < lv.length := by
  cases hh : h with
  | nil => exact absurd hh hne
  | cons a r =>
   have : a ∈ lv := (L.mem a).mpr (by rw [hh]; exact List.mem_cons_self)
   exact List.length_pos_of_mem this
 obtain ⟨k, hk⟩ : ∃ k, lv.length = k + 1 := ⟨lv.length - 1, by lia⟩
 have hbot := fun x hx => L.bot (x := x) hx
 rw [hk] at hbot ⊢
 show ((sch (Qae lv k) (Qae lv k) true h : Nat) : Int) = 1
 have hb2 : ∀ x ∈ h, Qae lv k <= x := hbot
 rw [sch_one h true hb2 hne]; rfl
theorem due_part {c : Int} (hc : 0 <= c) : ∀ (k : Nat), k + 1 <= lv.length ->
  Qcr (k + 1) (fun b => Qcr b fun a => (if c < Qae lv a - Qae lv b then 1 else 0) * dlt h lv b a) = Qcr (k + 1) fun a => exF h (Qae lv a) (max (Qae lv a - c) (Qae lv k)) - exF h (Qae lv a) (Qae lv k)
 | 0, _ => by
  rw [Qam, Qam]
  simp only [Qdo]
  have : max (Qae lv 0 - c) (Qae lv 0) = Qae lv 0 := Int.max_eq_right (Int.sub_le_self _ hc)
  rw [this]; lia
 | k + 1, hk => by
  have ih := due_part hc k (by lia)
  rw [Qam (k + 1), ih, Qam (k + 1)]
  have last : max (Qae lv (k + 1) - c) (Qae lv (k + 1)) = Qae lv (k + 1) := Int.max_eq_right (Int.sub_le_self _ hc)
  rw [last, Int.sub_self, Int.add_zero]
  have radd : ∀ (m : Nat) (f g : Nat -> Int), Qcr m f + Qcr m g = Qcr m fun i => f i + g i := by
   intro m f g
   induction m with
   | zero => rfl
   | succ m ih => rw [Qam, Qam, Qam, ← ih]; lia
  rw [radd]
  refine Qbn fun a ha => ?_
  have hd : dlt h lv (k + 1) a = exF h (Qae lv a) (Qae lv k) - exF h (Qae lv a) (Qae lv (k + 1)) := by
   unfold dlt
   rw [Ea_eq L (by lia), Ea_eq L (by lia)]; rfl
  rw [hd]
  have hlt := L.lt (Nat.lt_succ_self k) (by lia)
  have hlt' : Qae lv (k + 1) < Qae lv k := hlt
  by_cases q : c < Qae lv a - Qae lv (k + 1)
  ·rw [if_pos q]
   have e : exF h (Qae lv a) (max (Qae lv a - c) (Qae lv (k + 1))) = exF h (Qae lv a) (max (Qae lv a - c) (Qae lv k)) := by
    refine exF_congr fun z hz => ?_
    have hn := L.next (a := k) (by lia) hz
    rw [Int.max_eq_left (by lia : Qae lv (k + 1) <= Qae lv a - c)]
    constructor
    ·exact fun h => Int.lt_of_lt_of_le h (Int.le_max_left _ _)
    ·intro h
     rcases Int.le_total (Qae lv k) (Qae lv a - c) with w | w
     ·rwa [Int.max_eq_left w] at h
     ·rw [Int.max_eq_right w] at h; lia
   rw [e]; lia
  ·rw [if_neg q]
   have e1 : max (Qae lv a - c) (Qae lv k) = Qae lv k := Int.max_eq_right (by lia)
   have e2 : max (Qae lv a - c) (Qae lv (k + 1)) = Qae lv (k + 1) := Int.max_eq_right (by lia)
   rw [e1, e2]; lia
theorem due_isles {c : Int} (hc : 0 <= c) (hne : h ≠ []) : 1 + Qcr lv.length (fun b => Qcr b fun a => (if c < Qae lv a - Qae lv b then 1 else 0) * dlt h lv b a) = Qfo lv fun x => gx c x true true h := by
 have hpos : 0 < lv.length := by
  cases hh : h with
  | nil => exact absurd hh hne
  | cons a r =>
   have : a ∈ lv := (L.mem a).mpr (by rw [hh]; exact List.mem_cons_self)
   exact List.length_pos_of_mem this
 have tot := ex_total L hne
 obtain ⟨k, hk⟩ : ∃ k, lv.length = k + 1 := ⟨lv.length - 1, by lia⟩
 have hp := due_part L hc k (by lia)
 have hbot := fun x hx => L.bot (x := x) hx
 have e : Qfo lv (fun x => gx c x true true h) = Qcr (k + 1) fun a => exF h (Qae lv a) (max (Qae lv a - c) (Qae lv k)) := by
  have e1 : Qfo lv (fun x => gx c x true true h) = Qcr lv.length fun a => gx c (Qae lv a) true true h := by
   unfold Qfo Qcr Qae
   rw [Qfx lv 0 fun x => gx c x true true h]
  rw [e1, hk]
  refine Qbn fun a ha => ?_
  show exF h (Qae lv a) (Qae lv a - c) = _
  refine exF_congr fun z hz => ?_
  have := hbot z hz
  rw [hk] at this
  have : Qae lv k <= z := this
  lia
 have rsub : ∀ (m : Nat) (f g : Nat -> Int), Qcr m (fun i => f i - g i) = Qcr m f - Qcr m g := by
  intro m f g
  induction m with
  | zero => rfl
  | succ m ih => rw [Qam, Qam, Qam, ih]; lia
 rw [hk] at tot ⊢
 rw [hp, rsub, e]
 have tot' : Qcr (k + 1) (fun a => exF h (Qae lv a) (Qae lv k)) = 1 := tot
 lia
end
end
section
set_option tactic.hygienic false
theorem rsum_add (m : Nat) (f g : Nat -> Int) : Qcr m (fun i => f i + g i) = Qcr m f + Qcr m g := by
 induction m with
 | zero => rfl
 | succ m ih => rw [Qam, Qam, Qam, ih]; lia
theorem rsum_sub (m : Nat) (f g : Nat -> Int) : Qcr m (fun i => f i - g i) = Qcr m f - Qcr m g := by
 induction m with
 | zero => rfl
 | succ m ih => rw [Qam, Qam, Qam, ih]; lia
theorem rsum_mul (m : Nat) (c : Int) (f : Nat -> Int) : Qcr m (fun i => c * f i) = c * Qcr m f := by
 induction m with
 | zero => rw [Qdo, Qdo, Int.mul_zero]
 | succ m ih => rw [Qam, Qam, ih, Int.mul_add]
theorem lvok {h : List Int} : LvOK h (Qcc h) := ⟨lev_props.1, lev_props.2⟩
theorem lv_nd {h : List Int} : (Qcc h).Nodup := List.Pairwise.imp (fun q => by lia) (lvok (h := h)).desc
theorem lv_len {h : List Int} : (Qcc h).length <= h.length := Qcs lv_nd fun x hx => (lvok.mem x).mp hx
theorem due_eq {h : List Int} (R : RowOK h) {c : Int} (hc : 0 <= c) : 1 + (((Qem h).filter fun p => decide (c < p.1)).map fun p => ci p.2).sum = hyU c (h.getD 0 0) (h.drop 1) := by
 have hl := R.len
 have hll := lv_len (h := h)
 have e1 : (((Qem h).filter fun p => decide (c < p.1)).map fun p => ci p.2) = ((Qem h).filter fun p => decide (c < p.1)).map fun p => (if c < p.1 then 1 else 0) * ci p.2 := by
  apply List.map_congr_left
  intro p hp
  have : c < p.1 := by simpa using (List.mem_filter.mp hp).2
  rw [if_pos this, Int.one_mul]
 have e2 : (((Qem h).filter fun p => decide (c < p.1)).map fun p => (if c < p.1 then 1 else 0) * ci p.2).sum = ((Qem h).map fun p => (if c < p.1 then 1 else 0) * ci p.2).sum := by
  refine sum_filter _ _ _ fun p _ hp => ?_
  have : ¬ c < p.1 := by simpa using hp
  rw [if_neg this, Int.zero_mul]
 have e3 := lives_sum (high := h) (fun z => if c < z then 1 else 0) (lv_nd (h := h)) (by lia) (Qcc h).length (Nat.le_refl _)
 have e4 := due_isles lvok hc R.ne
 have e5 : h = h.getD 0 0 :: h.drop 1 := by
  cases h with
  | nil => exact absurd rfl R.ne
  | cons a l => rfl
 have hm : ∀ x ∈ h, x ∈ Qcc h := fun x hx => (lvok.mem x).mpr hx
 have h0m : h.getD 0 0 ∈ h := by
  cases h with
  | nil => exact absurd rfl R.ne
  | cons a l => exact List.mem_cons_self
 have e6 := isles_hy hc (lv_nd (h := h)) (h0 := h.getD 0 0) (hs := h.drop 1) (hm _ h0m) (fun x hx => hm x (List.mem_of_mem_drop hx))
 rw [← e5] at e6
 rw [e1, e2]
 unfold fsum at e3
 rw [e3, e4, e6]
theorem few_fact {h : List Int} (R : RowOK h) (c dn up : Int) (hc : 0 <= c) (hp : (dn = c /\ up = 0) ∨ (dn = 0 /\ up = c)) :
  1 + (((Qem h).filter fun p => decide (c < p.1)).map fun p => ci p.2).sum ∈ (runS (Qcc h) dn up (h.getD 0 0) (h.drop 1)).map (fun p => p.2 + p.1.fmod 2) /\
  ∀ x ∈ (runS (Qcc h) dn up (h.getD 0 0) (h.drop 1)).map (fun p => p.2 + p.1.fmod 2), 1 + (((Qem h).filter fun p => decide (c < p.1)).map fun p => ci p.2).sum <= x := by
 have e5 : h.getD 0 0 ∈ h := by
  cases h with
  | nil => exact absurd rfl R.ne
  | cons a l => exact List.mem_cons_self
 rw [due_eq R hc]
 exact few_hy hc hp ((lvok.mem _).mpr e5) fun x hx => (lvok.mem x).mpr (List.mem_of_mem_drop hx)
theorem four_fact {h : List Int} : ∀ p ∈ Qdj h, (ct p.2).getD 1 0 - (ct p.2).getD 2 0 = (ct p.2).getD 3 0 := joins_lin _ (Nat.le_refl _)
section
variable {h lv : List Int} (L : LvOK h lv)
include L
theorem isles_sum {b k : Nat} (hk : k <= lv.length) : Qcr k (fun a => exF h (Qae lv a) (Qae lv b)) = Rn h lv b k := by
 induction k with
 | zero => rfl
 | succ k ih =>
  rw [Qam, ih (by lia), ← Ea_eq L (by lia)]
  unfold Ea; lia
noncomputable def nF (h : List Int) (v : Int) : Int := ((sch v v true h : Nat) : Int)
theorem life_part : ∀ (k : Nat), k + 1 <= lv.length ->
  Qcr (k + 1) (fun b => Qcr b fun a => (Qae lv a - Qae lv b) * dlt h lv b a) = Qcr k (fun b => (Qae lv b - Qae lv (b + 1)) * nF h (Qae lv b)) - Qcr (k + 1) fun a => (Qae lv a - Qae lv k) * exF h (Qae lv a) (Qae lv k)
 | 0, _ => by
  rw [Qam, Qam]
  simp only [Qdo]
  rw [Int.sub_self, Int.zero_mul]; rfl
 | k + 1, hk => by
  have ih := life_part k (by lia)
  have r1 := Qam (k + 1) (fun b => Qcr b fun a => (Qae lv a - Qae lv b) * dlt h lv b a)
  have r2 := Qam k (fun b => (Qae lv b - Qae lv (b + 1)) * nF h (Qae lv b))
  have r3 := Qam (k + 1) (fun a => (Qae lv a - Qae lv (k + 1)) * exF h (Qae lv a) (Qae lv (k + 1)))
  rw [Int.sub_self, Int.zero_mul, Int.add_zero] at r3
  have hN : nF h (Qae lv k) = Qcr (k + 1) fun a => exF h (Qae lv a) (Qae lv k) := by rw [isles_sum L (by lia)]; rfl
  rw [hN, ← rsum_mul] at r2
  have hs : Qcr (k + 1) (fun a => (Qae lv a - Qae lv (k + 1)) * dlt h lv (k + 1) a) = Qcr (k + 1) fun a => ((Qae lv k - Qae lv (k + 1)) * exF h (Qae lv a) (Qae lv k) - (Qae lv a - Qae lv (k + 1)) * exF h (Qae lv a) (Qae lv (k + 1))) + (Qae lv a - Qae lv k) * exF h (Qae lv a) (Qae lv k) := by
   refine Qbn fun a ha => ?_
   have hd : dlt h lv (k + 1) a = exF h (Qae lv a) (Qae lv k) - exF h (Qae lv a) (Qae lv (k + 1)) := by
    unfold dlt
    rw [Ea_eq L (by lia), Ea_eq L (by lia)]; rfl
   rw [hd]
   simp only [Int.sub_mul, Int.mul_sub]
   lia
  rw [rsum_add, rsum_sub] at hs
  rw [r1, ih, r2, r3, hs]
  lia
end
end
section
set_option tactic.hygienic false
theorem sch_all {u v : Int} : ∀ (h : List Int) (b : Bool), (∀ x ∈ h, v <= x) -> sch u v b h = if b && h.any (fun x => decide (u <= x)) then 1 else 0
 | [], b, _ => by simp [sch]
 | a :: r, b, hx => by
  have ih := fun b => sch_all (u := u) r b fun x hx' => hx x (List.mem_cons_of_mem _ hx')
  have ha := hx a List.mem_cons_self
  have n1 : ¬ a < v := by lia
  by_cases q : u <= a
  ·rw [sch, if_pos q, ih false]
   cases b <;> simp [q]
  ·rw [sch, if_neg q, if_neg n1, ih b, List.any_cons]
   simp [q]
section
variable {h lv : List Int} (L : LvOK h lv)
include L
theorem bot_one {a : Nat} (ha : a < lv.length) : exF h (Qae lv a) (Qae lv (lv.length - 1)) = if a = 0 then 1 else 0 := by
 have r : ∀ k, k < lv.length -> Rn h lv (lv.length - 1) (k + 1) = 1 := fun k hk => by
  show ((sch (Qae lv k) (Qae lv (lv.length - 1)) true h : Nat) : Int) = 1
  rw [sch_all h true fun x hx => L.bot hx]
  have hm : Qae lv k ∈ h := (L.mem _).mp (by unfold Qae; simp [hk])
  have : h.any (fun x => decide (Qae lv k <= x)) = true := by
   rw [List.any_eq_true]; exact ⟨_, hm, by simp⟩
  rw [this]; rfl
 rw [← Ea_eq L ha]
 unfold Ea
 rw [r a ha]
 cases a with
 | zero => rfl
 | succ a => rw [r a (by lia), if_neg (by lia)]; rfl
theorem lv_pos (hne : h ≠ []) : 0 < lv.length := by
 cases hh : h with
 | nil => exact absurd hh hne
 | cons a r =>
  have : a ∈ lv := (L.mem a).mpr (by rw [hh]; exact List.mem_cons_self)
  exact List.length_pos_of_mem this
theorem life_total (hne : h ≠ []) : Qcr lv.length (fun b => Qcr b fun a => (Qae lv a - Qae lv b) * dlt h lv b a) = Qcr (lv.length - 1) (fun b => (Qae lv b - Qae lv (b + 1)) * nF h (Qae lv b)) - (Qae lv 0 - Qae lv (lv.length - 1)) := by
 have hpos := lv_pos L hne
 have hb := fun a ha => bot_one L (a := a) ha
 obtain ⟨k, hk⟩ : ∃ k, lv.length = k + 1 := ⟨lv.length - 1, by lia⟩
 rw [hk] at hb ⊢
 rw [life_part L k (by lia)]
 congr 1
 have hb' : ∀ a, a < k + 1 -> exF h (Qae lv a) (Qae lv k) = if a = 0 then 1 else 0 := hb
 rw [Qbn (g := fun a => (Qae lv a - Qae lv k) * if a = 0 then 1 else 0) fun a ha => by rw [hb' a ha]]
 have : ∀ m, Qcr (m + 1) (fun a => (Qae lv a - Qae lv k) * if a = 0 then 1 else 0) = Qae lv 0 - Qae lv k := by
  intro m
  induction m with
  | zero => rw [Qam, Qdo, if_pos rfl]; lia
  | succ m ih => rw [Qam, ih, if_neg (by lia)]; lia
 exact this k
noncomputable def wS (lv : List Int) (f : Int -> Int) : Int := Qcr (lv.length - 1) fun b => (Qae lv b - Qae lv (b + 1)) * f (Qae lv b)
omit L in
theorem wS_add (f g : Int -> Int) : wS lv (fun v => f v + g v) = wS lv f + wS lv g := by
 unfold wS; rw [← rsum_add]; exact Qbn fun b _ => Int.mul_add _ _ _
omit L in
theorem wS_sub (f g : Int -> Int) : wS lv (fun v => f v - g v) = wS lv f - wS lv g := by
 unfold wS; rw [← rsum_sub]; exact Qbn fun b _ => Int.mul_sub _ _ _
theorem wS_le {z : Int} (hz : z ∈ h) : wS lv (fun v => if v <= z then 1 else 0) = z - Qae lv (lv.length - 1) := by
 obtain ⟨k, hk, rfl⟩ := L.ex hz
 have key : ∀ m, m + 1 <= lv.length -> Qcr m (fun b => (Qae lv b - Qae lv (b + 1)) * if Qae lv b <= Qae lv k then 1 else 0) = if m <= k then 0 else Qae lv k - Qae lv m := by
  intro m
  induction m with
  | zero => intro _; rw [Qdo, if_pos (Nat.zero_le _)]
  | succ m ih =>
   intro hm
   rw [Qam, ih (by lia)]
   rcases Nat.lt_trichotomy m k with q | q | q
   ·have := L.lt q hk
    rw [if_pos (by lia), if_neg (by lia), if_pos (by lia)]; lia
   ·subst q
    rw [if_pos (Nat.le_refl _), if_pos (Int.le_refl _), if_neg (by lia)]; lia
   ·have := L.lt q (by lia)
    rw [if_neg (by lia), if_pos (by lia), if_neg (by lia)]; lia
 have := key (lv.length - 1) (by lia)
 unfold wS
 rw [this]
 by_cases q : lv.length - 1 <= k
 ·have : lv.length - 1 = k := by lia
  rw [if_pos q, this]; lia
 ·rw [if_neg q]
end
noncomputable def upsR : Int -> List Int -> Int
 | _, [] => 0
 | p, h :: r => max 0 (h - p) + upsR h r
theorem ups_eq : ∀ (r : List Int) (p : Int), (upsF (p :: r)).sum = upsR p r
 | [], p => rfl
 | h :: r, p => by
  have ih := ups_eq r h
  have e : upsF (p :: h :: r) = max 0 (h - p) :: upsF (h :: r) := by
   unfold upsF
   have : (p :: h :: r).length - 1 = ((h :: r).length - 1) + 1 := by simp
   rw [this, List.range_succ_eq_map, List.map_cons, List.map_map]
   rfl
  rw [e, List.sum_cons, ih]; rfl
section
variable {h lv : List Int} (L : LvOK h lv)
include L
theorem wS_row : ∀ (r : List Int) (p : Int), p ∈ h -> (∀ x ∈ r, x ∈ h) -> wS lv (fun v => ((sch v v (decide (p < v)) r : Nat) : Int)) = upsR p r
 | [], p, _, _ => by
  have : ∀ m, Qcr m (fun b => (Qae lv b - Qae lv (b + 1)) * 0) = 0 := by
   intro m
   induction m with
   | zero => rfl
   | succ m ih => rw [Qam, ih]; lia
  exact this _
 | a :: r, p, hp, hr => by
  have ha := hr a List.mem_cons_self
  have ih := wS_row r a ha fun x hx => hr x (List.mem_cons_of_mem _ hx)
  have e : wS lv (fun v => ((sch v v (decide (p < v)) (a :: r) : Nat) : Int)) = wS lv (fun v => (if p < v /\ v <= a then 1 else 0) + ((sch v v (decide (a < v)) r : Nat) : Int)) := by
   unfold wS
   refine Qbn fun b _ => ?_
   congr 1
   dsimp only
   rw [Qbq]
   generalize Qae lv b = v
   by_cases q : v <= a
   ·have n : decide (a < v) = false := decide_eq_false (by lia)
    rw [if_pos q, n]
    by_cases q' : p < v <;> simp [q, q']
   ·have n : decide (a < v) = true := decide_eq_true (by lia)
    rw [if_neg q, if_pos (by lia), n]
    simp [q]
  rw [e, wS_add, ih]
  show _ = max 0 (a - p) + upsR a r
  congr 1
  have l1 := wS_le L ha
  have l2 := wS_le L hp
  by_cases q : p <= a
  ·have e2 : wS lv (fun v => if p < v /\ v <= a then 1 else 0) = wS lv (fun v => (if v <= a then 1 else 0) - (if v <= p then 1 else 0)) := by
    unfold wS
    refine Qbn fun b _ => ?_
    congr 1
    dsimp only
    generalize Qae lv b = v
    by_cases q1 : p < v
    ·have : ¬ v <= p := by lia
     by_cases q2 : v <= a <;> simp [q1, q2, this]
    ·have h3 : v <= p := by lia
     have h4 : v <= a := by lia
     simp [q1, h3, h4]
   rw [e2, wS_sub, l1, l2]; lia
  ·have e2 : wS lv (fun v => if p < v /\ v <= a then 1 else 0) = wS lv (fun v => (if v <= a then 1 else 0) - (if v <= a then 1 else 0)) := by
    unfold wS
    refine Qbn fun b _ => ?_
    congr 1
    dsimp only
    generalize Qae lv b = v
    have : ¬ (p < v /\ v <= a) := by lia
    rw [if_neg this]; lia
   rw [e2, wS_sub]; lia
end
theorem life_sum {h : List Int} (R : RowOK h) : Qcr (Qcc h).length (fun b => Qcr b fun a => (Qae (Qcc h) a - Qae (Qcc h) b) * dlt h (Qcc h) b a) = h.getD 0 0 - (Qcc h).getD 0 0 + (upsF h).sum := by
 have L := lvok (h := h)
 rw [life_total L R.ne]
 cases hh : h with
 | nil => exact absurd hh R.ne
 | cons h0 r =>
  rw [← hh]
  have h0m : h0 ∈ h := by rw [hh]; exact List.mem_cons_self
  have hr : ∀ x ∈ r, x ∈ h := fun x hx => by rw [hh]; exact List.mem_cons_of_mem _ hx
  have e1 : Qcr ((Qcc h).length - 1) (fun b => (Qae (Qcc h) b - Qae (Qcc h) (b + 1)) * nF h (Qae (Qcc h) b)) = wS (Qcc h) (fun v => (if v <= h0 then 1 else 0) + ((sch v v (decide (h0 < v)) r : Nat) : Int)) := by
   unfold wS
   refine Qbn fun b _ => ?_
   congr 1
   generalize Qae (Qcc h) b = v
   dsimp only
   unfold nF
   rw [hh, Qbq]
   by_cases q : v <= h0
   ·have n : decide (h0 < v) = false := decide_eq_false (by lia)
    rw [if_pos q, n]; simp [q]
   ·have n : decide (h0 < v) = true := decide_eq_true (by lia)
    rw [if_neg q, if_pos (by lia), n]; simp [q]
  have e2 : (upsF h).sum = upsR h0 r := by rw [hh]; exact ups_eq r h0
  have e3 : h.getD 0 0 = h0 := by rw [hh]; rfl
  rw [e1, wS_add, wS_le L h0m, wS_row L r h0 h0m hr, e2, e3]
  show _ = h0 - Qae (Qcc h) 0 + _
  lia
theorem sum1_fact {h : List Int} (R : RowOK h) : ((Qem h).map fun p => p.1 * ci p.2).sum = h.getD 0 0 - (Qcc h).getD 0 0 + (upsF h).sum := by
 have hl := R.len
 have hll := lv_len (h := h)
 have e3 := lives_sum (high := h) (fun z => z) (lv_nd (h := h)) (by lia) (Qcc h).length (Nat.le_refl _)
 unfold fsum at e3
 rw [← life_sum R]
 exact e3
theorem sum2_fact {h : List Int} (R : RowOK h) : ((Qdj h).map fun p => (ct p.2).getD 3 0).sum = 2 * (h.getD 0 0 - (Qcc h).getD 0 0 + (upsF h).sum) := by
 have e3 := joins_sum (high := h) (fun _ => 1) (i := 3) (by lia) (fun a b => a - b) (fun b g => rfl) (lv_nd (h := h)) (Qcc h).length (Nat.le_refl _)
 unfold fsum at e3
 have e4 : ((Qdj h).map fun p => 1 * (ct p.2).getD 3 0) = (Qdj h).map fun p => (ct p.2).getD 3 0 := List.map_congr_left fun p _ => Int.one_mul _
 rw [e4] at e3
 rw [e3, ← life_sum R, ← rsum_mul]
 refine Qbn fun b _ => ?_
 rw [← rsum_mul]
 refine Qbn fun a _ => ?_
 rw [Int.mul_comm (dlt _ _ _ _)]
 lia
end
section
set_option tactic.hygienic false
theorem rsum_pick {f : Nat -> Int} {k : Nat} : ∀ {m : Nat}, Qcr m (fun a => (if a = k then 1 else 0) * f a) = if k < m then f k else 0
 | 0 => by rw [Qdo, if_neg (by lia)]
 | m + 1 => by
  rw [Qam, rsum_pick]
  rcases Nat.lt_trichotomy k m with q | q | q
  ·rw [if_pos q, if_neg (by lia), if_pos (by lia)]; lia
  ·subst q; rw [if_neg (by lia), if_pos rfl, if_pos (by lia)]; lia
  ·rw [if_neg (by lia), if_neg (by lia), if_neg (by lia)]; lia
section
variable {h lv : List Int} (L : LvOK h lv)
include L
theorem told_part {k : Nat} (hk : k < lv.length) : ∀ m, m <= lv.length -> Qcr m (fun b => Qcr b fun a => ((if a = k then 1 else 0) + (if b = k then 1 else 0)) * dlt h lv b a) =
  if m <= k then 0 else Qcr k (fun a => dlt h lv k a) + (exF h (Qae lv k) (Qae lv k) - exF h (Qae lv k) (Qae lv (m - 1)))
 | 0, _ => by rw [Qdo, if_pos (by lia)]
 | m + 1, hm => by
  rw [Qam, told_part hk m (by lia)]
  have e : Qcr m (fun a => ((if a = k then 1 else 0) + (if m = k then 1 else 0)) * dlt h lv m a) = (if k < m then dlt h lv m k else 0) + (if m = k then 1 else 0) * Qcr m (fun a => dlt h lv m a) := by
   rw [← rsum_pick (f := fun a => dlt h lv m a), ← rsum_mul, ← rsum_add]
   exact Qbn fun a _ => Int.add_mul _ _ _
  rw [e]
  rcases Nat.lt_trichotomy m k with q | q | q
  ·rw [if_pos (by lia), if_neg (by lia), if_neg (by lia), if_pos (by lia)]; lia
  ·subst q
   rw [if_pos (Nat.le_refl _), if_neg (by lia), if_pos rfl, if_neg (by lia)]
   have : m + 1 - 1 = m := rfl
   rw [this]; lia
  ·rw [if_neg (by lia), if_pos q, if_neg (by lia), if_neg (by lia)]
   have e1 : m + 1 - 1 = m := rfl
   have hd : dlt h lv m k = exF h (Qae lv k) (Qae lv (m - 1)) - exF h (Qae lv k) (Qae lv m) := by
    unfold dlt
    rw [Ea_eq L hk, Ea_eq L hk]
   rw [e1, hd]; lia
theorem merges {k : Nat} (hk : k < lv.length) : Qcr k (fun a => dlt h lv k a) = nF h (Qae lv k + 1) - ((sch (Qae lv k + 1) (Qae lv k) true h : Nat) : Int) := by
 cases k with
 | zero =>
  have z : ∀ v, sch (Qae lv 0 + 1) v true h = 0 := fun v => sch_none h true fun x hx q => by have := L.top hx; lia
  unfold nF
  rw [Qdo, z, z]; rfl
 | succ k =>
  have e : Qcr (k + 1) (fun a => dlt h lv (k + 1) a) = Qcr (k + 1) (fun a => exF h (Qae lv a) (Qae lv k)) - Qcr (k + 1) (fun a => exF h (Qae lv a) (Qae lv (k + 1))) := by
   rw [← rsum_sub]
   refine Qbn fun a ha => ?_
   unfold dlt
   rw [Ea_eq L (by lia), Ea_eq L (by lia)]; rfl
  rw [e, isles_sum L (by lia), isles_sum L (by lia), Rn_eq L (b := k) hk, Rn_eq L (b := k + 1) hk]
  congr 1
  show ((sch (Qae lv (k + 1) + 1) (Qae lv k) true h : Nat) : Int) = ((sch (Qae lv (k + 1) + 1) (Qae lv (k + 1) + 1) true h : Nat) : Int)
  rw [sch_congr (u' := Qae lv (k + 1) + 1) (v' := Qae lv (k + 1) + 1) h true fun x hx => ⟨Iff.rfl, by have := L.next hk hx; lia⟩]
end
noncomputable def turnV (h : List Int) (x : Int) : Int := nF h (x + 1) + nF h x - 2 * ((sch (x + 1) x true h : Nat) : Int)
theorem told_val {h : List Int} (R : RowOK h) {k : Nat} (hk : k < (Qcc h).length) : (match Qcm (Qdj h) (Qae (Qcc h) k) with | some c => (ct c).getD 0 0 | none => (0 : Int)) = turnV h (Qae (Qcc h) k) - (if k = 0 then 1 else 0) := by
 have L := lvok (h := h)
 have J := joinsT_ok h
 refine (fsum_dget J.nd (fun c => (ct c).getD 0 0) (Qae (Qcc h) k)).symm.trans ?_
 have e3 := joins_sum (high := h) (fun z => if z = Qae (Qcc h) k then 1 else 0) (i := 0) (by lia) (fun _ _ => 1) (fun b g => (Int.mul_one _).symm) (lv_nd (h := h)) (Qcc h).length (Nat.le_refl _)
 have e4 : fsum (fun p => if p.1 = Qae (Qcc h) k then (ct p.2).getD 0 0 else 0) (Qdj h) = fsum (fun p => (if p.1 = Qae (Qcc h) k then 1 else 0) * (ct p.2).getD 0 0) (Qdj h) := by
  unfold fsum
  congr 1
  apply List.map_congr_left
  intro p _
  by_cases q : p.1 = Qae (Qcc h) k
  ·rw [if_pos q, if_pos q, Int.one_mul]
  ·rw [if_neg q, if_neg q, Int.zero_mul]
 rw [e4, e3]
 have e5 := told_part L hk (Qcc h).length (Nat.le_refl _)
 rw [if_neg (by lia), merges L hk, bot_one L hk] at e5
 have e6 : Qcr (Qcc h).length (fun b => Qcr b fun a => ((if Qae (Qcc h) a = Qae (Qcc h) k then 1 else 0) + (if Qae (Qcc h) b = Qae (Qcc h) k then 1 else 0)) * (dlt h (Qcc h) b a * 1)) = Qcr (Qcc h).length (fun b => Qcr b fun a => ((if a = k then 1 else 0) + (if b = k then 1 else 0)) * dlt h (Qcc h) b a) := by
  refine Qbn fun b hb => Qbn fun a ha => ?_
  have i1 : (Qae (Qcc h) a = Qae (Qcc h) k) ↔ a = k := ⟨fun q => lvAt_inj lv_nd (by lia) hk q, fun q => by rw [q]⟩
  have i2 : (Qae (Qcc h) b = Qae (Qcc h) k) ↔ b = k := ⟨fun q => lvAt_inj lv_nd hb hk q, fun q => by rw [q]⟩
  rw [Int.mul_one]
  simp only [i1, i2]
 rw [e6, e5]
 unfold turnV exF nF
 lia
end
section
set_option tactic.hygienic false
noncomputable def tn (x : Int) : Bool -> Int -> List Int -> Int
 | d, p, [] => if d = true /\ p = x then 1 else 0
 | d, p, h :: r => if h = p then tn x d p r else (if p = x /\ ((d = true /\ h < p) ∨ (d = false /\ p < h)) then 1 else 0) + tn x (decide (p < h)) h r
theorem tn_cons (x : Int) (d : Bool) (p h : Int) (r : List Int) : tn x d p (h :: r) = if h = p then tn x d p r else (if p = x /\ ((d = true /\ h < p) ∨ (d = false /\ p < h)) then 1 else 0) + tn x (decide (p < h)) h r := rfl
theorem tn_sch (x : Int) : ∀ (r : List Int) (d : Bool) (p : Int), tn x d p r = ((sch (x + 1) (x + 1) (decide (p < x + 1)) r : Nat) : Int) + ((sch x x (decide (p < x)) r : Nat) : Int) - 2 * ((sch (x + 1) x (decide (p < x) || (decide (p = x) && d)) r : Nat) : Int) + (if d = true /\ p = x then 1 else 0)
 | [], d, p => (Int.zero_add _).symm
 | h :: r, d, p => by
  have ih := fun d p => tn_sch x r d p
  rw [tn_cons, Qbq, Qbq, Qbq]
  by_cases e : h = p
  ·subst e
   rw [if_pos rfl, ih d h]
   rcases Int.lt_trichotomy h x with q | q | q
   ·have a1 : ¬ x + 1 <= h := by lia
    have a2 : ¬ x <= h := by lia
    have a3 : h < x + 1 := by lia
    have a4 : ¬ h = x := by lia
    simp [q, a1, a2, a3, a4]
   ·subst q
    have a1 : ¬ h + 1 <= h := by lia
    have a3 : h < h + 1 := by lia
    have a4 : ¬ h < h := by lia
    simp [a1, a3, a4]
   ·have a1 : x + 1 <= h := by lia
    have a2 : x <= h := by lia
    have a3 : ¬ h < x + 1 := by lia
    have a4 : ¬ h = x := by lia
    have a5 : ¬ h < x := by lia
    simp [a1, a2, a3, a4, a5]
  ·rw [if_neg e, ih]
   rcases Int.lt_trichotomy p x with q | q | q
   ·have b1 : p < x + 1 := by lia
    have b2 : ¬ p = x := by lia
    rcases Int.lt_trichotomy h x with z | z | z
    ·have a1 : ¬ x + 1 <= h := by lia
     have a2 : ¬ x <= h := by lia
     have a3 : h < x + 1 := by lia
     have a4 : ¬ h = x := by lia
     simp [q, b1, b2, z, a1, a2, a3, a4]
    ·subst z
     have a1 : ¬ h + 1 <= h := by lia
     have a3 : h < h + 1 := by lia
     have a4 : ¬ h < h := by lia
     simp [q, b1, b2, a1, a3, a4]
     lia
    ·have a1 : x + 1 <= h := by lia
     have a2 : x <= h := by lia
     have a3 : ¬ h < x + 1 := by lia
     have a4 : ¬ h = x := by lia
     have a5 : ¬ h < x := by lia
     simp [q, b1, b2, a1, a2, a3, a4, a5]
     lia
   ·subst q
    have b1 : p < p + 1 := by lia
    have b3 : ¬ p < p := by lia
    rcases Int.lt_trichotomy h p with z | z | z
    ·have a1 : ¬ p + 1 <= h := by lia
     have a2 : ¬ p <= h := by lia
     have a3 : h < p + 1 := by lia
     have a6 : ¬ p < h := by lia
     cases d <;> simp [z, b1, b3, a1, a2, a3, a6, e] <;> lia
    ·exact absurd z e
    ·have a1 : p + 1 <= h := by lia
     have a2 : p <= h := by lia
     have a3 : ¬ h < p + 1 := by lia
     have a5 : ¬ h < p := by lia
     cases d <;> simp [z, b1, b3, a1, a2, a3, a5, e] <;> lia
   ·have b1 : ¬ p < x + 1 := by lia
    have b2 : ¬ p = x := by lia
    have b3 : ¬ p < x := by lia
    rcases Int.lt_trichotomy h x with z | z | z
    ·have a1 : ¬ x + 1 <= h := by lia
     have a2 : ¬ x <= h := by lia
     have a3 : h < x + 1 := by lia
     have a4 : ¬ h = x := by lia
     simp [b1, b2, b3, z, a1, a2, a3, a4]
    ·subst z
     have a1 : ¬ h + 1 <= h := by lia
     have a3 : h < h + 1 := by lia
     have a4 : ¬ h < h := by lia
     have a6 : ¬ p < h := by lia
     simp [b1, b2, b3, a1, a3, a4, a6]
    ·have a1 : x + 1 <= h := by lia
     have a2 : x <= h := by lia
     have a3 : ¬ h < x + 1 := by lia
     have a4 : ¬ h = x := by lia
     have a5 : ¬ h < x := by lia
     simp [b1, b2, b3, a1, a2, a3, a4, a5]
theorem turnV_tn (x h0 : Int) (r : List Int) : turnV (h0 :: r) x = tn x true h0 r := by
 unfold turnV nF
 rw [tn_sch, Qbq, Qbq, Qbq]
 rcases Int.lt_trichotomy h0 x with q | q | q
 ·have a1 : ¬ x + 1 <= h0 := by lia
  have a2 : ¬ x <= h0 := by lia
  have a3 : h0 < x + 1 := by lia
  have a4 : ¬ h0 = x := by lia
  simp [q, a1, a2, a3, a4]
 ·subst q
  have a1 : ¬ h0 + 1 <= h0 := by lia
  have a3 : h0 < h0 + 1 := by lia
  have a4 : ¬ h0 < h0 := by lia
  simp [a1, a3, a4]
  lia
 ·have a1 : x + 1 <= h0 := by lia
  have a2 : x <= h0 := by lia
  have a3 : ¬ h0 < x + 1 := by lia
  have a4 : ¬ h0 = x := by lia
  have a5 : ¬ h0 < x := by lia
  simp [a1, a2, a3, a4, a5]
  lia
end
section
set_option tactic.hygienic false
noncomputable def ddL : Int -> List Int -> List Int
 | _, [] => []
 | p, h :: r => if h = p then ddL p r else h :: ddL h r
noncomputable def gg (a : Int) (t : List Int) : List Int := ((List.range t.length).filter fun k => (a :: t).getD (k + 1) 0 != (a :: t).getD k 0).map fun k => (a :: t).getD (k + 1) 0
theorem Qej {n : Nat} (p : Nat -> Bool) (f : Nat -> Int) : ((List.range (n + 1)).filter p).map f = (if p 0 then [f 0] else []) ++ ((List.range n).filter fun k => p (k + 1)).map fun k => f (k + 1) := by
 rw [List.range_succ_eq_map, List.filter_cons, List.filter_map]
 cases h : p 0 with
 | true => simp [List.map_map, Function.comp_def]
 | false => simp [List.map_map, Function.comp_def]
theorem gg_dd : ∀ (t : List Int) (a : Int), gg a t = ddL a t
 | [], a => rfl
 | b :: t, a => by
  have ih := gg_dd t b
  have e : gg a (b :: t) = (if b != a then [b] else []) ++ gg b t := by
   unfold gg
   rw [List.length_cons, Qej]
   rfl
  rw [e, ih, ddL]
  by_cases q : b = a
  ·subst q; simp
  ·simp [q]
theorem flat_dd (h0 : Int) (r : List Int) : Qcq (h0 :: r) = 0 :: h0 :: (ddL h0 r ++ [0]) := by
 unfold Qcq
 rw [List.length_cons, Qej]
 have e : ((List.range r.length).filter fun k => (k + 1 == 0 || (h0 :: r).getD (k + 1) 0 != (h0 :: r).getD (k + 1 - 1) 0)).map (fun k => (h0 :: r).getD (k + 1) 0) = gg h0 r := by
  unfold gg
  congr 1
 rw [e, gg_dd]
 simp
noncomputable def tcn (x : Int) : Int -> Int -> List Int -> Int
 | _, _, [] => 0
 | a, b, c :: t => (if b = x /\ 0 < (b - a) * (b - c) then 1 else 0) + tcn x b c t
noncomputable def tur (f : List Int) : List Int := ((List.range (f.length - 2)).filter fun k => decide (0 < (f.getD (k + 1) 0 - f.getD k 0) * (f.getD (k + 1) 0 - f.getD (k + 2) 0))).map fun k => f.getD (k + 1) 0
theorem tcn_cons (x a b c : Int) (t : List Int) : tcn x a b (c :: t) = (if b = x /\ 0 < (b - a) * (b - c) then 1 else 0) + tcn x b c t := rfl
theorem tur_count (x : Int) : ∀ (t : List Int) (a b : Int), (((tur (a :: b :: t)).countP (· == x) : Nat) : Int) = tcn x a b t
 | [], a, b => rfl
 | c :: t, a, b => by
  have ih := tur_count x t b c
  have e : tur (a :: b :: c :: t) = (if decide (0 < (b - a) * (b - c)) then [b] else []) ++ tur (b :: c :: t) := by
   unfold tur
   have hl : (a :: b :: c :: t).length - 2 = ((b :: c :: t).length - 2) + 1 := by simp
   rw [hl, Qej]
   rfl
  rw [e, List.countP_append, tcn_cons]
  by_cases q : 0 < (b - a) * (b - c)
  ·by_cases z : b = x
   ·subst z
    simp [q]
    lia
   ·simp [q, z]
    lia
  ·simp [q]
   lia
theorem mul_pos_iff (u v : Int) : 0 < u * v ↔ (0 < u /\ 0 < v) ∨ (u < 0 /\ v < 0) := by
 constructor
 ·intro h
  rcases Int.lt_trichotomy u 0 with q | q | q
  ·rcases Int.lt_trichotomy v 0 with z | z | z
   ·exact .inr ⟨q, z⟩
   ·subst z; rw [Int.mul_zero] at h; lia
   ·have := Int.mul_neg_of_neg_of_pos q z; lia
  ·subst q; rw [Int.zero_mul] at h; lia
  ·rcases Int.lt_trichotomy v 0 with z | z | z
   ·have := Int.mul_neg_of_pos_of_neg q z; lia
   ·subst z; rw [Int.mul_zero] at h; lia
   ·exact .inl ⟨q, z⟩
 ·rintro (⟨h1, h2⟩ | ⟨h1, h2⟩)
  ·exact Int.mul_pos h1 h2
  ·exact Int.mul_pos_of_neg_of_neg h1 h2
theorem tcn_tn (x : Int) : ∀ (r : List Int) (a p : Int), a ≠ p -> 0 < p -> (∀ y ∈ r, 0 < y) -> tcn x a p (ddL p r ++ [0]) = tn x (decide (a < p)) p r
 | [], a, p, hap, hp, _ => by
  show (if p = x /\ 0 < (p - a) * (p - 0) then 1 else 0) + 0 = if decide (a < p) = true /\ p = x then 1 else 0
  rw [Int.add_zero]
  have e : (p = x /\ 0 < (p - a) * (p - 0)) ↔ (decide (a < p) = true /\ p = x) := by
   rw [mul_pos_iff, decide_eq_true_eq]
   constructor
   ·rintro ⟨h1, h2⟩; exact ⟨by lia, h1⟩
   ·rintro ⟨h1, h2⟩; exact ⟨h2, .inl ⟨by lia, by lia⟩⟩
  simp only [e]
 | h :: r, a, p, hap, hp, hr => by
  have hr' : ∀ y ∈ r, 0 < y := fun y hy => hr y (List.mem_cons_of_mem _ hy)
  rw [ddL, tn_cons]
  by_cases e : h = p
  ·rw [if_pos e, if_pos e]
   exact tcn_tn x r a p hap hp hr'
  ·rw [if_neg e, if_neg e, List.cons_append, tcn_cons, tcn_tn x r p h (fun q => e q.symm) (hr h List.mem_cons_self) hr']
   congr 1
   have e2 : (p = x /\ 0 < (p - a) * (p - h)) ↔ (p = x /\ ((decide (a < p) = true /\ h < p) ∨ (decide (a < p) = false /\ p < h))) := by
    rw [mul_pos_iff, decide_eq_true_eq, decide_eq_false_iff_not]
    constructor
    ·rintro ⟨h1, h2⟩; exact ⟨h1, by lia⟩
    ·rintro ⟨h1, h2⟩; exact ⟨h1, by lia⟩
   simp only [e2]
theorem turns_val {h : List Int} (R : RowOK h) (x : Int) : (((turnsF h).countP (· == x) : Nat) : Int) = turnV h x := by
 cases hh : h with
 | nil => exact absurd hh R.ne
 | cons h0 r =>
  have h0p : 0 < h0 := by have := R.val h0 (by rw [hh]; exact List.mem_cons_self); lia
  have hr : ∀ y ∈ r, 0 < y := fun y hy => by have := R.val y (by rw [hh]; exact List.mem_cons_of_mem _ hy); lia
  have e : turnsF (h0 :: r) = tur (Qcq (h0 :: r)) := rfl
  rw [e, flat_dd, tur_count, tcn_tn x r 0 h0 (by lia) h0p hr, turnV_tn, decide_eq_true h0p]
theorem told_fact' {h : List Int} (R : RowOK h) : ∀ x ∈ Qcc h, (match Qcm (Qdj h) x with | some c => (ct c).getD 0 0 | none => (0 : Int)) = (((turnsF h).countP (· == x) : Nat) : Int) - (if x == (Qcc h).getD 0 0 then 1 else 0) := by
 intro x hx
 have L := lvok (h := h)
 obtain ⟨k, hk, rfl⟩ := L.ex ((L.mem x).mp hx)
 refine (told_val R hk).trans ?_
 rw [turns_val R]
 congr 1
 have e : (Qae (Qcc h) k == (Qcc h).getD 0 0) = decide (k = 0) := by
  rw [Bool.eq_iff_iff, beq_iff_eq, decide_eq_true_eq]
  constructor
  ·intro q; exact lvAt_inj lv_nd hk (by lia) q
  ·intro q; rw [q]
 rw [e]
 by_cases q : k = 0 <;> simp [q]
theorem facts (h : List Int) (R : RowOK h) : Facts h := ⟨lev_fact R, told_fact' R, few_fact R, four_fact, sum1_fact R, sum2_fact R⟩
end
section
set_option tactic.hygienic false
theorem base_tail {p1 p2 p3 p4 p5 p6 p7 p8 p9 : Pos} : EvL C n nm ρ ow [.Constant (.int 2) 0 p1, .Constant (.int 25) 0 p2, .Constant (.int 7) 0 p3, .Constant (.int 18) 0 p4, .Constant (.int 2) 0 p5, .Constant (.int 24) 0 p6, .Constant (.int 155161) 0 p7, .Constant (.int 41) 0 p8, .Constant (.int 2) 0 p9] (baseL.tail.map .int) := by
 refine Qao ?_ ?_ ?_
 ·exact Qag
 ·skip
  refine Qao ?_ ?_ ?_
  ·exact Qag
  ·skip
   refine Qao ?_ ?_ ?_
   ·exact Qag
   ·skip
    refine Qao ?_ ?_ ?_
    ·exact Qag
    ·skip
     refine Qao ?_ ?_ ?_
     ·exact Qag
     ·skip
      refine Qao ?_ ?_ ?_
      ·exact Qag
      ·skip
       refine Qao ?_ ?_ ?_
       ·exact Qag
       ·skip
        refine Qao ?_ ?_ ?_
        ·exact Qag
        ·skip
         refine Qao ?_ ?_ ?_
         ·exact Qag
         ·skip
          exact Qdt
         ·intro _; rfl
        ·intro _; rfl
       ·intro _; rfl
      ·intro _; rfl
     ·intro _; rfl
    ·intro _; rfl
   ·intro _; rfl
  ·intro _; rfl
 ·intro _; rfl
theorem tuple0 {i : Int} {k k' : Nat} {p pos : Pos} {es : List Expr} {ds : List PV} (rm : Room A n) (st : St C { s with toks := s.toks + 1 }) (ok : EnvOK C nm Xo env oa s.heap ρ ow) (h : EvL C n nm ρ ow es ds) (hsz : (PV.int i :: ds).length <= sizeLine)
  (he : starEach (.Constant (.int i) k p :: es) env = (false, eval (.Constant (.int i) k p) env) :: starEach es env) :
  wpAny (Mo C) A (eval (.Tuple (.Constant (.int i) k p :: es) k' pos) env) (Post C (XS Xo env oa) s (.tup (.int i :: ds))) NoE s := by
 have ok' : EnvOK C nm Xo env oa ({ s with toks := s.toks + 1 } : Shared).heap ρ ow := ok
 refine wpAny_Tuple_spliced (wpAny_items_cons (wpAny_Constant_int (wpAny_mono (h A Xo env oa _ pos rm st ok') (fun vs s₁ ⟨st1, k1, r⟩ => ?_) nof)) he)
 have rr : RelL C (XS Xo env oa) s₁.heap (.int i :: ds) (.int i s.toks :: vs) := Qbc Qbr r
 refine ⟨by rw [rr.length]; exact hsz, ?_⟩
 have P := (Qdd (t := s₁.toks) st1 Qaa (new_tup (ok'.kp st st1 k1).lowX rr)).of k1
 exact ⟨P.1, P.2, P.3⟩
theorem assign0 {x : Str} {px pos : Pos} {e : Expr} {d : PV} {R : PV -> Prop} {rest : List Stmt} (rm : Room A n) (st : St C { s with toks := s.toks + 1 }) (ok : EnvOK C nm Xo env none s.heap ρ none)
  (h : wpAny (Mo C) A (eval e env) (Post C (XS Xo env none) s d) NoE s) (hx : (Qdm nm x || Qdi nm x) = true) (hr : Ex C n nm rest ((x, d) :: ρ) none (fun _ _ => False) R)
  (hs : swapsWith e (some (.Name x px)) pos.line env = pure false) :
  wpAny (Mo C) A (execs (.Assign [.Name x px] e pos :: rest) env) (PostS C nm Xo env none s (fun _ _ => False) R) NoE s := by
 have ok' : EnvOK C nm Xo env none ({ s with toks := s.toks + 1 } : Shared).heap ρ none := ok
 refine wpAny_execs_cons (wpAny_Assign_Name (wpAny_mono h (fun v s₁ ⟨st1, k1, r⟩ => ?_) nof) hs)
 have k1' : Kp C { s with toks := s.toks + 1 } s₁ := k1
 refine store (ok'.kp st st1 k1') st1 hx r Qad fun s₂ st2 fr ok2 => ?_
 refine wpAny_mono (hr A Xo env none s₂ rm st2 ok2) (fun f s₃ ⟨st3, fr3, h⟩ => ?_) nof
 have fr1 : FrS C env none s s₂ := fun b o h1 h2 h3 h4 e => fr b o h2 (h3 x) (k1 b o h1 e)
 refine ⟨st3, fr1.trans Fresh.refl fr3, ?_⟩
 cases f with
 | next => obtain ⟨_, _, _, _, _, q⟩ := h; exact q.elim
 | ret v => exact h
 | brk => exact h.elim
 | cont => exact h.elim
theorem starEach_num {i : Int} {k : Nat} {p : Pos} (es : List Expr) (env : Env) : starEach (.Constant (.int i) k p :: es) env = (false, eval (.Constant (.int i) k p) env) :: starEach es env := by rfl
theorem first0 {x : Str} {i : Int} {k k' : Nat} {p pos px ps : Pos} {es : List Expr} {ds : List PV} {rest : List Stmt} {d : PV} {R : PV -> Prop} (h0 : EvL C n nm ρ none es ds) (hsz : (PV.int i :: ds).length <= sizeLine) (hd : PV.tup (.int i :: ds) = d)
  (hx : (Qdm nm x || Qdi nm x) = true) (hr : Ex C n nm rest ((x, d) :: ρ) none (fun _ _ => False) R) (hs : ∀ env, swapsWith (.Tuple (.Constant (.int i) k p :: es) k' pos) (some (.Name x px)) ps.line env = pure false)
  (rm : Room A n) (st : St C { s with toks := s.toks + 1 }) (ok : EnvOK C nm Xo env none s.heap ρ none) :
  wpAny (Mo C) A (execs (.Assign [.Name x px] (.Tuple (.Constant (.int i) k p :: es) k' pos) ps :: rest) env) (PostS C nm Xo env none s (fun _ _ => False) R) NoE s := by
 subst hd
 exact assign0 rm st ok (tuple0 rm st ok h0 hsz (starEach_num es env)) hx hr (hs env)
theorem body74 : ∃ pn p0 es pt ps, Qax 74 = .Assign [.Name "base" pn] (.Tuple (.Constant (.int 13) 0 p0 :: es) 0 pt) ps :: (Qax 74).drop 1 /\ (∀ C n nm ρ ow, EvL C n nm ρ ow es (baseL.tail.map .int)) /\ ∀ env, swapsWith (.Tuple (.Constant (.int 13) 0 p0 :: es) 0 pt) (some (.Name "base" pn)) ps.line env = pure false := by
 have e : ∃ pn p0 p1 p2 p3 p4 p5 p6 p7 p8 p9 pt ps, Qax 74 = .Assign [.Name "base" pn] (.Tuple (.Constant (.int 13) 0 p0 :: [.Constant (.int 2) 0 p1, .Constant (.int 25) 0 p2, .Constant (.int 7) 0 p3, .Constant (.int 18) 0 p4, .Constant (.int 2) 0 p5, .Constant (.int 24) 0 p6, .Constant (.int 155161) 0 p7, .Constant (.int 41) 0 p8, .Constant (.int 2) 0 p9]) 0 pt) ps :: (Qax 74).drop 1 := by
  with_unfolding_all exact ⟨_, _, _, _, _, _, _, _, _, _, _, _, _, rfl⟩
 obtain ⟨pn, p0, p1, p2, p3, p4, p5, p6, p7, p8, p9, pt, ps, e⟩ := e
 refine ⟨pn, p0, _, pt, ps, e, ?_, ?_⟩
 ·intro C n nm ρ ow
  exact base_tail
 ·intro env
  rfl
structure Run0 (C : Cfg) (n : Nat) (nm : Qck) (bd : List Stmt) (ρ : Qbs) : Prop where
 run : ∀ A Xo env s, Room A n -> St C { s with toks := s.toks + 1 } -> EnvOK C nm Xo env none s.heap ρ none -> wpAny (Mo C) A (execs bd env) (PostS C nm Xo env none s (fun _ _ => False) (fun e => e = .bool true)) NoE s
theorem law_first {L : List Int} (D : LawDone C n L) : Run0 C n (Qaf 74).names (Qax 74) [("script", .lst (L.map .int))] := by
 have hD := D.run
 have hx : (Qdm (Qaf 74).names "base" || Qdi (Qaf 74).names "base") = true := by k_all
 have hd : (PV.tup (.int 13 :: baseL.tail.map .int)) = .tup (baseL.map .int) := by rfl
 have hz : (PV.int 13 :: baseL.tail.map .int).length <= sizeLine := by decide +kernel
 obtain ⟨pn, p0, es, pt, ps, e, h0, hs⟩ := body74
 have h0 := h0 C n (Qaf 74).names [("script", .lst (L.map .int))] none
 generalize (Qax 74).drop 1 = rest at e hD
 rw [e]
 clear e D
 generalize (Qaf 74).names = nm at *
 generalize baseL.tail.map PV.int = ds at *
 generalize PV.tup (baseL.map PV.int) = d at *
 constructor
 intro A Xo env s rm st ok
 exact first0 h0 hz hd hx hD hs rm st ok
end
section
set_option tactic.hygienic false
theorem room_caller : Room callerA 11 := ⟨rfl, by decide +kernel, by decide +kernel⟩
theorem st_entry (B : Base C) (e0 : C.h0 = s.heap) (eo : C.os0 = s.os) (hp : C.ps0 = #[]) (hg : s.gens = #[]) : St C { s with toks := s.toks + 1 } where
 base := B
 keep := fun b o _ e => by rw [e0] at e; exact e
 tab := ⟨#[], by have := B.tab; rw [e0] at this; simpa using this⟩
 tri := fun vs e => by
  have t := B.tab.2
  rw [e0] at t
  have : s.heap.get? C.PT = some { cls := .none, data := .fields vs } := e
  rw [t] at this
  injection this with h1
  injection h1 with _ _ h3
  injection h3 with h4
  rw [← h4, hp]
  exact trivial
 bare := AllBare.of_eq hg
 os := eo.symm
 pos := Nat.succ_pos _
theorem oldK_of (st : St C s') : OldK C.h0 s'.heap := by
 refine ⟨fun b o e => ?_, fun b o e => ?_⟩
 ·by_cases hb : b = C.PT
  ·subst hb
   have t := st.base.tab
   obtain ⟨more, t'⟩ := st.tab
   have e' := e
   rw [t.2] at e'
   cases e'
   exact .inr (.inl ⟨t.isCodeTable, rfl, _, more, rfl, t'.2⟩)
  ·exact .inl (st.keep b o hb e)
 ·by_cases hb : b = C.PT
  ·subst hb
   obtain ⟨more, t'⟩ := st.tab
   exact ⟨_, t'.2⟩
  ·exact ⟨o, st.keep b o hb e⟩
theorem call0 {fa : Addr} {c : ClaimW} {cl : Str -> Option Addr} {mean : ExcName -> Option Value} {args : List WData} {o : PySem.Obj} {pm cd doc v : Value} {L : PV} {x name : Str} {pr : Arguments} {bd : List Stmt} {sc : Scope} (B : Base C) (e0 : C.h0 = s.heap) (eo : C.os0 = s.os) (hps : C.ps0 = #[]) (hg : s.gens = #[])
  (ho : C.h0.get? fa = some o) (hd : o.data = .func (Calls.docDef name pr bd sc pm cd doc)) (hcd : C.h0.CodeRec cd name) (hcdpt : ∀ c o' vs, cd = .ref c -> C.h0.get? c = some o' -> o'.data = .fields vs -> o'.cls ≠ .none)
  (hsc : defB sc [x] = true) (hcode : sc.names = (Qaf 3).names -> cd = .ref C.tc) (hbind : ∀ vs : List Value, vs.length = 1 -> bindArgs (Calls.docDef name pr bd sc pm cd doc) ⟨vs, []⟩ = pure ([x].zip vs))
  (r : Rel C (fun _ => False) s.heap L v) (hn : ∀ cls, c.raises args cls = false) (hp : c.post args (.bool true) args = true) (rm : Room A 11) (run : Run0 C 10 sc.names bd [(x, L)]) :
  codeAny (Mo C) A (.call (.ref fa) ⟨[v], []⟩) (GoodWG c cl mean args s) s := by
 have st := st_entry B e0 eo hps hg
 refine fn_enterZ (k := 1) (n := 10) (q := name) (name := name) (xs := [x]) (ds := [L]) (X := fun _ => False) ho hd hcd hcdpt hsc hcode (by simp) rfl hbind rm st (fun a q => q.elim) (Qbc r Qbw) ?_
 intro env s₁ st1 ok keep eL eGO mL lnew cnew
 refine wpAny_mono (run.run _ _ env s₁ (rm.deeper (by decide)) st1 ok) (fun f s₂ ⟨st2, fr, h⟩ => ?_) nof
 cases f with
 | next => obtain ⟨_, _, _, _, _, q⟩ := h; exact q.elim
 | brk => exact h.elim
 | cont => exact h.elim
 | ret w =>
  obtain ⟨d, r, rfl⟩ := h
  have e : w = .bool true := r
  subst e
  refine ⟨.inl ⟨_, _, [], rfl, hn, .bool true, hp, fun _ => ⟨.nil, fun a h => nomatch h⟩⟩, ?_, ?_, st2.bare⟩
  ·rw [← e0]; exact oldK_of st2
  ·rw [← eo]; exact st2.os
theorem law_run {K : Frag} {fi fc : Addr} {L : List Int} (G : Gl C) (J : JFacts C K fi fc) (hL : L.length <= 63) : Run0 C 10 (Qaf 74).names (Qax 74) [("script", .lst (L.map .int))] :=
 law_first (law_walk G J (n := 10) (by decide) hL facts)
theorem law_call {K : Frag} {fi fc fa : Addr} {c : ClaimW} {cl : Str -> Option Addr} {mean : ExcName -> Option Value} {args : List WData} {o : PySem.Obj} {pm cd doc v : Value} {L : List Int} (G : Gl C) (J : JFacts C K fi fc) (B : Base C) (e0 : C.h0 = s.heap) (eo : C.os0 = s.os) (hps : C.ps0 = #[]) (hg : s.gens = #[])
  (ho : C.h0.get? fa = some o) (hd : o.data = .func (Calls.docDef "law" (Qed 74) (Qax 74) (Qaf 74) pm cd doc)) (hcd : C.h0.CodeRec cd "law") (hcdpt : ∀ c o' vs, cd = .ref c -> C.h0.get? c = some o' -> o'.data = .fields vs -> o'.cls ≠ .none)
  (hL : L.length <= 63) (r : Rel C (fun _ => False) s.heap (.lst (L.map .int)) v) (hn : ∀ cls, c.raises args cls = false) (hp : c.post args (.bool true) args = true) :
  codeAny (Mo C) callerA (.call (.ref fa) ⟨[v], []⟩) (GoodWG c cl mean args s) s := by
 have run := law_run G J hL
 have hsc : defB (Qaf 74) ["script"] = true := by decide +kernel
 have hcode : (Qaf 74).names = (Qaf 3).names -> cd = .ref C.tc := fun e => absurd e (by decide +kernel)
 have hbind : ∀ vs : List Value, vs.length = 1 -> bindArgs (Calls.docDef "law" (Qed 74) (Qax 74) (Qaf 74) pm cd doc) ⟨vs, []⟩ = pure ([("script" : Str)].zip vs) := fun vs h => by obtain ⟨a, rfl⟩ := vs1 h; rfl
 generalize Qax 74 = bd at *
 generalize Qaf 74 = sc at *
 generalize Qed 74 = pr at *
 generalize PV.lst (L.map .int) = d at *
 exact call0 B e0 eo hps hg ho hd hcd hcdpt hsc hcode hbind r hn hp room_caller run
end
section
open PySem PySem.Calls PySem.Spec PySem.W PyProof.Rows
noncomputable def Qde (i : Nat) : Str := (dAt i).name
noncomputable def IsRec (V : Program) (i : Nat) : Prop := V.main.body.find? (fun st => (DefRec.ofStmt? st).elim false fun d => d.name == Qde i) = some (stmtAt i) /\ ∃ f, recsOf V = V.main.body.filterMap f /\ f (stmtAt i) = some (dAt i)
theorem IsRec.mem {V : Program} {i : Nat} (x : IsRec V i) : dAt i ∈ recsOf V := by
 obtain ⟨h, f, e, g⟩ := x
 rw [e]
 exact List.mem_filterMap.mpr ⟨_, List.mem_of_find?_eq_some h, g⟩
section top
variable {V : Program} {mean : ExcName -> Option Value} {loose : List Str} {C : Cfg} {K : Frag}
theorem Qdu (T : PyProof.Rows.Top V loose mean C.mg C.mb C.h0) {i : Nat} (x : IsRec V i) (ht : i = 3 -> ∃ a o fd, C.mg (Qde i) = some (.ref a) /\ C.h0.get? a = some o /\ o.data = .func fd /\ fd.code = .ref C.tc) : DefIn C (Qde i) i := by
 have hd := x.mem
 obtain ⟨a, o, pm, cd, doc, h1, h2, h3, h4⟩ := T.fn _ hd
 obtain ⟨a', o', fd', c, P, g1, g2, g3, g4, g5, g6⟩ := T.tab _ hd
 rw [h1] at g1; cases g1
 rw [h2] at g2; cases g2
 rw [h3] at g3; cases g3
 refine ⟨a, o, pm, cd, doc, h1, h2, h3, h4, ?_, ?_⟩
 ·intro c' o' vs e e1 e2
  obtain ⟨⟨oc, ws, k1, k2, _⟩, _⟩ := g6
  have g4' : cd = .ref c := g4
  rw [g4'] at e; cases e
  rw [k1] at e1; cases e1
  rw [k2]; exact fun q => nomatch q
 ·intro hi
  obtain ⟨a', o', fd, e1, e2, e3, e4⟩ := ht hi
  rw [show C.mg (Qde i) = _ from h1] at e1; cases e1
  rw [h2] at e2; cases e2
  rw [h3] at e3; cases e3
  exact e4
theorem tab_top {mg mb : Str -> Option Value} {h : Heap} (T : PyProof.Rows.Top V loose mean mg mb h) {i : Nat} (x : IsRec V i) : ∃ a o fd c P, mg (Qde i) = some (.ref a) /\ h.get? a = some o /\ o.data = .func fd /\ fd.code = .ref c /\ h.IsCode c P #[] /\ h.TableAt c P #[] := by
 have hd := x.mem
 exact T.tab _ hd
theorem base_top (T : PyProof.Rows.Top V loose mean C.mg C.mb C.h0) (hi : importsNone V = true) (ht : C.h0.TableAt C.tc C.PT C.ps0) (hc : C.h0.IsCode C.tc C.PT C.ps0) : Base C where
 g := T.g
 b := T.b
 lim := T.nolimit
 tab := ht
 isc := hc
 bm := T.bmain
 sys := by
  obtain ⟨mm, ⟨o, es, ep, ho, hd, _⟩, _⟩ := (T.seer hi).mods
  exact ⟨o, ho, fun vs q => by rw [q] at hd; cases hd⟩
theorem Qfb (T : PyProof.Rows.Top V loose mean C.mg C.mb C.h0) (X : K.In C.h0) {x : Str} {v : Value} (e : nsIn K mainGlobals x = some none) (hb : bootBuiltins x = some v) (hn : x ≠ "__name__") : Blt C x v :=
 ⟨mg_none_of X T.g e, (T.builtins x hn).trans hb⟩
end top
noncomputable def tkOf : Value -> Nat
 | .str _ t => t
 | .int _ t => t
 | _ => 0
noncomputable def eEnts (P : Params) (l : List (Str × Int)) (r : List (Nat × Nat)) : List DictEntry := (l.zip r).map fun p => ⟨PyData.keyHash P p.1.1, .str p.1.1 p.2.1, .int p.1.2 p.2.2⟩
noncomputable def eKvs (l : List (Str × Int)) (r : List (Nat × Nat)) : List (Str × Value) := (l.zip r).map fun p => (p.1.1, .int p.1.2 p.2.2)
theorem eKvs_keys (l : List (Str × Int)) (r : List (Nat × Nat)) (h : l.length <= r.length) : (eKvs l r).map (·.1) = l.map (·.1) := by
 have e := List.map_fst_zip h
 show ((l.zip r).map _).map _ = _
 rw [List.map_map]
 exact (List.map_map (f := Prod.fst) (g := Prod.fst)).symm.trans (congrArg _ e)
theorem eKvs_rel {C : Cfg} {X : Addr -> Prop} {h : Heap} : ∀ (l : List (Str × Int)) (r : List (Nat × Nat)), l.length <= r.length -> RelS C X h (l.map fun p => (p.1, .int p.2)) (eKvs l r)
 | [], _, _ => rfl
 | (k, i) :: l, [], h => absurd h (Nat.not_succ_le_zero _)
 | (k, i) :: l, (t, u) :: r, h => ⟨_, _, rfl, Qbr, eKvs_rel l r (Nat.le_of_succ_le_succ h)⟩
theorem eEnts_pairs {C : Cfg} {P : Params} : ∀ (l : List (Str × Int)) (r : List (Nat × Nat)), Pairs (SK C) (eEnts P l r) (eKvs l r)
 | [], _ => .nil
 | (k, i) :: l, [] => .nil
 | (k, i) :: l, (t, u) :: r => .cons (strKind_is Pr C.w k t) rfl (eEnts_pairs l r)
theorem eEnts_keys {C : Cfg} (l : List (Str × Int)) (r : List (Nat × Nat)) (e : DictEntry) (h : e ∈ eEnts C.w.params l r) : ∃ k, (SK C).is k e.key = true /\ e.hash = (SK C).hash k := by
 obtain ⟨p, _, rfl⟩ := List.mem_map.mp h
 exact ⟨p.1.1, strKind_is Pr C.w _ _, rfl⟩
noncomputable def PatK (K : Frag) (name : Str) (code : Array Nat) (kind : Nat) : Prop := ∃ a fs sl ct cc cd nn cs, nsIn K mainGlobals name = some (some (.ref a)) /\ K.lookup a = some ⟨.type "re.Pattern", none, .fields fs, sl⟩ /\
 fs.getD 2 .none = rawInt 0 /\ fs.getD 5 .none = .ref ct /\ fs.getD 6 .none = rawInt (kind : Nat) /\ K.lookup ct = some ⟨cc, cd, .seq (code.map fun (w : Nat) => rawInt (w : Int)) nn, cs⟩
noncomputable def toksOf (es : Array DictEntry) : List (Nat × Nat) := es.toList.map fun e => (tkOf e.key, tkOf e.val)
noncomputable def dictAt (K : Frag) (a : Addr) : Array DictEntry := match K.lookup a with
 | some ⟨_, _, .dict es _, _⟩ => es
 | _ => #[]
structure KFacts (P : Params) (K : Frag) : Prop where
 off : ∃ t, nsIn K mainGlobals "NT_OFFSET" = some (some (.int 256 t))
 endm : ∃ t, nsIn K mainGlobals "ENDMARKER" = some (some (.int 0 t))
 crlf : ∃ t, nsIn K mainGlobals "CRLF" = some (some (.str "\r\n" t))
 re1 : PatK K "_twin_re_1" c1 0
 re2 : PatK K "_twin_re_2" c1 1
 re3 : PatK K "_twin_re_3" c3 0
 ett : ∃ a n, nsIn K mainGlobals "EXACT_TOKEN_TYPES" = some (some (.ref a)) /\ a ≠ sysModules /\ K.lookup a = some ⟨.type "dict", none, .dict (dictAt K a) n, #[]⟩ /\ (dictAt K a).toList = eEnts P etab (toksOf (dictAt K a)) /\ Nat.ble etab.length (toksOf (dictAt K a)).length = true
 b_len : nsIn K mainGlobals "len" = some none
 b_sum : nsIn K mainGlobals "sum" = some none
 b_max : nsIn K mainGlobals "max" = some none
 b_min : nsIn K mainGlobals "min" = some none
 b_ord : nsIn K mainGlobals "ord" = some none
 b_isinstance : nsIn K mainGlobals "isinstance" = some none
 b_range : nsIn K mainGlobals "range" = some none
 b_list : nsIn K mainGlobals "list" = some none
 b_tuple : nsIn K mainGlobals "tuple" = some none
 b_bytes : nsIn K mainGlobals "bytes" = some none
 b_zip : nsIn K mainGlobals "zip" = some none
theorem pat_top {C : Cfg} {K : Frag} {name : Str} {code : Array Nat} {kind : Nat} (g : C.h0.Ns mainGlobals C.mg) (X : K.In C.h0) (p : PatK K name code kind) : PatIn C name code kind := by
 obtain ⟨a, fs, sl, ct, cc, cd, nn, cs, h1, h2, h3, h4, h5, h6⟩ := p
 exact ⟨a, _, fs, ct, _, nn, mg_of X g h1, X _ _ h2, rfl, ⟨rfl, rfl⟩, h3, h4, h5, X _ _ h6, rfl⟩
theorem ett_top {C : Cfg} {K : Frag} (g : C.h0.Ns mainGlobals C.mg) (X : K.In C.h0) (F : KFacts C.w.params K) : ∃ a kvs, C.mg "EXACT_TOKEN_TYPES" = some (.ref a) /\ a ≠ sysModules /\ Qep C.h0 (SK C) a kvs /\ (∀ X h, RelS C X h (etab.map fun p => (p.1, .int p.2)) kvs) := by
 obtain ⟨a, n, h1, h2, h3, h4, h5⟩ := F.ett
 have h5 := Nat.le_of_ble_eq_true h5
 generalize dictAt K a = es at *
 refine ⟨a, eKvs etab (toksOf es), mg_of X g h1, h2, ⟨⟨_, es, n, X _ _ h3, ⟨rfl, rfl, rfl⟩, rfl, fun e he => ?_, ?_, ?_⟩, _, X _ _ h3, rfl⟩, fun X h => eKvs_rel _ _ h5⟩
 ·have : e ∈ es.toList := Array.mem_toList_iff.mpr he
  rw [h4] at this
  exact eEnts_keys _ _ e this
 ·have := eEnts_pairs (C := C) (P := C.w.params) etab (toksOf es)
  rwa [← h4] at this
 ·rw [eKvs_keys _ _ h5]
  decide +kernel
structure Recs (V : Program) : Prop where
 r3 : IsRec V 3
 r4 : IsRec V 4
 r10 : IsRec V 10
 r11 : IsRec V 11
 r12 : IsRec V 12
 r65 : IsRec V 65
 r66 : IsRec V 66
 r67 : IsRec V 67
 r69 : IsRec V 69
 r70 : IsRec V 70
 r71 : IsRec V 71
 r72 : IsRec V 72
 r73 : IsRec V 73
 r74 : IsRec V 74
theorem name3 : Qde 3 = "add_callers" := by kernel_rfl
theorem name4 : Qde 4 = "count_calls" := by kernel_rfl
theorem name10 : Qde 10 = "quotedata" := by kernel_rfl
theorem name11 : Qde 11 = "_quote_periods" := by kernel_rfl
theorem name12 : Qde 12 = "_fix_eols" := by kernel_rfl
theorem name65 : Qde 65 = "ISTERMINAL" := by kernel_rfl
theorem name66 : Qde 66 = "ISNONTERMINAL" := by kernel_rfl
theorem name67 : Qde 67 = "ISEOF" := by kernel_rfl
theorem name69 : Qde 69 = "_law_cut" := by kernel_rfl
theorem name70 : Qde 70 = "_law_levels" := by kernel_rfl
theorem name71 : Qde 71 = "_law_added" := by kernel_rfl
theorem name72 : Qde 72 = "_law_lives" := by kernel_rfl
theorem name73 : Qde 73 = "_law_fewest" := by kernel_rfl
theorem name74 : Qde 74 = "law" := by kernel_rfl
theorem gl_top {V : Program} {mean : ExcName -> Option Value} {loose : List Str} {C : Cfg} {K : Frag} (T : PyProof.Rows.Top V loose mean C.mg C.mb C.h0) (X : K.In C.h0) (R : Recs V) (F : KFacts C.w.params K)
  (ht : ∃ a o fd, C.mg (Qde 3) = some (.ref a) /\ C.h0.get? a = some o /\ o.data = .func fd /\ fd.code = .ref C.tc) : Gl C where
 add_callers := name3 ▸ Qdu T R.r3 (fun _ => ht)
 count_calls := name4 ▸ Qdu T R.r4 (fun e => absurd e (by decide))
 quotedata := name10 ▸ Qdu T R.r10 (fun e => absurd e (by decide))
 quote_periods := name11 ▸ Qdu T R.r11 (fun e => absurd e (by decide))
 fix_eols := name12 ▸ Qdu T R.r12 (fun e => absurd e (by decide))
 isterminal := name65 ▸ Qdu T R.r65 (fun e => absurd e (by decide))
 isnonterminal := name66 ▸ Qdu T R.r66 (fun e => absurd e (by decide))
 iseof := name67 ▸ Qdu T R.r67 (fun e => absurd e (by decide))
 cut := name69 ▸ Qdu T R.r69 (fun e => absurd e (by decide))
 levels := name70 ▸ Qdu T R.r70 (fun e => absurd e (by decide))
 added := name71 ▸ Qdu T R.r71 (fun e => absurd e (by decide))
 lives := name72 ▸ Qdu T R.r72 (fun e => absurd e (by decide))
 fewest := name73 ▸ Qdu T R.r73 (fun e => absurd e (by decide))
 off := let ⟨t, e⟩ := F.off; ⟨t, mg_of X T.g e⟩
 endm := let ⟨t, e⟩ := F.endm; ⟨t, mg_of X T.g e⟩
 crlf := let ⟨t, e⟩ := F.crlf; ⟨t, mg_of X T.g e⟩
 re1 := pat_top T.g X F.re1
 re2 := pat_top T.g X F.re2
 re3 := pat_top T.g X F.re3
 ett := ett_top T.g X F
 b_len := Qfb T X F.b_len (by kernel_rfl) (by decide +kernel)
 b_sum := Qfb T X F.b_sum (by kernel_rfl) (by decide +kernel)
 b_max := Qfb T X F.b_max (by kernel_rfl) (by decide +kernel)
 b_min := Qfb T X F.b_min (by kernel_rfl) (by decide +kernel)
 b_ord := Qfb T X F.b_ord (by kernel_rfl) (by decide +kernel)
 b_isinstance := Qfb T X F.b_isinstance (by kernel_rfl) (by decide +kernel)
 b_range := Qfb T X F.b_range (by kernel_rfl) (by decide +kernel)
 b_list := Qfb T X F.b_list (by kernel_rfl) (by decide +kernel)
 b_tuple := Qfb T X F.b_tuple (by kernel_rfl) (by decide +kernel)
 b_bytes := Qfb T X F.b_bytes (by kernel_rfl) (by decide +kernel)
 b_zip := Qfb T X F.b_zip (by kernel_rfl) (by decide +kernel)
end
section
set_option tactic.hygienic false
open PySem PySem.Calls PySem.Spec PySem.W PyProof.Rows
noncomputable def noTab (o : PySem.Obj) : Bool := match o.cls, o.data with
 | .none, .fields _ => false
 | _, _ => true
noncomputable def MethK (K : Frag) (f : Addr) (q name : Str) (k : Nat) : Prop := ∃ c d sl pm cc doc ce vs t cs, K.lookup f = some ⟨c, d, .func (defQ q name (mParams k) (mBody k) (mScope k) pm (.ref cc) doc), sl⟩ /\ K.lookup cc = some ⟨.type "code", ce, .fields vs, cs⟩ /\ vs[1]? = some (.str q t)
structure JK (K : Frag) (ct fi fc : Addr) : Prop where
 tabs : K.all (fun p => noTab p.2) = true
 name : nsIn K mainGlobals "TupleComp" = some (some (.ref ct))
 keepC : keepIn K (.ref ct) = true
 makes : makesIn K ct = true
 init : findIn K (.ref ct) "__init__" = some (some (.ref fi))
 initF : typeIn K (.ref fi) = some (.type "function")
 seta : findIn K (.ref ct) "__setattr__" = some (some (.builtin "object.__setattr__"))
 over : plainOver K ct = true
 taker : takerIn K ct "comp_select_list" = some none
 hasD : hasDictIn K ct = true
 get : plainGet K ct "" = true
 own : findIn K (.ref ct) "comp_select_list" = some none
 cmp : findIn K (.ref ct) "compare" = some (some (.ref fc))
 cmpF : typeIn K (.ref fc) = some (.type "function")
 keepF : keepIn K (.ref fc) = true
 mi : MethK K fi "TupleComp.__init__" "__init__" 0
 mc : MethK K fc "TupleComp.compare" "compare" 1
theorem lookup_mem {K : Frag} {a : Addr} {o : PySem.Obj} : K.lookup a = some o -> (a, o) ∈ K := by
 induction K with
 | nil => intro e; cases e
 | cons p r ih =>
  obtain ⟨b, x⟩ := p
  intro e
  rw [List.lookup_cons] at e
  split at e
  ·rename_i q
   cases e
   rw [beq_iff_eq.mp q]
   exact List.mem_cons_self
  ·exact List.mem_cons_of_mem _ (ih e)
theorem meth_top {C : Cfg} {K : Frag} {f : Addr} {q name : Str} {k : Nat} (X : K.In C.h0) (m : MethK K f q name k) : MethIn C f q name k := by
 obtain ⟨c, d, sl, pm, cc, doc, ce, vs, t, cs, h1, h2, h3⟩ := m
 refine ⟨_, pm, .ref cc, doc, X _ _ h1, rfl, ⟨cc, _, vs, t, rfl, X _ _ h2, rfl, h3⟩, ?_⟩
 intro c' o' vs' e e1 e2
 cases e
 rw [X _ _ h2] at e1
 cases e1
 exact fun q => nomatch q
theorem j_top {C : Cfg} {K : Frag} {fi fc : Addr} (g : C.h0.Ns mainGlobals C.mg) (X : K.In C.h0) (j : JK K C.CT fi fc) : JFacts C K fi fc where
 inn := X
 tabs := fun a vs e => by
  have := List.all_eq_true.mp j.tabs _ (lookup_mem e)
  simp [noTab] at this
 name := mg_of X g j.name
 keepC := j.keepC
 makes := j.makes
 init := j.init
 initF := j.initF
 seta := j.seta
 over := j.over
 taker := j.taker
 hasD := j.hasD
 get := j.get
 own := ⟨none, j.own, rfl⟩
 cmp := j.cmp
 cmpF := j.cmpF
 keepF := j.keepF
 mi := meth_top X j.mi
 mc := meth_top X j.mc
end
section
set_option tactic.hygienic false
open PySem PySem.Calls PySem.Spec PySem.W PyProof.Rows
noncomputable abbrev Cl : ClaimW := PySem.Challenge.rw_wz0007_01.row.claim
theorem items_ints {R : WRecords} : ∀ (xs : List WData), WShape.hasItems R xs .int = true -> ∃ L : List Int, xs = L.map .int
 | [], _ => ⟨[], rfl⟩
 | d :: xs, h => by
  simp only [WShape.hasItems, Bool.and_eq_true] at h
  obtain ⟨i, rfl⟩ := hasW_int h.1
  obtain ⟨L, rfl⟩ := items_ints xs h.2
  exact ⟨i :: L, rfl⟩
theorem well_ints {C : Cfg} {X : Addr -> Prop} {P : Params} {h : Heap} : ∀ (L : List Int) (vs : List Value), WellAll P h vs (L.map .int) -> RelL C X h (L.map .int) vs
 | [], _, w => by cases w; exact Qbw
 | i :: L, _, w => by
  cases w with
  | cons w1 w2 => cases w1; exact Qbc Qbr (well_ints L _ w2)
theorem args_law {C : Cfg} {P : Params} {h : Heap} {args : List WData} {vals : List Value} (hpre : Cl.pre args = true) (hwl : WellAll P h vals args) :
  ∃ (L : List Int) (v : Value), L.length <= 63 /\ args = [.list (L.map .int)] /\ vals = [v] /\ Rel C (fun _ => False) h (.lst (L.map .int)) v := by
 have hsh := (pre_splitW hpre).1
 have hcond := (pre_splitW hpre).2
 obtain ⟨d, r, rfl, h1, h2⟩ := hasAllW_cons hsh
 obtain rfl := hasAllW_nil h2
 obtain ⟨xs, rfl, h3⟩ := hasW_list h1
 obtain ⟨L, rfl⟩ := items_ints xs h3
 cases hwl with
 | cons w1 w2 =>
  cases w2
  cases w1 with
  | @list a vs _ ho w =>
   refine ⟨L, _, ?_, rfl, rfl, ?_⟩
   ·have h1 := (holds_andW hcond).1
    clear hcond hsh h2 h3
    have h2 := (holdsW_of_value (R := PySem.Challenge.rw_wz0007_01.row.records) (t := ((WTm.lit (.int 63)).lt (WTm.arg 0).len).not) (e := { args := [.list (List.map WData.int L)] }) (by wtm_val)).symm.trans h1
    rw [List.length_map, Bool.not_eq_true'] at h2
    have h3 := of_decide_eq_false h2
    lia
   ·exact ⟨a, vs, 0, rfl, id, ho, well_ints L vs w⟩
theorem post_law (args : List WData) (h : ∃ L : List Int, args = [.list (L.map .int)]) : Cl.post args (.bool true) args = true := by
 obtain ⟨L, rfl⟩ := h
 exact postW_of (by wrow_shape) (by wtm_val) (by w_fin)
theorem raises_law (args : List WData) (cls : ExcName) : Cl.raises args cls = false := by rfl
theorem patK_of {K : Frag} {name : Str} {code : Array Nat} {kind : Nat} (a : Addr) (fs : Array Value) (ct : Addr) (h1 : nsIn K mainGlobals name = some (some (.ref a))) (h2 : K.lookup a = some ⟨.type "re.Pattern", none, .fields fs, #[]⟩)
 (h3 : fs.getD 2 .none = rawInt 0) (h4 : fs.getD 5 .none = .ref ct) (h5 : fs.getD 6 .none = rawInt (kind : Nat)) (h6 : K.lookup ct = some ⟨.type "tuple", none, .seq (code.map fun (w : Nat) => rawInt (w : Int)) 0, #[]⟩) : PatK K name code kind :=
 ⟨a, fs, _, ct, _, _, _, _, h1, h2, h3, h4, h5, h6⟩
theorem law_top {V : Program} {loose : List Str} {mean0 mean : ExcName -> Option Value} {w : World} {s₁ : Shared} {mg mb : Str -> Option Value} {K : Frag} {cl : Str -> Option Addr} {args : List WData} {vals : List Value} {fa : Addr}
  (T : PyProof.Rows.Top V loose mean0 mg mb s₁.heap) (X : K.In s₁.heap) (R : Recs V) (F : KFacts w.params K) (j : JK K 55 45 52) (hi : importsNone V = true) (hg : s₁.gens = #[]) (hmg : mg "law" = some (.ref fa))
  (hpre : Cl.pre args = true) (hwl : WellAll w.params s₁.heap vals args) :
  codeAny (model Pr w) callerA (.call (.ref fa) ⟨vals, []⟩) (GoodWG Cl cl mean args s₁) s₁ := by
 obtain ⟨a3, o3, fd3, c3, P3, k1, k2, k3, k4, k5, k6⟩ := tab_top T R.r3
 have hC : ∃ C : Cfg, C = ⟨w, s₁.heap, s₁.os, P3, c3, #[], mg, mb, 55⟩ := ⟨_, rfl⟩
 obtain ⟨C, hC⟩ := hC
 have e1 : C.w = w := by rw [hC]
 have e2 : C.h0 = s₁.heap := by rw [hC]
 have e3 : C.os0 = s₁.os := by rw [hC]
 have e4 : C.PT = P3 := by rw [hC]
 have e5 : C.tc = c3 := by rw [hC]
 have e6 : C.ps0 = #[] := by rw [hC]
 have e7 : C.mg = mg := by rw [hC]
 have e8 : C.mb = mb := by rw [hC]
 have e9 : C.CT = 55 := by rw [hC]
 clear hC
 have T' : PyProof.Rows.Top V loose mean0 C.mg C.mb C.h0 := by rw [e7, e8, e2]; exact T
 have X' : K.In C.h0 := by rw [e2]; exact X
 have F' : KFacts C.w.params K := by rw [e1]; exact F
 have j' : JK K C.CT 45 52 := by rw [e9]; exact j
 have G : Gl C := gl_top T' X' R F' ⟨a3, o3, fd3, by rw [e7]; exact k1, by rw [e2]; exact k2, k3, by rw [e5]; exact k4⟩
 have B : Base C := base_top T' hi (by rw [e2, e4, e5, e6]; exact k6) (by rw [e2, e4, e5, e6]; exact k5)
 have J : JFacts C K 45 52 := j_top T'.g X' j'
 have D : DefIn C (Qde 74) 74 := Qdu T' R.r74 (fun e => absurd e (by decide))
 rw [name74] at D
 obtain ⟨a, o, pm, cd, doc, h1, h2, h3, h4, h5, _⟩ := D
 rw [e7, hmg] at h1
 cases h1
 obtain ⟨L, v, hL, ha, rfl, r⟩ := args_law (C := C) hpre hwl
 have k := law_call (s := s₁) (c := Cl) (cl := cl) (mean := mean) (args := args) G J B e2 e3 e6 hg h2 h3 h4 h5 hL r (raises_law args) (post_law args ⟨L, ha⟩)
 rw [← e1]
 exact k
end
section
set_option tactic.hygienic false
open PySem PySem.Calls PySem.Spec PySem.W PyProof.Rows
section
noncomputable abbrev kE (P : Params) (x : Str) (t : Nat) (v : Value) : DictEntry := ⟨PyData.keyHash P x, .str x t, v⟩
noncomputable abbrev defZ (q name : Str) (pr : Arguments) (bd : List Stmt) (sc : Scope) : FuncData := { name := name, qualname := q, params := pr, body := .stmts bd, scope := sc, globals := 0, closure := [], defaults := .none, kwdefaults := .none }
noncomputable abbrev tO (l : List Value) : Obj := ⟨.type "tuple", none, .seq l.toArray 0, #[]⟩
noncomputable abbrev fl : Str := "/claim/cut.py"
noncomputable abbrev cO (n : Str) (a : Nat) (q : Str) (b c : Nat) (l k f : Int) (r : Nat) (g : Int) (r2 r3 r4 r5 : Nat) (x y : Int) (z : Nat) : Obj := ⟨.type "code", none, .fields #[.str n a, .str q b, .str fl c, .int l 0, .int k 0, .int 0 0, .int 0 0, .int f 0, .ref r, .bool true, .int g 0, .ref r2, .none, .ref r3, .ref r4, .ref r5, .int x 0, .int y 0, .str fl z], #[]⟩
noncomputable abbrev fO (n : Str) (i : Nat) (m : Str) (t c : Nat) : Obj := ⟨.type "function", none, .func (defQ n n (Qed i) (Qax i) (Qaf i) (.str m t) (.ref c) .none), #[]⟩
noncomputable abbrev zO (n : Str) (i : Nat) : Obj := ⟨.none, none, .func (defZ n n (Qed i) (Qax i) (Qaf i)), #[]⟩
noncomputable def ins (t : BT) : Nat -> List Obj -> BT
 | _, [] => t
 | i, o :: l => ins (t.ins i o) (i + 1) l
noncomputable def bt (l : List Obj) : BT := ins .nil 0 l
noncomputable def oI0 (P : Params) : Obj := ⟨.type "dict", none, .dict #[kE P "__name__" 1 (.str "builtins" 160), kE P "__doc__" 2 (.builtin "builtins.__doc__:str#opaque"), kE P "__package__" 3 (.builtin "builtins.__package__:str#opaque"), kE P "__loader__" 4 (.builtin "builtins.__loader__:shared#opaque"), kE P "__spec__" 5 (.builtin "builtins.__spec__#opaque"), kE P "__build_class__" 6 (.builtin "__build_class__"), kE P "__import__" 7 (.builtin "__import__"), kE P "abs" 8 (.builtin "abs"), kE P "all" 9 (.builtin "all"), kE P "any" 10 (.builtin "any"), kE P "ascii" 11 (.builtin "ascii"), kE P "bin" 12 (.builtin "bin"), kE P "breakpoint" 13 (.builtin "breakpoint"), kE P "callable" 14 (.builtin "callable"), kE P "chr" 15 (.builtin "chr"), kE P "compile" 16 (.builtin "compile"), kE P "delattr" 17 (.builtin "delattr"), kE P "dir" 18 (.builtin "dir"), kE P "divmod" 19 (.builtin "divmod"), kE P "eval" 20 (.builtin "eval"), kE P "exec" 21 (.builtin "exec"), kE P "format" 22 (.builtin "format"), kE P "getattr" 23 (.builtin "getattr"), kE P "globals" 24 (.builtin "globals"), kE P "hasattr" 25 (.builtin "hasattr"), kE P "hash" 26 (.builtin "hash"), kE P "hex" 27 (.builtin "hex"), kE P "id" 28 (.builtin "id"), kE P "input" 29 (.builtin "input"), kE P "isinstance" 30 (.builtin "isinstance"), kE P "issubclass" 31 (.builtin "issubclass"), kE P "iter" 32 (.builtin "iter"), kE P "aiter" 33 (.builtin "aiter"), kE P "len" 34 (.builtin "len"), kE P "locals" 35 (.builtin "locals"), kE P "max" 36 (.builtin "max"), kE P "min" 37 (.builtin "min"), kE P "next" 38 (.builtin "next"), kE P "anext" 39 (.builtin "anext"), kE P "oct" 40 (.builtin "oct"), kE P "ord" 41 (.builtin "ord"), kE P "pow" 42 (.builtin "pow"), kE P "print" 43 (.builtin "print"), kE P "repr" 44 (.builtin "repr"), kE P "round" 45 (.builtin "round"), kE P "setattr" 46 (.builtin "setattr"), kE P "sorted" 47 (.builtin "sorted"), kE P "sum" 48 (.builtin "sum"), kE P "vars" 49 (.builtin "vars"), kE P "None" 50 .none, kE P "Ellipsis" 51 .ellipsis, kE P "NotImplemented" 52 .notImplemented, kE P "False" 53 (.bool false), kE P "True" 54 (.bool true), kE P "bool" 55 (.type "bool"), kE P "memoryview" 56 (.type "memoryview"), kE P "bytearray" 57 (.type "bytearray"), kE P "bytes" 58 (.type "bytes"), kE P "classmethod" 59 (.type "classmethod"), kE P "complex" 60 (.type "complex"), kE P "dict" 61 (.type "dict"), kE P "enumerate" 62 (.type "enumerate"), kE P "filter" 63 (.type "filter"), kE P "float" 64 (.type "float"), kE P "frozenset" 65 (.type "frozenset"), kE P "property" 66 (.type "property"), kE P "int" 67 (.type "int"), kE P "list" 68 (.type "list"), kE P "map" 69 (.type "map"), kE P "object" 70 (.type "object"), kE P "range" 71 (.type "range"), kE P "reversed" 72 (.type "reversed"), kE P "set" 73 (.type "set"), kE P "slice" 74 (.type "slice"), kE P "staticmethod" 75 (.type "staticmethod"), kE P "str" 76 (.type "str"), kE P "super" 77 (.type "super"), kE P "tuple" 78 (.type "tuple"), kE P "type" 79 (.type "type"), kE P "zip" 80 (.type "zip"), kE P "__debug__" 81 (.bool true), kE P "BaseException" 82 (.type "BaseException"), kE P "BaseExceptionGroup" 83 (.type "BaseExceptionGroup"), kE P "Exception" 84 (.type "Exception"), kE P "GeneratorExit" 85 (.type "GeneratorExit"), kE P "KeyboardInterrupt" 86 (.type "KeyboardInterrupt"), kE P "SystemExit" 87 (.type "SystemExit"), kE P "ArithmeticError" 88 (.type "ArithmeticError"), kE P "AssertionError" 89 (.type "AssertionError"), kE P "AttributeError" 90 (.type "AttributeError"), kE P "BufferError" 91 (.type "BufferError"), kE P "EOFError" 92 (.type "EOFError"), kE P "ImportError" 93 (.type "ImportError"), kE P "LookupError" 94 (.type "LookupError"), kE P "MemoryError" 95 (.type "MemoryError"), kE P "NameError" 96 (.type "NameError"), kE P "OSError" 97 (.type "OSError"), kE P "ReferenceError" 98 (.type "ReferenceError"), kE P "RuntimeError" 99 (.type "RuntimeError"), kE P "StopAsyncIteration" 100 (.type "StopAsyncIteration"), kE P "StopIteration" 101 (.type "StopIteration"), kE P "SyntaxError" 102 (.type "SyntaxError"), kE P "SystemError" 103 (.type "SystemError"), kE P "TypeError" 104 (.type "TypeError"), kE P "ValueError" 105 (.type "ValueError"), kE P "Warning" 106 (.type "Warning"), kE P "FloatingPointError" 107 (.type "FloatingPointError"), kE P "OverflowError" 108 (.type "OverflowError"), kE P "ZeroDivisionError" 109 (.type "ZeroDivisionError"), kE P "BytesWarning" 110 (.type "BytesWarning"), kE P "DeprecationWarning" 111 (.type "DeprecationWarning"), kE P "EncodingWarning" 112 (.type "EncodingWarning"), kE P "FutureWarning" 113 (.type "FutureWarning"), kE P "ImportWarning" 114 (.type "ImportWarning"), kE P "PendingDeprecationWarning" 115 (.type "PendingDeprecationWarning"), kE P "ResourceWarning" 116 (.type "ResourceWarning"), kE P "RuntimeWarning" 117 (.type "RuntimeWarning"), kE P "SyntaxWarning" 118 (.type "SyntaxWarning"), kE P "UnicodeWarning" 119 (.type "UnicodeWarning"), kE P "UserWarning" 120 (.type "UserWarning"), kE P "BlockingIOError" 121 (.type "BlockingIOError"), kE P "ChildProcessError" 122 (.type "ChildProcessError"), kE P "ConnectionError" 123 (.type "ConnectionError"), kE P "FileExistsError" 124 (.type "FileExistsError"), kE P "FileNotFoundError" 125 (.type "FileNotFoundError"), kE P "InterruptedError" 126 (.type "InterruptedError"), kE P "IsADirectoryError" 127 (.type "IsADirectoryError"), kE P "NotADirectoryError" 128 (.type "NotADirectoryError"), kE P "PermissionError" 129 (.type "PermissionError"), kE P "ProcessLookupError" 130 (.type "ProcessLookupError"), kE P "TimeoutError" 131 (.type "TimeoutError"), kE P "IndentationError" 132 (.type "IndentationError"), kE P "_IncompleteInputError" 133 (.type "_IncompleteInputError"), kE P "IndexError" 134 (.type "IndexError"), kE P "KeyError" 135 (.type "KeyError"), kE P "ModuleNotFoundError" 136 (.type "ModuleNotFoundError"), kE P "NotImplementedError" 137 (.type "NotImplementedError"), kE P "PythonFinalizationError" 138 (.type "PythonFinalizationError"), kE P "RecursionError" 139 (.type "RecursionError"), kE P "UnboundLocalError" 140 (.type "UnboundLocalError"), kE P "UnicodeError" 141 (.type "UnicodeError"), kE P "BrokenPipeError" 142 (.type "BrokenPipeError"), kE P "ConnectionAbortedError" 143 (.type "ConnectionAbortedError"), kE P "ConnectionRefusedError" 144 (.type "ConnectionRefusedError"), kE P "ConnectionResetError" 145 (.type "ConnectionResetError"), kE P "TabError" 146 (.type "TabError"), kE P "UnicodeDecodeError" 147 (.type "UnicodeDecodeError"), kE P "UnicodeEncodeError" 148 (.type "UnicodeEncodeError"), kE P "UnicodeTranslateError" 149 (.type "UnicodeTranslateError"), kE P "ExceptionGroup" 150 (.type "ExceptionGroup"), kE P "EnvironmentError" 151 (.type "OSError"), kE P "IOError" 152 (.type "OSError"), kE P "open" 153 (.builtin "open"), kE P "quit" 154 (.builtin "builtins.quit#opaque"), kE P "exit" 155 (.builtin "builtins.exit#opaque"), kE P "copyright" 156 (.builtin "builtins.copyright#opaque"), kE P "credits" 157 (.builtin "builtins.credits#opaque"), kE P "license" 158 (.builtin "builtins.license#opaque"), kE P "help" 159 (.builtin "builtins.help#opaque")] 159, #[]⟩
noncomputable def oI1 (P : Params) : Obj := ⟨.type "dict", none, .dict #[kE P "builtins" 162 (.ref 4), kE P "__main__" 163 (.ref 5), kE P "_sre" 244 (.ref 12)] 3, #[]⟩
noncomputable def oI2 (P : Params) : Obj := ⟨.none, none, .dict #[kE P "\x69mport.loaded._sre" 183 (.bool true), kE P "class._frozen_importlib.BuiltinImporter" 185 (.ref 14), kE P "watched.\x69mport" 206 (.ref 18), kE P "class._frozen_importlib.ModuleSpec" 216 (.ref 22), kE P "sys.modules.booked-epoch" 245 (.int 3 0), kE P "\x69mport.later-laid._sre" 270 (.bool true), kE P "watched.library" 272 (.ref 27), kE P "watched.library-objects" 0 (.str ⟨#[12]⟩ 0), kE P "watched.library-deep._sre" 273 (.str ⟨#[4, 0, 0, 11, 4, 0, 0, 11, 4, 0, 0, 3, 4, 0, 0, 11, 8, 4, 100, 105, 99, 116, 2]⟩ 0)] 9, #[]⟩
noncomputable def oI3 (P : Params) : Obj := ⟨.type "dict", none, .dict #[kE P "__name__" 165 (.str "__main__" 164), kE P "__doc__" 166 .none, kE P "__package__" 167 .none, kE P "__loader__" 168 (.builtin "__main__.__loader__#opaque"), kE P "__spec__" 169 .none, kE P "__annotations__" 170 (.ref 6), kE P "__builtins__" 171 (.ref 4), kE P "__file__" 173 (.str "/claim/cut.py" 172), kE P "__cached__" 174 .none, kE P "_sre" 275 (.ref 12)] 10, #[]⟩
noncomputable def oI4 : Obj := ⟨.type "module", some 0, .plain, #[]⟩
noncomputable def oI5 : Obj := ⟨.type "module", some 3, .plain, #[]⟩
noncomputable def oI6 : Obj := ⟨.type "dict", none, .dict #[] 0, #[]⟩
noncomputable def oI7 : Obj := tO []
noncomputable def oI8 : Obj := ⟨.none, none, .fields #[], #[]⟩
noncomputable def oI9 : Obj := ⟨.type "code", none, .fields #[.str "<module>" 176, .str "<module>" 177, .str "/claim/cut.py" 178, .int 1 0, .int 0 0, .int 0 0, .int 0 0, .int 0 0, .ref 7, .bool false, .int 175 0, .ref 8, .none, .none, .none, .none, .int 179 0, .int 1 0, .str "/claim/cut.py" 180], #[]⟩
noncomputable def oI10 : Obj := ⟨.type "frame", none, .plain, #[some (.ref 9), some (.ref 3), some (.ref 3), none, some (.str "__main__" 164), none, some (.ref 0)]⟩
noncomputable def oI11 (P : Params) : Obj := ⟨.type "dict", none, .dict #[kE P "__name__" 247 (.str "_sre" 246), kE P "__doc__" 248 .none, kE P "__package__" 250 (.str "" 249), kE P "__loader__" 251 (.ref 14), kE P "__spec__" 252 (.ref 26), kE P "compile" 253 (.builtin "_sre.compile"), kE P "template" 254 (.builtin "_sre.template"), kE P "getcodesize" 255 (.builtin "_sre.getcodesize"), kE P "ascii_iscased" 256 (.builtin "_sre.ascii_iscased"), kE P "unicode_iscased" 257 (.builtin "_sre.unicode_iscased"), kE P "ascii_tolower" 258 (.builtin "_sre.ascii_tolower"), kE P "unicode_tolower" 259 (.builtin "_sre.unicode_tolower"), kE P "MAGIC" 261 (.int 20230612 260), kE P "CODESIZE" 263 (.int 4 262), kE P "MAXREPEAT" 265 (.int 4294967295 264), kE P "MAXGROUPS" 267 (.int 1073741823 266), kE P "copyright" 269 (.str " SRE 2.2.2 Copyright (c) 1997-2002 by Secret Labs AB " 268)] 17, #[]⟩
noncomputable def oI12 : Obj := ⟨.type "module", some 11, .plain, #[]⟩
noncomputable def oI13 (P : Params) : Obj := ⟨.type "dict", none, .dict #[kE P "__module__" 189 (.str "_frozen_importlib" 186), kE P "__firstlineno__" 190 (.int 971 187), kE P "__doc__" 191 (.builtin "_frozen_importlib.BuiltinImporter.__doc__:str#opaque"), kE P "_ORIGIN" 192 (.str "built-in" 188), kE P "find_spec" 193 (.builtin "_frozen_importlib.BuiltinImporter.find_spec#opaque"), kE P "create_module" 194 (.builtin "_frozen_importlib.BuiltinImporter.create_module#opaque"), kE P "exec_module" 195 (.builtin "_frozen_importlib.BuiltinImporter.exec_module#opaque"), kE P "get_code" 196 (.builtin "_frozen_importlib.BuiltinImporter.get_code#opaque"), kE P "get_source" 197 (.builtin "_frozen_importlib.BuiltinImporter.get_source#opaque"), kE P "is_package" 198 (.builtin "_frozen_importlib.BuiltinImporter.is_package#opaque"), kE P "load_module" 199 (.builtin "_frozen_importlib.BuiltinImporter.load_module#opaque"), kE P "__static_attributes__" 200 (.ref 15), kE P "__dict__" 202 (.ref 16), kE P "__weakref__" 204 (.ref 17)] 14, #[]⟩
noncomputable def oI14 : Obj := ⟨.type "type", none, .cls ⟨"BuiltinImporter", [.type "object"], [.ref 14, .type "object"], 13, "BuiltinImporter", true, [], [], false, none, false⟩, #[]⟩
noncomputable def oI16 : Obj := ⟨.type "getset_descriptor", none, .fields #[.str "__dict__" 201, .ref 14, .builtin "function.__dict__", .builtin "function.__dict__#set"], #[]⟩
noncomputable def oI17 : Obj := ⟨.type "getset_descriptor", none, .fields #[.str "__weakref__" 203, .ref 14, .builtin "ExceptionGroup.__weakref__", .none], #[]⟩
noncomputable def oI18 : Obj := ⟨.none, none, .seq #[.int 13 0, .str ⟨#[6, 189, 10, 95, 95, 109, 111, 100, 117, 108, 101, 95, 95, 6, 186, 17, 95, 102, 114, 111, 122, 101, 110, 95, 105, 109, 112, 111, 114, 116, 108, 105, 98, 6, 190, 15, 95, 95, 102, 105, 114, 115, 116, 108, 105, 110, 101, 110, 111, 95, 95, 4, 187, 0, 971, 6, 191, 7, 95, 95, 100, 111, 99, 95, 95, 9, 52, 95, 102, 114, 111, 122, 101, 110, 95, 105, 109, 112, 111, 114, 116, 108, 105, 98, 46, 66, 117, 105, 108, 116, 105, 110, 73, 109, 112, 111, 114, 116, 101, 114, 46, 95, 95, 100, 111, 99, 95, 95, 58, 115, 116, 114, 35, 111, 112, 97, 113, 117, 101, 6, 192, 7, 95, 79, 82, 73, 71, 73, 78, 6, 188, 8, 98, 117, 105, 108, 116, 45, 105, 110, 6, 193, 9, 102, 105, 110, 100, 95, 115, 112, 101, 99, 9, 50, 95, 102, 114, 111, 122, 101, 110, 95, 105, 109, 112, 111, 114, 116, 108, 105, 98, 46, 66, 117, 105, 108, 116, 105, 110, 73, 109, 112, 111, 114, 116, 101, 114, 46, 102, 105, 110, 100, 95, 115, 112, 101, 99, 35, 111, 112, 97, 113, 117, 101, 6, 194, 13, 99, 114, 101, 97, 116, 101, 95, 109, 111, 100, 117, 108, 101, 9, 54, 95, 102, 114, 111, 122, 101, 110, 95, 105, 109, 112, 111, 114, 116, 108, 105, 98, 46, 66, 117, 105, 108, 116, 105, 110, 73, 109, 112, 111, 114, 116, 101, 114, 46, 99, 114, 101, 97, 116, 101, 95, 109, 111, 100, 117, 108, 101, 35, 111, 112, 97, 113, 117, 101, 6, 195, 11, 101, 120, 101, 99, 95, 109, 111, 100, 117, 108, 101, 9, 52, 95, 102, 114, 111, 122, 101, 110, 95, 105, 109, 112, 111, 114, 116, 108, 105, 98, 46, 66, 117, 105, 108, 116, 105, 110, 73, 109, 112, 111, 114, 116, 101, 114, 46, 101, 120, 101, 99, 95, 109, 111, 100, 117, 108, 101, 35, 111, 112, 97, 113, 117, 101, 6, 196, 8, 103, 101, 116, 95, 99, 111, 100, 101, 9, 49, 95, 102, 114, 111, 122, 101, 110, 95, 105, 109, 112, 111, 114, 116, 108, 105, 98, 46, 66, 117, 105, 108, 116, 105, 110, 73, 109, 112, 111, 114, 116, 101, 114, 46, 103, 101, 116, 95, 99, 111, 100, 101, 35, 111, 112, 97, 113, 117, 101, 6, 197, 10, 103, 101, 116, 95, 115, 111, 117, 114, 99, 101, 9, 51, 95, 102, 114, 111, 122, 101, 110, 95, 105, 109, 112, 111, 114, 116, 108, 105, 98, 46, 66, 117, 105, 108, 116, 105, 110, 73, 109, 112, 111, 114, 116, 101, 114, 46, 103, 101, 116, 95, 115, 111, 117, 114, 99, 101, 35, 111, 112, 97, 113, 117, 101, 6, 198, 10, 105, 115, 95, 112, 97, 99, 107, 97, 103, 101, 9, 51, 95, 102, 114, 111, 122, 101, 110, 95, 105, 109, 112, 111, 114, 116, 108, 105, 98, 46, 66, 117, 105, 108, 116, 105, 110, 73, 109, 112, 111, 114, 116, 101, 114, 46, 105, 115, 95, 112, 97, 99, 107, 97, 103, 101, 35, 111, 112, 97, 113, 117, 101, 6, 199, 11, 108, 111, 97, 100, 95, 109, 111, 100, 117, 108, 101, 9, 52, 95, 102, 114, 111, 122, 101, 110, 95, 105, 109, 112, 111, 114, 116, 108, 105, 98, 46, 66, 117, 105, 108, 116, 105, 110, 73, 109, 112, 111, 114, 116, 101, 114, 46, 108, 111, 97, 100, 95, 109, 111, 100, 117, 108, 101, 35, 111, 112, 97, 113, 117, 101, 6, 200, 21, 95, 95, 115, 116, 97, 116, 105, 99, 95, 97, 116, 116, 114, 105, 98, 117, 116, 101, 115, 95, 95, 4, 0, 0, 15, 6, 202, 8, 95, 95, 100, 105, 99, 116, 95, 95, 4, 0, 0, 16, 6, 204, 11, 95, 95, 119, 101, 97, 107, 114, 101, 102, 95, 95, 4, 0, 0, 17]⟩ 0, .bool true, .bool true, .str "" 205, .int 21 0, .str ⟨#[6, 227, 10, 95, 95, 109, 111, 100, 117, 108, 101, 95, 95, 6, 217, 17, 95, 102, 114, 111, 122, 101, 110, 95, 105, 109, 112, 111, 114, 116, 108, 105, 98, 6, 228, 15, 95, 95, 102, 105, 114, 115, 116, 108, 105, 110, 101, 110, 111, 95, 95, 4, 218, 0, 562, 6, 229, 7, 95, 95, 100, 111, 99, 95, 95, 9, 47, 95, 102, 114, 111, 122, 101, 110, 95, 105, 109, 112, 111, 114, 116, 108, 105, 98, 46, 77, 111, 100, 117, 108, 101, 83, 112, 101, 99, 46, 95, 95, 100, 111, 99, 95, 95, 58, 115, 116, 114, 35, 111, 112, 97, 113, 117, 101, 6, 230, 8, 95, 95, 105, 110, 105, 116, 95, 95, 9, 44, 95, 102, 114, 111, 122, 101, 110, 95, 105, 109, 112, 111, 114, 116, 108, 105, 98, 46, 77, 111, 100, 117, 108, 101, 83, 112, 101, 99, 46, 95, 95, 105, 110, 105, 116, 95, 95, 35, 111, 112, 97, 113, 117, 101, 6, 231, 8, 95, 95, 114, 101, 112, 114, 95, 95, 9, 44, 95, 102, 114, 111, 122, 101, 110, 95, 105, 109, 112, 111, 114, 116, 108, 105, 98, 46, 77, 111, 100, 117, 108, 101, 83, 112, 101, 99, 46, 95, 95, 114, 101, 112, 114, 95, 95, 35, 111, 112, 97, 113, 117, 101, 6, 232, 6, 95, 95, 101, 113, 95, 95, 9, 42, 95, 102, 114, 111, 122, 101, 110, 95, 105, 109, 112, 111, 114, 116, 108, 105, 98, 46, 77, 111, 100, 117, 108, 101, 83, 112, 101, 99, 46, 95, 95, 101, 113, 95, 95, 35, 111, 112, 97, 113, 117, 101, 6, 233, 6, 99, 97, 99, 104, 101, 100, 9, 42, 95, 102, 114, 111, 122, 101, 110, 95, 105, 109, 112, 111, 114, 116, 108, 105, 98, 46, 77, 111, 100, 117, 108, 101, 83, 112, 101, 99, 46, 99, 97, 99, 104, 101, 100, 35, 111, 112, 97, 113, 117, 101, 6, 234, 6, 112, 97, 114, 101, 110, 116, 9, 42, 95, 102, 114, 111, 122, 101, 110, 95, 105, 109, 112, 111, 114, 116, 108, 105, 98, 46, 77, 111, 100, 117, 108, 101, 83, 112, 101, 99, 46, 112, 97, 114, 101, 110, 116, 35, 111, 112, 97, 113, 117, 101, 6, 235, 12, 104, 97, 115, 95, 108, 111, 99, 97, 116, 105, 111, 110, 9, 48, 95, 102, 114, 111, 122, 101, 110, 95, 105, 109, 112, 111, 114, 116, 108, 105, 98, 46, 77, 111, 100, 117, 108, 101, 83, 112, 101, 99, 46, 104, 97, 115, 95, 108, 111, 99, 97, 116, 105, 111, 110, 35, 111, 112, 97, 113, 117, 101, 6, 236, 21, 95, 95, 115, 116, 97, 116, 105, 99, 95, 97, 116, 116, 114, 105, 98, 117, 116, 101, 115, 95, 95, 4, 0, 0, 23, 6, 238, 8, 95, 95, 100, 105, 99, 116, 95, 95, 4, 0, 0, 24, 6, 240, 11, 95, 95, 119, 101, 97, 107, 114, 101, 102, 95, 95, 4, 0, 0, 25, 6, 241, 8, 95, 95, 104, 97, 115, 104, 95, 95, 0]⟩ 0, .bool true, .bool true, .str "" 242] 1, #[]⟩
noncomputable def oI19 : Obj := ⟨.type "list", none, .seq #[] 0, #[]⟩
noncomputable def oI20 (P : Params) : Obj := ⟨.type "dict", none, .dict #[kE P "name" 208 (.str "_sre" 207), kE P "loader" 209 (.ref 14), kE P "origin" 210 (.str "built-in" 184), kE P "loader_state" 211 .none, kE P "submodule_search_locations" 212 .none, kE P "_uninitialized_submodules" 213 (.ref 19), kE P "_set_fileattr" 214 (.bool false), kE P "_cached" 215 .none, kE P "_initializing" 243 (.bool false)] 9, #[]⟩
noncomputable def oI21 (P : Params) : Obj := ⟨.type "dict", none, .dict #[kE P "__module__" 227 (.str "_frozen_importlib" 217), kE P "__firstlineno__" 228 (.int 562 218), kE P "__doc__" 229 (.builtin "_frozen_importlib.ModuleSpec.__doc__:str#opaque"), kE P "__init__" 230 (.builtin "_frozen_importlib.ModuleSpec.__init__#opaque"), kE P "__repr__" 231 (.builtin "_frozen_importlib.ModuleSpec.__repr__#opaque"), kE P "__eq__" 232 (.builtin "_frozen_importlib.ModuleSpec.__eq__#opaque"), kE P "cached" 233 (.builtin "_frozen_importlib.ModuleSpec.cached#opaque"), kE P "parent" 234 (.builtin "_frozen_importlib.ModuleSpec.parent#opaque"), kE P "has_location" 235 (.builtin "_frozen_importlib.ModuleSpec.has_location#opaque"), kE P "__static_attributes__" 236 (.ref 23), kE P "__dict__" 238 (.ref 24), kE P "__weakref__" 240 (.ref 25), kE P "__hash__" 241 .none] 13, #[]⟩
noncomputable def oI22 : Obj := ⟨.type "type", none, .cls ⟨"ModuleSpec", [.type "object"], [.ref 22, .type "object"], 21, "ModuleSpec", true, [], [], false, none, false⟩, #[]⟩
noncomputable def oI23 : Obj := tO [.str "_cached" 219, .str "_set_fileattr" 220, .str "_uninitialized_submodules" 221, .str "loader" 222, .str "loader_state" 223, .str "name" 224, .str "origin" 225, .str "submodule_search_locations" 226]
noncomputable def oI24 : Obj := ⟨.type "getset_descriptor", none, .fields #[.str "__dict__" 237, .ref 22, .builtin "function.__dict__", .builtin "function.__dict__#set"], #[]⟩
noncomputable def oI25 : Obj := ⟨.type "getset_descriptor", none, .fields #[.str "__weakref__" 239, .ref 22, .builtin "ExceptionGroup.__weakref__", .none], #[]⟩
noncomputable def oI26 : Obj := ⟨.ref 22, some 20, .plain, #[]⟩
noncomputable def oI27 : Obj := ⟨.none, none, .seq #[.int 11 0, .str ⟨#[6, 247, 8, 95, 95, 110, 97, 109, 101, 95, 95, 6, 246, 4, 95, 115, 114, 101, 6, 248, 7, 95, 95, 100, 111, 99, 95, 95, 0, 6, 250, 11, 95, 95, 112, 97, 99, 107, 97, 103, 101, 95, 95, 6, 249, 0, 6, 251, 10, 95, 95, 108, 111, 97, 100, 101, 114, 95, 95, 4, 0, 0, 14, 6, 252, 8, 95, 95, 115, 112, 101, 99, 95, 95, 4, 0, 0, 26, 6, 253, 7, 99, 111, 109, 112, 105, 108, 101, 9, 12, 95, 115, 114, 101, 46, 99, 111, 109, 112, 105, 108, 101, 6, 254, 8, 116, 101, 109, 112, 108, 97, 116, 101, 9, 13, 95, 115, 114, 101, 46, 116, 101, 109, 112, 108, 97, 116, 101, 6, 255, 11, 103, 101, 116, 99, 111, 100, 101, 115, 105, 122, 101, 9, 16, 95, 115, 114, 101, 46, 103, 101, 116, 99, 111, 100, 101, 115, 105, 122, 101, 6, 256, 13, 97, 115, 99, 105, 105, 95, 105, 115, 99, 97, 115, 101, 100, 9, 18, 95, 115, 114, 101, 46, 97, 115, 99, 105, 105, 95, 105, 115, 99, 97, 115, 101, 100, 6, 257, 15, 117, 110, 105, 99, 111, 100, 101, 95, 105, 115, 99, 97, 115, 101, 100, 9, 20, 95, 115, 114, 101, 46, 117, 110, 105, 99, 111, 100, 101, 95, 105, 115, 99, 97, 115, 101, 100, 6, 258, 13, 97, 115, 99, 105, 105, 95, 116, 111, 108, 111, 119, 101, 114, 9, 18, 95, 115, 114, 101, 46, 97, 115, 99, 105, 105, 95, 116, 111, 108, 111, 119, 101, 114, 6, 259, 15, 117, 110, 105, 99, 111, 100, 101, 95, 116, 111, 108, 111, 119, 101, 114, 9, 20, 95, 115, 114, 101, 46, 117, 110, 105, 99, 111, 100, 101, 95, 116, 111, 108, 111, 119, 101, 114, 6, 261, 5, 77, 65, 71, 73, 67, 4, 260, 0, 20230612, 6, 263, 8, 67, 79, 68, 69, 83, 73, 90, 69, 4, 262, 0, 4, 6, 265, 9, 77, 65, 88, 82, 69, 80, 69, 65, 84, 4, 264, 0, 4294967295, 6, 267, 9, 77, 65, 88, 71, 82, 79, 85, 80, 83, 4, 266, 0, 1073741823, 6, 269, 9, 99, 111, 112, 121, 114, 105, 103, 104, 116, 6, 268, 53, 32, 83, 82, 69, 32, 50, 46, 50, 46, 50, 32, 67, 111, 112, 121, 114, 105, 103, 104, 116, 32, 40, 99, 41, 32, 49, 57, 57, 55, 45, 50, 48, 48, 50, 32, 98, 121, 32, 83, 101, 99, 114, 101, 116, 32, 76, 97, 98, 115, 32, 65, 66, 32]⟩ 0, .bool true, .bool false, .str "_sre" 271] 0, #[]⟩
noncomputable def osI (P : Params) : List Obj := [oI0 P, oI1 P, oI2 P, oI3 P, oI4, oI5, oI6, oI7, oI8, oI9, oI10, oI11 P, oI12, oI13 P, oI14, oI7, oI16, oI17, oI18, oI19, oI20 P, oI21 P, oI22, oI23, oI24, oI25, oI26, oI27]
noncomputable abbrev stI (w : World) (os : OsState) : SharedT := ⟨bt (osI w.params), 28, {}, #[], {}, 276, os⟩
noncomputable def oA11 (P : Params) : Obj := ⟨.type "dict", none, .dict #[kE P "__name__" 247 (.str "_sre" 246), kE P "__doc__" 248 .none, kE P "__package__" 250 (.str "" 249), kE P "__loader__" 251 (.builtin "off-the-table:_sre.__loader__:shared#opaque"), kE P "__spec__" 252 (.builtin "off-the-table:_sre.__spec__:shared#opaque"), kE P "compile" 253 (.builtin "_sre.compile"), kE P "template" 254 (.builtin "off-the-table:_sre.template:shared#opaque"), kE P "getcodesize" 255 (.builtin "off-the-table:_sre.getcodesize:shared#opaque"), kE P "ascii_iscased" 256 (.builtin "off-the-table:_sre.ascii_iscased:shared#opaque"), kE P "unicode_iscased" 257 (.builtin "off-the-table:_sre.unicode_iscased:shared#opaque"), kE P "ascii_tolower" 258 (.builtin "off-the-table:_sre.ascii_tolower:shared#opaque"), kE P "unicode_tolower" 259 (.builtin "off-the-table:_sre.unicode_tolower:shared#opaque"), kE P "MAGIC" 261 (.int 20230612 260), kE P "CODESIZE" 263 (.int 4 262), kE P "MAXREPEAT" 265 (.int 4294967295 264), kE P "MAXGROUPS" 267 (.int 1073741823 266), kE P "copyright" 269 (.str " SRE 2.2.2 Copyright (c) 1997-2002 by Secret Labs AB " 268)] 17, #[]⟩
noncomputable def osA (P : Params) : List Obj := [oI0 P, oI1 P, oI2 P, oI3 P, oI4, oI5, oI6, oI7, oI8, oI9, oI10, oA11 P, oI12, oI13 P, oI14, oI7, oI16, oI17, oI18, oI19, oI20 P, oI21 P, oI22, oI23, oI24, oI25, oI26, oI27]
noncomputable abbrev stA (w : World) (os : OsState) : SharedT := ⟨bt (osA w.params), 28, {}, #[], {}, 276, os⟩
noncomputable def oB30 : Obj := ⟨.type "code", none, .fields #[.str "<module>" 277, .str "<module>" 278, .str "/claim/cut.py" 279, .int 1 0, .int 0 0, .int 0 0, .int 0 0, .int 0 0, .ref 28, .bool false, .int 276 0, .ref 29, .none, .none, .none, .none, .int 280 0, .int 1 0, .str "/claim/cut.py" 281], #[]⟩
noncomputable def oB31 : Obj := ⟨.type "frame", none, .plain, #[some (.ref 30), some (.ref 3), some (.ref 3), none, some (.str "__main__" 164), none, some (.ref 0)]⟩
noncomputable def osB (P : Params) : List Obj := [oI0 P, oI1 P, oI2 P, oI3 P, oI4, oI5, oI6, oI7, oI8, oI9, oI10, oA11 P, oI12, oI13 P, oI14, oI7, oI16, oI17, oI18, oI19, oI20 P, oI21 P, oI22, oI23, oI24, oI25, oI26, oI27, oI7, oI8, oB30, oB31]
noncomputable abbrev stB (w : World) (os : OsState) : SharedT := ⟨bt (osB w.params), 32, {}, #[], {}, 282, os⟩
noncomputable def osC (P : Params) : List Obj := [oI0 P, oI1 P, oI2 P, oI3 P, oI4, oI5, oI6, oI7, oI8, oI9, oI10, oA11 P, oI12, oI13 P, oI14, oI7, oI16, oI17, oI18, oI19, oI20 P, oI21 P, oI22, oI23, oI24, oI25, oI26, oI27, oI7, oI8, oB30, oB31]
noncomputable abbrev stC (w : World) (os : OsState) : SharedT := ⟨bt (osC w.params), 32, {}, #[], {}, 282, os⟩
noncomputable def oD3 (P : Params) : Obj := ⟨.type "dict", none, .dict #[kE P "__name__" 165 (.str "cpy313.smtplib" 346), kE P "__doc__" 166 .none, kE P "__package__" 167 .none, kE P "__loader__" 168 (.builtin "__main__.__loader__#opaque"), kE P "__spec__" 169 .none, kE P "__annotations__" 170 (.ref 6), kE P "__builtins__" 171 (.ref 4), kE P "__file__" 173 (.str "/claim/cut.py" 172), kE P "__cached__" 174 .none, kE P "_sre" 275 (.ref 12), kE P "TupleComp" 325 (.ref 55), kE P "add_callers" 336 (.ref 66), kE P "count_calls" 345 (.ref 73), kE P "_twin_re_1" 363 (.ref 78), kE P "_twin_re_2" 379 (.ref 83), kE P "_twin_re_3" 421 (.ref 88)] 16, #[]⟩
noncomputable def oD29 : Obj := ⟨.none, none, .fields #[.int 3 0, .int 0 0, .ref 37, .int 17 0, .int 0 0, .ref 65, .int 30 0, .int 0 0, .ref 72], #[]⟩
noncomputable def oD33 : Obj := ⟨.type "builtin_function_or_method", none, .fields #[.builtin "type.__prepare__", .type "type"], #[]⟩
noncomputable def oD34 (P : Params) : Obj := ⟨.type "dict", none, .dict #[kE P "__module__" 291 (.str "cpy313.pstats" 282), kE P "__qualname__" 293 (.str "TupleComp" 292), kE P "__firstlineno__" 295 (.int 3 294), kE P "__init__" 303 (.ref 45), kE P "compare" 316 (.ref 52), kE P "__static_attributes__" 318 (.ref 53)] 6, #[]⟩
noncomputable def oD36 : Obj := ⟨.none, none, .fields #[.int 5 0, .int 4 0, .ref 44, .int 8 0, .int 4 0, .ref 51], #[]⟩
noncomputable def oD37 : Obj := ⟨.type "code", none, .fields #[.str "TupleComp" 286, .str "TupleComp" 287, .str "/claim/cut.py" 288, .int 3 0, .int 0 0, .int 0 0, .int 0 0, .int 0 0, .ref 35, .bool false, .int 276 0, .ref 36, .none, .none, .none, .none, .int 289 0, .int 3 0, .str "/claim/cut.py" 290], #[]⟩
noncomputable def oD38 : Obj := ⟨.type "frame", none, .plain, #[some (.ref 37), some (.ref 3), some (.ref 34), none, some (.str "cpy313.pstats" 282), none, some (.ref 0)]⟩
noncomputable def oD41 : Obj := tO [.str "self" 299, .str "comp_select_list" 300]
noncomputable def oD43 : Obj := ⟨.none, none, .func (defZ "TupleComp.__init__" "__init__" (mParams 0) (mBody 0) (mScope 0)), #[]⟩
noncomputable def oD44 : Obj := cO "__init__" 296 "TupleComp.__init__" 297 298 5 2 3 39 276 40 41 42 43 301 5 302
noncomputable def oD45 : Obj := ⟨.type "function", none, .func (defQ "TupleComp.__init__" "__init__" (mParams 0) (mBody 0) (mScope 0) (.str "cpy313.pstats" 282) (.ref 44) .none), #[]⟩
noncomputable def oD48 : Obj := tO [.str "self" 307, .str "left" 308, .str "right" 309, .str "index" 310, .str "direction" 311, .str "l" 312, .str "r" 313]
noncomputable def oD50 : Obj := ⟨.none, none, .func (defZ "TupleComp.compare" "compare" (mParams 1) (mBody 1) (mScope 1)), #[]⟩
noncomputable def oD51 : Obj := cO "compare" 304 "TupleComp.compare" 305 306 8 3 3 46 276 47 48 49 50 314 8 315
noncomputable def oD52 : Obj := ⟨.type "function", none, .func (defQ "TupleComp.compare" "compare" (mParams 1) (mBody 1) (mScope 1) (.str "cpy313.pstats" 282) (.ref 51) .none), #[]⟩
noncomputable def oD53 : Obj := tO [.str "comp_select_list" 317]
noncomputable def oD54 (P : Params) : Obj := ⟨.type "dict", none, .dict #[kE P "__module__" 291 (.str "cpy313.pstats" 282), kE P "__firstlineno__" 295 (.int 3 294), kE P "__init__" 303 (.ref 45), kE P "compare" 316 (.ref 52), kE P "__static_attributes__" 318 (.ref 53), kE P "__dict__" 320 (.ref 56), kE P "__weakref__" 322 (.ref 57), kE P "__doc__" 323 .none] 4, #[]⟩
noncomputable def oD55 : Obj := ⟨.type "type", none, .cls ⟨"TupleComp", [.type "object"], [.ref 55, .type "object"], 54, "TupleComp", true, [], [], false, none, false⟩, #[none, none, some (.str "TupleComp" 284), some (.str "TupleComp" 292), some (.builtin "object.__new__"), some (.bool true)]⟩
noncomputable def oD56 : Obj := ⟨.type "getset_descriptor", none, .fields #[.str "__dict__" 319, .ref 55, .builtin "function.__dict__", .builtin "function.__dict__#set"], #[]⟩
noncomputable def oD57 : Obj := ⟨.type "getset_descriptor", none, .fields #[.str "__weakref__" 321, .ref 55, .builtin "ExceptionGroup.__weakref__", .none], #[]⟩
noncomputable def oD58 : Obj := ⟨.type "super", none, .fields #[.ref 55, .ref 55, .ref 55], #[]⟩
noncomputable def oD59 : Obj := ⟨.type "builtin_function_or_method", none, .fields #[.builtin "object.__init_subclass__", .ref 55], #[]⟩
noncomputable def oD62 : Obj := tO [.str "target" 329, .str "source" 330, .str "new_callers" 331, .str "func" 332, .str "caller" 333]
noncomputable def oD64 : Obj := zO "add_callers" 3
noncomputable def oD65 : Obj := cO "add_callers" 326 "add_callers" 327 328 17 2 3 60 276 61 62 63 64 334 17 335
noncomputable def oD66 : Obj := fO "add_callers" 3 "cpy313.pstats" 282 65
noncomputable def oD69 : Obj := tO [.str "callers" 340, .str "nc" 341, .str "calls" 342]
noncomputable def oD71 : Obj := zO "count_calls" 4
noncomputable def oD72 : Obj := cO "count_calls" 337 "count_calls" 338 339 30 1 3 67 276 68 69 70 71 343 30 344
noncomputable def oD73 : Obj := fO "count_calls" 4 "cpy313.pstats" 282 72
noncomputable def oD74 : Obj := ⟨.type "list", none, .seq #[.int 14 351, .int 4 352, .int 0 353, .int 1 354, .int 1 355, .int 6 356, .int 1 357, .int 16 358, .int 46 359, .int 1 360] 0, #[]⟩
noncomputable def oD76 : Obj := tO [.none]
noncomputable def oD77 : Obj := tO [.int 14 0, .int 4 0, .int 0 0, .int 1 0, .int 1 0, .int 6 0, .int 1 0, .int 16 0, .int 46 0, .int 1 0]
noncomputable def oD78 : Obj := ⟨.type "re.Pattern", none, .fields #[.str "(?m)^\\." 349, .int 40 362, .int 0 0, .none, .none, .ref 77, .int 0 0], #[]⟩
noncomputable def oD79 : Obj := ⟨.type "list", none, .seq #[.int 14 367, .int 4 368, .int 0 369, .int 1 370, .int 1 371, .int 6 372, .int 1 373, .int 16 374, .int 46 375, .int 1 376] 0, #[]⟩
noncomputable def oD83 : Obj := ⟨.type "re.Pattern", none, .fields #[.bytes #[40, 63, 109, 41, 94, 92, 46] 365, .int 8 378, .int 0 0, .none, .none, .ref 82, .int 1 0], #[]⟩
noncomputable def oD84 : Obj := ⟨.type "list", none, .seq #[.int 14 383, .int 9 384, .int 4 385, .int 1 386, .int 2 387, .int 16 388, .int 10 389, .int 16 390, .int 13 391, .int 0 392, .int 7 393, .int 7 394, .int 16 395, .int 13 396, .int 16 397, .int 10 398, .int 15 399, .int 18 400, .int 5 401, .int 16 402, .int 10 403, .int 15 404, .int 13 405, .int 11 406, .int 16 407, .int 13 408, .int 5 409, .int 5 410, .int 0 411, .int 16 412, .int 10 413, .int 1 414, .int 15 415, .int 2 416, .int 0 417, .int 1 418] 0, #[]⟩
noncomputable def oD87 : Obj := tO [.int 14 0, .int 9 0, .int 4 0, .int 1 0, .int 2 0, .int 16 0, .int 10 0, .int 16 0, .int 13 0, .int 0 0, .int 7 0, .int 7 0, .int 16 0, .int 13 0, .int 16 0, .int 10 0, .int 15 0, .int 18 0, .int 5 0, .int 16 0, .int 10 0, .int 15 0, .int 13 0, .int 11 0, .int 16 0, .int 13 0, .int 5 0, .int 5 0, .int 0 0, .int 16 0, .int 10 0, .int 1 0, .int 15 0, .int 2 0, .int 0 0, .int 1 0]
noncomputable def oD88 : Obj := ⟨.type "re.Pattern", none, .fields #[.str "(?:\\r\\n|\\n|\\r(?!\\n))" 381, .int 32 420, .int 0 0, .none, .none, .ref 87, .int 0 0], #[]⟩
noncomputable def osD (P : Params) : List Obj := [oI0 P, oI1 P, oI2 P, oD3 P, oI4, oI5, oI6, oI7, oI8, oI9, oI10, oA11 P, oI12, oI13 P, oI14, oI7, oI16, oI17, oI18, oI19, oI20 P, oI21 P, oI22, oI23, oI24, oI25, oI26, oI27, oI7, oD29, oB30, oB31, oI7, oD33, oD34 P, oI7, oD36, oD37, oD38, oI7, oI8, oD41, oI7, oD43, oD44, oD45, oI7, oI8, oD48, oI7, oD50, oD51, oD52, oD53, oD54 P, oD55, oD56, oD57, oD58, oD59, oI7, oI8, oD62, oI7, oD64, oD65, oD66, oI7, oI8, oD69, oI7, oD71, oD72, oD73, oD74, oI6, oD76, oD77, oD78, oD79, oI6, oD76, oD77, oD83, oD84, oI6, oD76, oD87, oD88]
noncomputable abbrev stD (w : World) (os : OsState) : SharedT := ⟨bt (osD w.params), 89, {}, #[], {}, 422, os⟩
noncomputable def oE3 (P : Params) : Obj := ⟨.type "dict", none, .dict #[kE P "__name__" 165 (.str "cpy313.token" 445), kE P "__doc__" 166 .none, kE P "__package__" 167 .none, kE P "__loader__" 168 (.builtin "__main__.__loader__#opaque"), kE P "__spec__" 169 .none, kE P "__annotations__" 170 (.ref 6), kE P "__builtins__" 171 (.ref 4), kE P "__file__" 173 (.str "/claim/cut.py" 172), kE P "__cached__" 174 .none, kE P "_sre" 275 (.ref 12), kE P "TupleComp" 325 (.ref 55), kE P "add_callers" 336 (.ref 66), kE P "count_calls" 345 (.ref 73), kE P "_twin_re_1" 363 (.ref 78), kE P "_twin_re_2" 379 (.ref 83), kE P "_twin_re_3" 421 (.ref 88), kE P "CRLF" 423 (.str "\r\n" 422), kE P "quotedata" 430 (.ref 95), kE P "_quote_periods" 437 (.ref 102), kE P "_fix_eols" 444 (.ref 109), kE P "ENDMARKER" 448 (.int 0 447), kE P "LPAR" 450 (.int 7 449), kE P "RPAR" 452 (.int 8 451), kE P "LSQB" 454 (.int 9 453), kE P "RSQB" 456 (.int 10 455), kE P "COLON" 458 (.int 11 457), kE P "COMMA" 460 (.int 12 459), kE P "SEMI" 462 (.int 13 461), kE P "PLUS" 464 (.int 14 463), kE P "MINUS" 466 (.int 15 465), kE P "STAR" 468 (.int 16 467), kE P "SLASH" 470 (.int 17 469), kE P "VBAR" 472 (.int 18 471), kE P "AMPER" 474 (.int 19 473), kE P "LESS" 476 (.int 20 475), kE P "GREATER" 478 (.int 21 477), kE P "EQUAL" 480 (.int 22 479), kE P "DOT" 482 (.int 23 481), kE P "PERCENT" 484 (.int 24 483), kE P "LBRACE" 486 (.int 25 485), kE P "RBRACE" 488 (.int 26 487), kE P "EQEQUAL" 490 (.int 27 489), kE P "NOTEQUAL" 492 (.int 28 491), kE P "LESSEQUAL" 494 (.int 29 493), kE P "GREATEREQUAL" 496 (.int 30 495), kE P "TILDE" 498 (.int 31 497), kE P "CIRCUMFLEX" 500 (.int 32 499), kE P "LEFTSHIFT" 502 (.int 33 501), kE P "RIGHTSHIFT" 504 (.int 34 503), kE P "DOUBLESTAR" 506 (.int 35 505), kE P "PLUSEQUAL" 508 (.int 36 507), kE P "MINEQUAL" 510 (.int 37 509), kE P "STAREQUAL" 512 (.int 38 511), kE P "SLASHEQUAL" 514 (.int 39 513), kE P "PERCENTEQUAL" 516 (.int 40 515), kE P "AMPEREQUAL" 518 (.int 41 517), kE P "VBAREQUAL" 520 (.int 42 519), kE P "CIRCUMFLEXEQUAL" 522 (.int 43 521), kE P "LEFTSHIFTEQUAL" 524 (.int 44 523), kE P "RIGHTSHIFTEQUAL" 526 (.int 45 525), kE P "DOUBLESTAREQUAL" 528 (.int 46 527), kE P "DOUBLESLASH" 530 (.int 47 529), kE P "DOUBLESLASHEQUAL" 532 (.int 48 531), kE P "AT" 534 (.int 49 533), kE P "ATEQUAL" 536 (.int 50 535), kE P "RARROW" 538 (.int 51 537), kE P "ELLIPSIS" 540 (.int 52 539), kE P "COLONEQUAL" 542 (.int 53 541), kE P "EXCLAMATION" 544 (.int 54 543), kE P "NT_OFFSET" 546 (.int 256 545)] 70, #[]⟩
noncomputable def oE29 : Obj := ⟨.none, none, .fields #[.int 3 0, .int 0 0, .ref 37, .int 17 0, .int 0 0, .ref 65, .int 30 0, .int 0 0, .ref 72, .int 40 0, .int 0 0, .ref 94, .int 42 0, .int 0 0, .ref 101, .int 44 0, .int 0 0, .ref 108], #[]⟩
noncomputable def oE91 : Obj := tO [.str "data" 427]
noncomputable def oE93 : Obj := zO "quotedata" 10
noncomputable def oE94 : Obj := cO "quotedata" 424 "quotedata" 425 426 40 1 3 89 276 90 91 92 93 428 40 429
noncomputable def oE95 : Obj := fO "quotedata" 10 "cpy313.smtplib" 346 94
noncomputable def oE98 : Obj := tO [.str "bindata" 434]
noncomputable def oE100 : Obj := zO "_quote_periods" 11
noncomputable def oE101 : Obj := cO "_quote_periods" 431 "_quote_periods" 432 433 42 1 3 96 276 97 98 99 100 435 42 436
noncomputable def oE102 : Obj := fO "_quote_periods" 11 "cpy313.smtplib" 346 101
noncomputable def oE105 : Obj := tO [.str "data" 441]
noncomputable def oE107 : Obj := zO "_fix_eols" 12
noncomputable def oE108 : Obj := cO "_fix_eols" 438 "_fix_eols" 439 440 44 1 3 103 276 104 105 106 107 442 44 443
noncomputable def oE109 : Obj := fO "_fix_eols" 12 "cpy313.smtplib" 346 108
noncomputable def osE (P : Params) : List Obj := [oI0 P, oI1 P, oI2 P, oE3 P, oI4, oI5, oI6, oI7, oI8, oI9, oI10, oA11 P, oI12, oI13 P, oI14, oI7, oI16, oI17, oI18, oI19, oI20 P, oI21 P, oI22, oI23, oI24, oI25, oI26, oI27, oI7, oE29, oB30, oB31, oI7, oD33, oD34 P, oI7, oD36, oD37, oD38, oI7, oI8, oD41, oI7, oD43, oD44, oD45, oI7, oI8, oD48, oI7, oD50, oD51, oD52, oD53, oD54 P, oD55, oD56, oD57, oD58, oD59, oI7, oI8, oD62, oI7, oD64, oD65, oD66, oI7, oI8, oD69, oI7, oD71, oD72, oD73, oD74, oI6, oD76, oD77, oD78, oD79, oI6, oD76, oD77, oD83, oD84, oI6, oD76, oD87, oD88, oI7, oI8, oE91, oI7, oE93, oE94, oE95, oI7, oI8, oE98, oI7, oE100, oE101, oE102, oI7, oI8, oE105, oI7, oE107, oE108, oE109]
noncomputable abbrev stE (w : World) (os : OsState) : SharedT := ⟨bt (osE w.params), 110, {}, #[], {}, 547, os⟩
noncomputable def oG3 (P : Params) : Obj := ⟨.type "dict", none, .dict #[kE P "__name__" 165 (.str "cpy313.token" 445), kE P "__doc__" 166 .none, kE P "__package__" 167 .none, kE P "__loader__" 168 (.builtin "__main__.__loader__#opaque"), kE P "__spec__" 169 .none, kE P "__annotations__" 170 (.ref 6), kE P "__builtins__" 171 (.ref 4), kE P "__file__" 173 (.str "/claim/cut.py" 172), kE P "__cached__" 174 .none, kE P "_sre" 275 (.ref 12), kE P "TupleComp" 325 (.ref 55), kE P "add_callers" 336 (.ref 66), kE P "count_calls" 345 (.ref 73), kE P "_twin_re_1" 363 (.ref 78), kE P "_twin_re_2" 379 (.ref 83), kE P "_twin_re_3" 421 (.ref 88), kE P "CRLF" 423 (.str "\r\n" 422), kE P "quotedata" 430 (.ref 95), kE P "_quote_periods" 437 (.ref 102), kE P "_fix_eols" 444 (.ref 109), kE P "ENDMARKER" 448 (.int 0 447), kE P "LPAR" 450 (.int 7 449), kE P "RPAR" 452 (.int 8 451), kE P "LSQB" 454 (.int 9 453), kE P "RSQB" 456 (.int 10 455), kE P "COLON" 458 (.int 11 457), kE P "COMMA" 460 (.int 12 459), kE P "SEMI" 462 (.int 13 461), kE P "PLUS" 464 (.int 14 463), kE P "MINUS" 466 (.int 15 465), kE P "STAR" 468 (.int 16 467), kE P "SLASH" 470 (.int 17 469), kE P "VBAR" 472 (.int 18 471), kE P "AMPER" 474 (.int 19 473), kE P "LESS" 476 (.int 20 475), kE P "GREATER" 478 (.int 21 477), kE P "EQUAL" 480 (.int 22 479), kE P "DOT" 482 (.int 23 481), kE P "PERCENT" 484 (.int 24 483), kE P "LBRACE" 486 (.int 25 485), kE P "RBRACE" 488 (.int 26 487), kE P "EQEQUAL" 490 (.int 27 489), kE P "NOTEQUAL" 492 (.int 28 491), kE P "LESSEQUAL" 494 (.int 29 493), kE P "GREATEREQUAL" 496 (.int 30 495), kE P "TILDE" 498 (.int 31 497), kE P "CIRCUMFLEX" 500 (.int 32 499), kE P "LEFTSHIFT" 502 (.int 33 501), kE P "RIGHTSHIFT" 504 (.int 34 503), kE P "DOUBLESTAR" 506 (.int 35 505), kE P "PLUSEQUAL" 508 (.int 36 507), kE P "MINEQUAL" 510 (.int 37 509), kE P "STAREQUAL" 512 (.int 38 511), kE P "SLASHEQUAL" 514 (.int 39 513), kE P "PERCENTEQUAL" 516 (.int 40 515), kE P "AMPEREQUAL" 518 (.int 41 517), kE P "VBAREQUAL" 520 (.int 42 519), kE P "CIRCUMFLEXEQUAL" 522 (.int 43 521), kE P "LEFTSHIFTEQUAL" 524 (.int 44 523), kE P "RIGHTSHIFTEQUAL" 526 (.int 45 525), kE P "DOUBLESTAREQUAL" 528 (.int 46 527), kE P "DOUBLESLASH" 530 (.int 47 529), kE P "DOUBLESLASHEQUAL" 532 (.int 48 531), kE P "AT" 534 (.int 49 533), kE P "ATEQUAL" 536 (.int 50 535), kE P "RARROW" 538 (.int 51 537), kE P "ELLIPSIS" 540 (.int 52 539), kE P "COLONEQUAL" 542 (.int 53 541), kE P "EXCLAMATION" 544 (.int 54 543), kE P "NT_OFFSET" 546 (.int 256 545), kE P "EXACT_TOKEN_TYPES" 643 (.ref 110)] 71, #[]⟩
noncomputable def oG110 (P : Params) : Obj := ⟨.type "dict", none, .dict #[kE P "!" 547 (.int 54 543), kE P "!=" 549 (.int 28 491), kE P "%" 551 (.int 24 483), kE P "%=" 553 (.int 40 515), kE P "&" 555 (.int 19 473), kE P "&=" 557 (.int 41 517), kE P "(" 559 (.int 7 449), kE P ")" 561 (.int 8 451), kE P "*" 563 (.int 16 467), kE P "**" 565 (.int 35 505), kE P "**=" 567 (.int 46 527), kE P "*=" 569 (.int 38 511), kE P "+" 571 (.int 14 463), kE P "+=" 573 (.int 36 507), kE P "," 575 (.int 12 459), kE P "-" 577 (.int 15 465), kE P "-=" 579 (.int 37 509), kE P "->" 581 (.int 51 537), kE P "." 583 (.int 23 481), kE P "..." 585 (.int 52 539), kE P "/" 587 (.int 17 469), kE P "//" 589 (.int 47 529), kE P "//=" 591 (.int 48 531), kE P "/=" 593 (.int 39 513), kE P ":" 595 (.int 11 457), kE P ":=" 597 (.int 53 541), kE P ";" 599 (.int 13 461), kE P "<" 601 (.int 20 475), kE P "<<" 603 (.int 33 501), kE P "<<=" 605 (.int 44 523), kE P "<=" 607 (.int 29 493), kE P "=" 609 (.int 22 479), kE P "==" 611 (.int 27 489), kE P ">" 613 (.int 21 477), kE P ">=" 615 (.int 30 495), kE P ">>" 616 (.int 34 503), kE P ">>=" 617 (.int 45 525), kE P "@" 618 (.int 49 533), kE P "@=" 619 (.int 50 535), kE P "[" 620 (.int 9 453), kE P "]" 621 (.int 10 455), kE P "^" 622 (.int 32 499), kE P "^=" 623 (.int 43 521), kE P "{" 624 (.int 25 485), kE P "|" 625 (.int 18 471), kE P "|=" 626 (.int 42 519), kE P "}" 627 (.int 26 487), kE P "~" 628 (.int 31 497)] 48, #[]⟩
noncomputable def oG111 (P : Params) : Obj := ⟨.type "dict", none, .dict #[kE P "->" 581 (.int 51 537), kE P "." 583 (.int 23 481), kE P "..." 585 (.int 52 539), kE P "/" 587 (.int 17 469), kE P "//" 589 (.int 47 529), kE P "//=" 591 (.int 48 531), kE P "/=" 593 (.int 39 513), kE P ":" 595 (.int 11 457), kE P ":=" 597 (.int 53 541), kE P ";" 599 (.int 13 461), kE P "<" 601 (.int 20 475), kE P "<<" 603 (.int 33 501), kE P "<<=" 605 (.int 44 523), kE P "<=" 607 (.int 29 493), kE P "=" 609 (.int 22 479), kE P "==" 611 (.int 27 489), kE P ">" 613 (.int 21 477)] 17, #[]⟩
noncomputable def oG112 (P : Params) : Obj := ⟨.type "dict", none, .dict #[kE P ">=" 615 (.int 30 495), kE P ">>" 616 (.int 34 503), kE P ">>=" 617 (.int 45 525), kE P "@" 618 (.int 49 533), kE P "@=" 619 (.int 50 535), kE P "[" 620 (.int 9 453), kE P "]" 621 (.int 10 455), kE P "^" 622 (.int 32 499), kE P "^=" 623 (.int 43 521), kE P "{" 624 (.int 25 485), kE P "|" 625 (.int 18 471), kE P "|=" 626 (.int 42 519), kE P "}" 627 (.int 26 487), kE P "~" 628 (.int 31 497)] 14, #[]⟩
noncomputable def osG (P : Params) : List Obj := [oI0 P, oI1 P, oI2 P, oG3 P, oI4, oI5, oI6, oI7, oI8, oI9, oI10, oA11 P, oI12, oI13 P, oI14, oI7, oI16, oI17, oI18, oI19, oI20 P, oI21 P, oI22, oI23, oI24, oI25, oI26, oI27, oI7, oE29, oB30, oB31, oI7, oD33, oD34 P, oI7, oD36, oD37, oD38, oI7, oI8, oD41, oI7, oD43, oD44, oD45, oI7, oI8, oD48, oI7, oD50, oD51, oD52, oD53, oD54 P, oD55, oD56, oD57, oD58, oD59, oI7, oI8, oD62, oI7, oD64, oD65, oD66, oI7, oI8, oD69, oI7, oD71, oD72, oD73, oD74, oI6, oD76, oD77, oD78, oD79, oI6, oD76, oD77, oD83, oD84, oI6, oD76, oD87, oD88, oI7, oI8, oE91, oI7, oE93, oE94, oE95, oI7, oI8, oE98, oI7, oE100, oE101, oE102, oI7, oI8, oE105, oI7, oE107, oE108, oE109, oG110 P, oG111 P, oG112 P]
noncomputable abbrev stG (w : World) (os : OsState) : SharedT := ⟨bt (osG w.params), 113, {}, #[], {}, 644, os⟩
noncomputable def oH3 (P : Params) : Obj := ⟨.type "dict", none, .dict #[kE P "__name__" 165 (.str "law_wz0007_01" 665), kE P "__doc__" 166 .none, kE P "__package__" 167 .none, kE P "__loader__" 168 (.builtin "__main__.__loader__#opaque"), kE P "__spec__" 169 .none, kE P "__annotations__" 170 (.ref 6), kE P "__builtins__" 171 (.ref 4), kE P "__file__" 173 (.str "/claim/cut.py" 172), kE P "__cached__" 174 .none, kE P "_sre" 275 (.ref 12), kE P "TupleComp" 325 (.ref 55), kE P "add_callers" 336 (.ref 66), kE P "count_calls" 345 (.ref 73), kE P "_twin_re_1" 363 (.ref 78), kE P "_twin_re_2" 379 (.ref 83), kE P "_twin_re_3" 421 (.ref 88), kE P "CRLF" 423 (.str "\r\n" 422), kE P "quotedata" 430 (.ref 95), kE P "_quote_periods" 437 (.ref 102), kE P "_fix_eols" 444 (.ref 109), kE P "ENDMARKER" 448 (.int 0 447), kE P "LPAR" 450 (.int 7 449), kE P "RPAR" 452 (.int 8 451), kE P "LSQB" 454 (.int 9 453), kE P "RSQB" 456 (.int 10 455), kE P "COLON" 458 (.int 11 457), kE P "COMMA" 460 (.int 12 459), kE P "SEMI" 462 (.int 13 461), kE P "PLUS" 464 (.int 14 463), kE P "MINUS" 466 (.int 15 465), kE P "STAR" 468 (.int 16 467), kE P "SLASH" 470 (.int 17 469), kE P "VBAR" 472 (.int 18 471), kE P "AMPER" 474 (.int 19 473), kE P "LESS" 476 (.int 20 475), kE P "GREATER" 478 (.int 21 477), kE P "EQUAL" 480 (.int 22 479), kE P "DOT" 482 (.int 23 481), kE P "PERCENT" 484 (.int 24 483), kE P "LBRACE" 486 (.int 25 485), kE P "RBRACE" 488 (.int 26 487), kE P "EQEQUAL" 490 (.int 27 489), kE P "NOTEQUAL" 492 (.int 28 491), kE P "LESSEQUAL" 494 (.int 29 493), kE P "GREATEREQUAL" 496 (.int 30 495), kE P "TILDE" 498 (.int 31 497), kE P "CIRCUMFLEX" 500 (.int 32 499), kE P "LEFTSHIFT" 502 (.int 33 501), kE P "RIGHTSHIFT" 504 (.int 34 503), kE P "DOUBLESTAR" 506 (.int 35 505), kE P "PLUSEQUAL" 508 (.int 36 507), kE P "MINEQUAL" 510 (.int 37 509), kE P "STAREQUAL" 512 (.int 38 511), kE P "SLASHEQUAL" 514 (.int 39 513), kE P "PERCENTEQUAL" 516 (.int 40 515), kE P "AMPEREQUAL" 518 (.int 41 517), kE P "VBAREQUAL" 520 (.int 42 519), kE P "CIRCUMFLEXEQUAL" 522 (.int 43 521), kE P "LEFTSHIFTEQUAL" 524 (.int 44 523), kE P "RIGHTSHIFTEQUAL" 526 (.int 45 525), kE P "DOUBLESTAREQUAL" 528 (.int 46 527), kE P "DOUBLESLASH" 530 (.int 47 529), kE P "DOUBLESLASHEQUAL" 532 (.int 48 531), kE P "AT" 534 (.int 49 533), kE P "ATEQUAL" 536 (.int 50 535), kE P "RARROW" 538 (.int 51 537), kE P "ELLIPSIS" 540 (.int 52 539), kE P "COLONEQUAL" 542 (.int 53 541), kE P "EXCLAMATION" 544 (.int 54 543), kE P "NT_OFFSET" 546 (.int 256 545), kE P "EXACT_TOKEN_TYPES" 643 (.ref 110), kE P "ISTERMINAL" 650 (.ref 119), kE P "ISNONTERMINAL" 657 (.ref 126), kE P "ISEOF" 664 (.ref 133), kE P "_law_cut" 672 (.ref 138), kE P "_law_levels" 678 (.ref 143), kE P "_law_added" 684 (.ref 148), kE P "_law_lives" 690 (.ref 153), kE P "_law_fewest" 696 (.ref 158), kE P "law" 702 (.ref 163)] 80, #[]⟩
noncomputable def oH29 : Obj := ⟨.none, none, .fields #[.int 3 0, .int 0 0, .ref 37, .int 17 0, .int 0 0, .ref 65, .int 30 0, .int 0 0, .ref 72, .int 40 0, .int 0 0, .ref 94, .int 42 0, .int 0 0, .ref 101, .int 44 0, .int 0 0, .ref 108, .int 98 0, .int 0 0, .ref 118, .int 100 0, .int 0 0, .ref 125, .int 102 0, .int 0 0, .ref 132, .int 105 0, .int 0 0, .ref 137, .int 112 0, .int 0 0, .ref 142, .int 122 0, .int 0 0, .ref 147, .int 128 0, .int 0 0, .ref 152, .int 154 0, .int 0 0, .ref 157, .int 166 0, .int 0 0, .ref 162], #[]⟩
noncomputable def oH115 : Obj := tO [.str "x" 647]
noncomputable def oH117 : Obj := zO "ISTERMINAL" 65
noncomputable def oH118 : Obj := cO "ISTERMINAL" 644 "ISTERMINAL" 645 646 98 1 3 113 276 114 115 116 117 648 98 649
noncomputable def oH119 : Obj := fO "ISTERMINAL" 65 "cpy313.token" 445 118
noncomputable def oH122 : Obj := tO [.str "x" 654]
noncomputable def oH124 : Obj := zO "ISNONTERMINAL" 66
noncomputable def oH125 : Obj := cO "ISNONTERMINAL" 651 "ISNONTERMINAL" 652 653 100 1 3 120 276 121 122 123 124 655 100 656
noncomputable def oH126 : Obj := fO "ISNONTERMINAL" 66 "cpy313.token" 445 125
noncomputable def oH129 : Obj := tO [.str "x" 661]
noncomputable def oH131 : Obj := zO "ISEOF" 67
noncomputable def oH132 : Obj := cO "ISEOF" 658 "ISEOF" 659 660 102 1 3 127 276 128 129 130 131 662 102 663
noncomputable def oH133 : Obj := fO "ISEOF" 67 "cpy313.token" 445 132
noncomputable def oH136 : Obj := zO "_law_cut" 69
noncomputable def oH137 : Obj := ⟨.type "code", none, .fields #[.str "_law_cut" 667, .str "_law_cut" 668, .str "/claim/cut.py" 669, .int 105 0, .int 2 0, .int 0 0, .int 0 0, .int 3 0, .ref 134, .bool true, .int 276 0, .ref 135, .none, .none, .none, .ref 136, .int 670 0, .int 105 0, .str "/claim/cut.py" 671], #[]⟩
noncomputable def oH138 : Obj := fO "_law_cut" 69 "law_wz0007_01" 665 137
noncomputable def oH141 : Obj := zO "_law_levels" 70
noncomputable def oH142 : Obj := ⟨.type "code", none, .fields #[.str "_law_levels" 673, .str "_law_levels" 674, .str "/claim/cut.py" 675, .int 112 0, .int 2 0, .int 0 0, .int 0 0, .int 3 0, .ref 139, .bool true, .int 276 0, .ref 140, .none, .none, .none, .ref 141, .int 676 0, .int 112 0, .str "/claim/cut.py" 677], #[]⟩
noncomputable def oH143 : Obj := fO "_law_levels" 70 "law_wz0007_01" 665 142
noncomputable def oH146 : Obj := zO "_law_added" 71
noncomputable def oH147 : Obj := ⟨.type "code", none, .fields #[.str "_law_added" 679, .str "_law_added" 680, .str "/claim/cut.py" 681, .int 122 0, .int 3 0, .int 0 0, .int 0 0, .int 3 0, .ref 144, .bool true, .int 276 0, .ref 145, .none, .none, .none, .ref 146, .int 682 0, .int 122 0, .str "/claim/cut.py" 683], #[]⟩
noncomputable def oH148 : Obj := fO "_law_added" 71 "law_wz0007_01" 665 147
noncomputable def oH151 : Obj := zO "_law_lives" 72
noncomputable def oH152 : Obj := ⟨.type "code", none, .fields #[.str "_law_lives" 685, .str "_law_lives" 686, .str "/claim/cut.py" 687, .int 128 0, .int 4 0, .int 0 0, .int 0 0, .int 3 0, .ref 149, .bool true, .int 276 0, .ref 150, .none, .none, .none, .ref 151, .int 688 0, .int 128 0, .str "/claim/cut.py" 689], #[]⟩
noncomputable def oH153 : Obj := fO "_law_lives" 72 "law_wz0007_01" 665 152
noncomputable def oH156 : Obj := zO "_law_fewest" 73
noncomputable def oH157 : Obj := ⟨.type "code", none, .fields #[.str "_law_fewest" 691, .str "_law_fewest" 692, .str "/claim/cut.py" 693, .int 154 0, .int 4 0, .int 0 0, .int 0 0, .int 3 0, .ref 154, .bool true, .int 276 0, .ref 155, .none, .none, .none, .ref 156, .int 694 0, .int 154 0, .str "/claim/cut.py" 695], #[]⟩
noncomputable def oH158 : Obj := fO "_law_fewest" 73 "law_wz0007_01" 665 157
noncomputable def oH161 : Obj := zO "law" 74
noncomputable def oH162 : Obj := ⟨.type "code", none, .fields #[.str "law" 697, .str "law" 698, .str "/claim/cut.py" 699, .int 166 0, .int 1 0, .int 0 0, .int 0 0, .int 3 0, .ref 159, .bool true, .int 276 0, .ref 160, .none, .none, .none, .ref 161, .int 700 0, .int 166 0, .str "/claim/cut.py" 701], #[]⟩
noncomputable def oH163 : Obj := fO "law" 74 "law_wz0007_01" 665 162
noncomputable def osH (P : Params) : List Obj := [oI0 P, oI1 P, oI2 P, oH3 P, oI4, oI5, oI6, oI7, oI8, oI9, oI10, oA11 P, oI12, oI13 P, oI14, oI7, oI16, oI17, oI18, oI19, oI20 P, oI21 P, oI22, oI23, oI24, oI25, oI26, oI27, oI7, oH29, oB30, oB31, oI7, oD33, oD34 P, oI7, oD36, oD37, oD38, oI7, oI8, oD41, oI7, oD43, oD44, oD45, oI7, oI8, oD48, oI7, oD50, oD51, oD52, oD53, oD54 P, oD55, oD56, oD57, oD58, oD59, oI7, oI8, oD62, oI7, oD64, oD65, oD66, oI7, oI8, oD69, oI7, oD71, oD72, oD73, oD74, oI6, oD76, oD77, oD78, oD79, oI6, oD76, oD77, oD83, oD84, oI6, oD76, oD87, oD88, oI7, oI8, oE91, oI7, oE93, oE94, oE95, oI7, oI8, oE98, oI7, oE100, oE101, oE102, oI7, oI8, oE105, oI7, oE107, oE108, oE109, oG110 P, oG111 P, oG112 P, oI7, oI8, oH115, oI7, oH117, oH118, oH119, oI7, oI8, oH122, oI7, oH124, oH125, oH126, oI7, oI8, oH129, oI7, oH131, oH132, oH133, oI7, oI8, oH136, oH137, oH138, oI7, oI8, oH141, oH142, oH143, oI7, oI8, oH146, oH147, oH148, oI7, oI8, oH151, oH152, oH153, oI7, oI8, oH156, oH157, oH158, oI7, oI8, oH161, oH162, oH163]
noncomputable abbrev stH (w : World) (os : OsState) : SharedT := ⟨bt (osH w.params), 164, {}, #[], {}, 703, os⟩
noncomputable def osF (P : Params) : List Obj := [oI0 P, oI1 P, oI2 P, oH3 P, oI4, oI5, oI6, oI7, oI8, oI9, oI10, oA11 P, oI12, oI13 P, oI14, oI7, oI16, oI17, oI18, oI19, oI20 P, oI21 P, oI22, oI23, oI24, oI25, oI26, oI27, oI7, oH29, oB30, oB31, oI7, oD33, oD34 P, oI7, oD36, oD37, oD38, oI7, oI8, oD41, oI7, oD43, oD44, oD45, oI7, oI8, oD48, oI7, oD50, oD51, oD52, oD53, oD54 P, oD55, oD56, oD57, oD58, oD59, oI7, oI8, oD62, oI7, oD64, oD65, oD66, oI7, oI8, oD69, oI7, oD71, oD72, oD73, oD74, oI6, oD76, oD77, oD78, oD79, oI6, oD76, oD77, oD83, oD84, oI6, oD76, oD87, oD88, oI7, oI8, oE91, oI7, oE93, oE94, oE95, oI7, oI8, oE98, oI7, oE100, oE101, oE102, oI7, oI8, oE105, oI7, oE107, oE108, oE109, oG110 P, oG111 P, oG112 P, oI7, oI8, oH115, oI7, oH117, oH118, oH119, oI7, oI8, oH122, oI7, oH124, oH125, oH126, oI7, oI8, oH129, oI7, oH131, oH132, oH133, oI7, oI8, oH136, oH137, oH138, oI7, oI8, oH141, oH142, oH143, oI7, oI8, oH146, oH147, oH148, oI7, oI8, oH151, oH152, oH153, oI7, oI8, oH156, oH157, oH158, oI7, oI8, oH161, oH162, oH163]
noncomputable abbrev stF (w : World) (os : OsState) : SharedT := ⟨bt (osF w.params), 164, {}, #[], {}, 703, os⟩
noncomputable def KF (P : Params) : Frag := [(2, oI2 P), (3, oH3 P), (44, oD44), (45, oD45), (51, oD51), (52, oD52), (54, oD54 P), (55, oD55), (77, oD77), (78, oD78), (82, oD77), (83, oD83), (87, oD87), (88, oD88), (110, oG110 P)]
noncomputable abbrev KA : List Addr := [2, 3, 44, 45, 51, 52, 54, 55, 77, 78, 82, 83, 87, 88, 110]
noncomputable def impT (tb : String -> Option Builtin) (p : Program) (w : World) : Nat -> SharedT -> Thread -> Option SharedT
 | 0, _, _ => none
 | n + 1, s, t => match t.atExitBegin with
  | some [] => some s
  | some (_ :: _) => none
  | none => match stepT (denote tb) p w s t with
   | some (s', t') => impT tb p w n s' t'
   | none => none
theorem impT_of {tb : String -> Option Builtin} {p : Program} {w : World} : ∀ {n : Nat} {s s' : SharedT} {t : Thread}, impT tb p w n s t = some s' -> importEnds tb p w n s.abs t = some s'.abs
 | 0, _, _, _, h => by cases h
 | n + 1, s, s', t, h => by
  unfold impT at h
  unfold importEnds
  cases he : t.atExitBegin with
  | some x =>
   rw [he] at h
   cases x with
   | nil => cases h; rfl
   | cons a l => cases h
  | none =>
   rw [he] at h
   cases hs : stepT (denote tb) p w s t with
   | none => rw [hs] at h; cases h
   | some r => obtain ⟨s₂, t₂⟩ := r; rw [hs] at h; dsimp only; rw [stepT_spec hs]; exact impT_of h
noncomputable def H0 (P : Params) : Heap := absHeap (bt (osA P)) 28 {}
noncomputable def H1 (P : Params) : Heap := absHeap (bt (osF P)) 164 {}
noncomputable abbrev s0 (w : World) (os : OsState) : Shared := ⟨H0 w.params, #[], {}, 276, os⟩
noncomputable abbrev s1 (w : World) (os : OsState) : Shared := ⟨H1 w.params, #[], {}, 703, os⟩
noncomputable abbrev stS (os : OsState) : SharedT := ⟨.nil, 0, {}, #[], {}, 1, os⟩
noncomputable def keepL : List Nat := [0, 2, 3, 4, 6, 7, 8, 9, 10, 11, 12] ++ (List.range 54).map (fun i => i + 14) ++ [69, 70, 71, 72, 73, 74]
noncomputable def V : Program := view Pr keepL
noncomputable def looseL : List Str := ["_twin_re_1", "_twin_re_2", "_twin_re_3", "EXACT_TOKEN_TYPES"]
noncomputable def Bd : List Stmt := behindTheImports Pr
noncomputable def En : Env := { scope := Pr.main.scope, locals := mainNs, globals := mainNs, cells := [], code := .ref 30, frame := some 31 }
noncomputable abbrev qp : Pos := ⟨0, 0, 0, 0⟩
noncomputable abbrev cB : Code := .body Bd En
noncomputable abbrev seg (w : World) (n : Nat) (s : SharedT) (l : List Stmt) (p : Pos) : Option (Flow × SharedT × Code × Pos) := segRunT treeTable Pr w 28 (some (.ref 6)) 1 n s (piecesOf l En cB p [topFrame qp])
noncomputable def g1 : List Stmt := Bd.take 8
noncomputable def g2 : List Stmt := (Bd.drop 8).take 55
noncomputable def g3 : List Stmt := (Bd.drop 63).take 1
noncomputable def g4 : List Stmt := Bd.drop 64
noncomputable abbrev Hk : Hook := kHook KF KA (fun _ => by kernel_rfl)
noncomputable abbrev Xt : Shared -> Bool := fun s => xlAt V [] s && recOk [] s
end
end
section
set_option tactic.hygienic false
open PySem PySem.Calls PySem.Spec PySem.W PyProof.Rows
theorem run_imp (w : World) (os : OsState) : impT treeTable (opening Pr) w 4784 ⟨.nil, 0, {}, #[], {}, 1, os⟩ (start (opening Pr)).2 = some (stI w os) := by kernel_rfl
theorem run_fence (w : World) (os : OsState) : (fenceModules? Pr (stI w os).abs).map (fun s => (s.heap, s.gens, s.drawn, s.toks)) = some (H0 w.params, #[], {}, 276) := by kernel_rfl
theorem run_size (w : World) : ((H0 w.params).isNs mainGlobals && (#[] : Array GenState).size == 0, (H0 w.params).objs.size, (H0 w.params).nsMap mainGlobals "__annotations__") = (true, 28, some (.ref 6)) := by kernel_rfl
theorem run_pre (w : World) (os : OsState) : topGo treeTable Pr w 28 (some (.ref 6)) 12 (s0 w os) (topStub Pr) = some ((stB w os).abs, ⟨denote treeTable (.body Bd En), cB, qp, [topFrame qp]⟩) := by kernel_rfl
theorem run_block (w : World) (os : OsState) : segRunT treeTable Pr w 28 (some (.ref 6)) 1 1 (stB w os) (blockOf Bd En cB qp [topFrame qp]) = some (.next, stC w os, cB, qp) := by kernel_rfl
theorem run_g1 (w : World) (os : OsState) : seg w 545 (stC w os) g1 qp = some (.next, stD w os, cB, ⟨38, 0, 38, 10⟩) := by kernel_rfl
theorem run_g2 (w : World) (os : OsState) : seg w 556 (stD w os) g2 ⟨38, 0, 38, 10⟩ = some (.next, stE w os, cB, ⟨96, 0, 96, 9⟩) := by kernel_rfl
noncomputable abbrev P3 (w : World) : Prop := ∀ os : OsState, seg w 979 (stE w os) g3 ⟨96, 0, 96, 9⟩ = some (.next, stG w os, cB, ⟨97, 0, 97, 17⟩)
theorem run_g3F (w : World) : P3 (w.withFollow "special-get-raises" false) := by intro os; kernel_rfl
theorem run_g3T (w : World) : P3 (w.withFollow "special-get-raises" true) := by intro os; kernel_rfl
theorem run_g3 (w : World) : P3 w := byRow2 "special-get-raises" run_g3F run_g3T w
theorem run_g4 (w : World) (os : OsState) : seg w 253 (stG w os) g4 ⟨97, 0, 97, 17⟩ = some (.next, stH w os, cB, ⟨166, 0, 198, 115⟩) := by kernel_rfl
theorem run_fin (w : World) (os : OsState) : topRun treeTable Pr w 28 (some (.ref 6)) 2 (stH w os).abs ⟨doneF .next, cB, ⟨166, 0, 198, 115⟩, [topFrame qp]⟩ = some (s1 w os) := by kernel_rfl
theorem run_ok (w : World) (os : OsState) : (staticsOk (importedModules Pr.main.body) (H0 w.params) (H1 w.params) && namesBound Pr (H1 w.params) && gensDone (s1 w os) && laidKept (H0 w.params) (H1 w.params)) = true := by kernel_rfl
theorem seen_1 (w : World) (os : OsState) : seen ((recsOf V).map (·.name)) (ownsOf V) [] { s1 w os with gens := #[] } = expectedOf V := by kernel_rfl
theorem seen_2 (w : World) (os : OsState) : (s1 w os).heap.bltView = bltViewBooted := by kernel_rfl
theorem seen_a (w : World) (os : OsState) : (s1 w os).heap.keysOk (looseW V looseL) ((recsOf V).map (·.name)) ((litsOf V).map (·.1)) ((clssOf V (looseW V looseL)).map (·.name)) = true := by kernel_rfl
theorem seen_b (w : World) (os : OsState) : (s1 w os).heap.accountedOkI (importedModules Pr.main.body) = true := by kernel_rfl
theorem seen_c (w : World) (os : OsState) : (s1 w os).heap.isNs mainGlobals = true := by kernel_rfl
theorem seen_d (w : World) (os : OsState) : (s1 w os).heap.isNs builtinsNs = true := by kernel_rfl
theorem seen_e (w : World) (os : OsState) : tablesOk V (s1 w os).heap = true := by kernel_rfl
theorem seen_f (w : World) (os : OsState) : Xt (s1 w os) = true := by kernel_rfl
theorem and_t {a b : Bool} (x : a = true) (y : b = true) : (a && b) = true := by rw [x, y]; rfl
theorem seen_3 (w : World) (os : OsState) : ((s1 w os).heap.keysOk (looseW V looseL) ((recsOf V).map (·.name)) ((litsOf V).map (·.1)) ((clssOf V (looseW V looseL)).map (·.name)) && (s1 w os).heap.accountedOkI (importedModules Pr.main.body) && (s1 w os).heap.isNs mainGlobals && (s1 w os).heap.isNs builtinsNs && tablesOk V (s1 w os).heap && Xt (s1 w os) && (if true then (s1 w os).gens.size == 0 else !leftWithCleanup (s1 w os).gens)) = true :=
 and_t (and_t (and_t (and_t (and_t (and_t (seen_a w os) (seen_b w os)) (seen_c w os)) (seen_d w os)) (seen_e w os)) (seen_f w os)) (by kernel_rfl)
theorem seen_4 (w : World) (os : OsState) : tabsOk V (s1 w os) = true := by kernel_rfl
theorem seen_5 (w : World) (os : OsState) : pinSeenD V (drecsOf V) (s1 w os) = pinGoodD (drecsOf V) := by kernel_rfl
theorem seen_6 (w : World) (os : OsState) : plainSeenE V (looseW V looseL) (s1 w os) = plainGoodE V (looseW V looseL) := by kernel_rfl
theorem seen_7 (w : World) (os : OsState) : plainSeenD V looseL (s1 w os) = plainGoodD V looseL := by kernel_rfl
theorem seen_8 (w : World) (os : OsState) : wideSeen V (s1 w os) = wideGood V := by kernel_rfl
theorem seen_9 (w : World) (os : OsState) : clsSeenW V looseL (s1 w os) = clsGoodW V looseL := by kernel_rfl
theorem pair_t {α β : Type} {a a' : α} {b b' : β} (h : a = a') (k : b = b') : (a, b) = (a', b') := by rw [h, k]
theorem run_seen (w : World) (os : OsState) : openSeen V looseL (importedModules Pr.main.body) Xt true (s1 w os) = openGood V looseL := by
 delta openSeen openGood
 exact pair_t (seen_1 w os) (pair_t (seen_2 w os) (pair_t (seen_3 w os) (pair_t (seen_4 w os) (pair_t (seen_5 w os) (pair_t (seen_6 w os) (pair_t (seen_7 w os) (pair_t (seen_8 w os) (seen_9 w os))))))))
theorem run_obs (w : World) (os : OsState) : Hk.obs (s1 w os) = Hk.val w := by kernel_rfl
end
section
set_option tactic.hygienic false
open PySem PySem.Calls PySem.Spec PySem.W PyProof.Rows
noncomputable abbrev endP : Pos := ⟨166, 0, 198, 115⟩
theorem bd_cut : Bd = g1 ++ (g2 ++ (g3 ++ (g4 ++ []))) := by
 unfold g1 g2 g3 g4
 rw [List.append_nil]
 have h1 := (List.take_append_drop 8 Bd).symm
 have h2 := (List.take_append_drop 55 (Bd.drop 8)).symm
 have h3 := (List.take_append_drop 1 (Bd.drop 63)).symm
 rw [List.drop_drop] at h2 h3
 generalize Bd = b at *
 conv => lhs; rw [h1, h2, h3]
section
variable {tb : String -> Option Builtin} {p : Program} {w : World} {n₀ : Nat} {ann : Option Value} {env : Env} {q p0 p1 p2 p3 p4 p5 : Pos} {c : Code} {n1 n2 n3 n4 n5 n6 n7 : Nat} {sA sF : Shared} {s1 s2 s3 s4 s5 s6 : SharedT} {b l1 l2 l3 l4 : List Stmt} {stub : Thread}
theorem chain (hb : b = l1 ++ (l2 ++ (l3 ++ (l4 ++ [])))) (h1 : topGo tb p w n₀ ann n1 sA stub = some (s1.abs, ⟨denote tb (.body b env), c, p0, [topFrame q]⟩)) (h2 : segRunT tb p w n₀ ann 1 n2 s1 (blockOf b env c p0 [topFrame q]) = some (.next, s2, c, p1))
  (h3 : segRunT tb p w n₀ ann 1 n3 s2 (piecesOf l1 env c p1 [topFrame q]) = some (.next, s3, c, p2)) (h4 : segRunT tb p w n₀ ann 1 n4 s3 (piecesOf l2 env c p2 [topFrame q]) = some (.next, s4, c, p3))
  (h5 : segRunT tb p w n₀ ann 1 n5 s4 (piecesOf l3 env c p3 [topFrame q]) = some (.next, s5, c, p4)) (h6 : segRunT tb p w n₀ ann 1 n6 s5 (piecesOf l4 env c p4 [topFrame q]) = some (.next, s6, c, p5))
  (h7 : topRun tb p w n₀ ann n7 s6.abs ⟨doneF .next, c, p5, [topFrame q]⟩ = some sF) : topRun tb p w n₀ ann (n1 + (n2 + (n3 + (n4 + (n5 + (n6 + n7)))))) sA stub = some sF := by
 refine go_top h1 (piece_block (segRun_of h2) ?_)
 have k := piece_app (segRun_of h3) (piece_app (segRun_of h4) (piece_app (segRun_of h5) (piece_app (segRun_of h6) (piece_nil h7))))
 rw [← hb] at k
 exact k
end
theorem left_of {p q : Program} {loose : List Str} {Xt : Shared -> Bool} {α : Type} {Yf : Shared -> α} {Ya : World -> α} {N M m₀ k₀ k₁ : Nat} {ann : Option Value} {H₀ H₁ : Params -> Heap} {sI : World -> OsState -> SharedT}
  (imp : ∀ (w : World) (os : OsState), impT treeTable (opening p) w N ⟨.nil, 0, {}, #[], {}, 1, os⟩ (start (opening p)).2 = some (sI w os)) (est : (start (opening p)).1 = ⟨{}, #[], {}, 1, (start (opening p)).1.os⟩)
  (fence : ∀ (w : World) (os : OsState), (fenceModules? p (sI w os).abs).map (fun s => (s.heap, s.gens, s.drawn, s.toks)) = some (H₀ w.params, #[], {}, k₀))
  (size : ∀ w : World, ((H₀ w.params).isNs mainGlobals && (#[] : Array GenState).size == 0, (H₀ w.params).objs.size, (H₀ w.params).nsMap mainGlobals "__annotations__") = (true, m₀, ann))
  (run : ∀ (w : World) (os : OsState), topRun treeTable p w m₀ ann M ⟨H₀ w.params, #[], {}, k₀, os⟩ (topStub p) = some ⟨H₁ w.params, #[], {}, k₁, os⟩) (le : Nat.ble M N = true)
  (ok : ∀ (w : World) (os : OsState), (staticsOk (importedModules p.main.body) (H₀ w.params) (H₁ w.params) && namesBound p (H₁ w.params) && gensDone ⟨H₁ w.params, #[], {}, k₁, os⟩ && laidKept (H₀ w.params) (H₁ w.params)) = true)
  (seen : ∀ (w : World) (os : OsState), openSeen q loose (importedModules p.main.body) Xt true ⟨H₁ w.params, #[], {}, k₁, os⟩ = openGood q loose) (obs : ∀ (w : World) (os : OsState), Yf ⟨H₁ w.params, #[], {}, k₁, os⟩ = Ya w) :
  LeftO p q loose Xt Yf Ya N := by
 refine LeftO.of_pieces (H₀ := H₀) (H₁ := H₁) (gs₀ := #[]) (gs₁ := #[]) (d₀ := {}) (d₁ := {}) (k₀ := k₀) (k₁ := k₁) (m₀ := m₀) (ann := ann) (M := M) (fun w => ?_) size run le (fun w => ?_)
 ·have h := impT_of (imp w (start (opening p)).1.os)
  have e : (SharedT.abs ⟨.nil, 0, {}, #[], {}, 1, (start (opening p)).1.os⟩) = (start (opening p)).1 := by rw [est]; rfl
  rw [e] at h
  unfold fencedOpening
  rw [h]
  exact fence w _
 ·funext os
  rw [ok w os, seen w os, obs w os]
theorem start_is : (start (opening Pr)).1 = ⟨{}, #[], {}, 1, (start (opening Pr)).1.os⟩ := by kernel_rfl
structure RunAll : Prop where
 run : ∀ (w : World) (os : OsState), topRun treeTable Pr w 28 (some (.ref 6)) (12 + (1 + (545 + (556 + (979 + (253 + 2)))))) (s0 w os) (topStub Pr) = some (s1 w os)
theorem run_all : RunAll := by
 constructor
 intro w os
 have k := @chain treeTable Pr w 28 (some (.ref 6)) En qp qp qp ⟨38, 0, 38, 10⟩ ⟨96, 0, 96, 9⟩ ⟨97, 0, 97, 17⟩ ⟨166, 0, 198, 115⟩ cB 12 1 545 556 979 253 2 (s0 w os) (s1 w os) (stB w os) (stC w os) (stD w os) (stE w os) (stG w os) (stH w os) Bd g1 g2 g3 g4 (topStub Pr)
  bd_cut (run_pre w os) (run_block w os) (run_g1 w os) (run_g2 w os) (run_g3 w os) (run_g4 w os) (run_fin w os)
 exact k
structure LeftIs : Prop where
 left : LeftO Pr V looseL Xt Hk.obs Hk.val 4784
theorem left_is : LeftIs := by
 constructor
 have k := @left_of Pr V looseL Xt Hk.α Hk.obs Hk.val 4784 (12 + (1 + (545 + (556 + (979 + (253 + 2)))))) 28 276 703 (some (.ref 6)) H0 H1 stI run_imp start_is run_fence run_size run_all.run (by decide) run_ok run_seen run_obs
 exact k
end
section
set_option tactic.hygienic false
open PySem PySem.Calls PySem.Spec PySem.W PyProof.Rows
theorem kf (P : Params) : KFacts P (KF P) where
 off := ⟨545, by kernel_rfl⟩
 endm := ⟨447, by kernel_rfl⟩
 crlf := ⟨422, by kernel_rfl⟩
 re1 := patK_of 78 #[.str "(?m)^\\." 349, .int 40 362, .int 0 0, .none, .none, .ref 77, .int 0 0] 77 (by kernel_rfl) (by kernel_rfl) (by kernel_rfl) (by kernel_rfl) (by kernel_rfl) (by kernel_rfl)
 re2 := patK_of 83 #[.bytes #[40, 63, 109, 41, 94, 92, 46] 365, .int 8 378, .int 0 0, .none, .none, .ref 82, .int 1 0] 82 (by kernel_rfl) (by kernel_rfl) (by kernel_rfl) (by kernel_rfl) (by kernel_rfl) (by kernel_rfl)
 re3 := patK_of 88 #[.str "(?:\\r\\n|\\n|\\r(?!\\n))" 381, .int 32 420, .int 0 0, .none, .none, .ref 87, .int 0 0] 87 (by kernel_rfl) (by kernel_rfl) (by kernel_rfl) (by kernel_rfl) (by kernel_rfl) (by kernel_rfl)
 ett := ⟨110, 48, by kernel_rfl, by decide, by kernel_rfl, by kernel_rfl, by kernel_rfl⟩
 b_len := by kernel_rfl
 b_sum := by kernel_rfl
 b_max := by kernel_rfl
 b_min := by kernel_rfl
 b_ord := by kernel_rfl
 b_isinstance := by kernel_rfl
 b_range := by kernel_rfl
 b_list := by kernel_rfl
 b_tuple := by kernel_rfl
 b_bytes := by kernel_rfl
 b_zip := by kernel_rfl
theorem jk (P : Params) : JK (KF P) 55 45 52 where
 tabs := by kernel_rfl
 name := by kernel_rfl
 keepC := by kernel_rfl
 makes := by kernel_rfl
 init := by kernel_rfl
 initF := by kernel_rfl
 seta := by kernel_rfl
 over := by kernel_rfl
 taker := by kernel_rfl
 hasD := by kernel_rfl
 get := by kernel_rfl
 own := by kernel_rfl
 cmp := by kernel_rfl
 cmpF := by kernel_rfl
 keepF := by kernel_rfl
 mi := ⟨.type "function", none, #[], .str "cpy313.pstats" 282, 44, .none, none, #[.str "__init__" 296, .str "TupleComp.__init__" 297, .str "/claim/cut.py" 298, .int 5 0, .int 2 0, .int 0 0, .int 0 0, .int 3 0, .ref 39, .bool true, .int 276 0, .ref 40, .none, .ref 41, .ref 42, .ref 43, .int 301 0, .int 5 0, .str "/claim/cut.py" 302], 297, #[], by kernel_rfl, by kernel_rfl, by kernel_rfl⟩
 mc := ⟨.type "function", none, #[], .str "cpy313.pstats" 282, 51, .none, none, #[.str "compare" 304, .str "TupleComp.compare" 305, .str "/claim/cut.py" 306, .int 8 0, .int 3 0, .int 0 0, .int 0 0, .int 3 0, .ref 46, .bool true, .int 276 0, .ref 47, .none, .ref 48, .ref 49, .ref 50, .int 314 0, .int 8 0, .str "/claim/cut.py" 315], 305, #[], by kernel_rfl, by kernel_rfl, by kernel_rfl⟩
theorem rc : Recs V where
 r3 := ⟨by kernel_rfl, _, rfl, by kernel_rfl⟩
 r4 := ⟨by kernel_rfl, _, rfl, by kernel_rfl⟩
 r10 := ⟨by kernel_rfl, _, rfl, by kernel_rfl⟩
 r11 := ⟨by kernel_rfl, _, rfl, by kernel_rfl⟩
 r12 := ⟨by kernel_rfl, _, rfl, by kernel_rfl⟩
 r65 := ⟨by kernel_rfl, _, rfl, by kernel_rfl⟩
 r66 := ⟨by kernel_rfl, _, rfl, by kernel_rfl⟩
 r67 := ⟨by kernel_rfl, _, rfl, by kernel_rfl⟩
 r69 := ⟨by kernel_rfl, _, rfl, by kernel_rfl⟩
 r70 := ⟨by kernel_rfl, _, rfl, by kernel_rfl⟩
 r71 := ⟨by kernel_rfl, _, rfl, by kernel_rfl⟩
 r72 := ⟨by kernel_rfl, _, rfl, by kernel_rfl⟩
 r73 := ⟨by kernel_rfl, _, rfl, by kernel_rfl⟩
 r74 := ⟨by kernel_rfl, _, rfl, by kernel_rfl⟩
theorem no_imports : importsNone V = true := by kernel_rfl
noncomputable def posAt (i : Nat) : Pos := (dAt i).pos
noncomputable abbrev dLaw : DefRec := ⟨"law", Qed 74, Qax 74, Qaf 74, posAt 74⟩
abbrev Rw : OpenLaw := PySem.Challenge.rw_wz0007_01
theorem d_law : defOf V Rw.row.name = some (dLaw, []) := by kernel_rfl
theorem d_the : Rw.row.prog.theDef Rw.row.name = some (dLaw.params, dLaw.body, dLaw.scope) := by kernel_rfl
theorem d_kw : kwWritten? dLaw.params.kwonlyargs dLaw.params.kw_defaults = some [] := by kernel_rfl
theorem opens : (chainsOk V && opensWell Rw.row.prog && (frees Rw.row.toRowW && Rw.row.within.isEmpty)) = true := by kernel_rfl
theorem bares : Rw.row.prog.bare := ⟨rfl, rfl, rfl, rfl, rfl, by decide +kernel⟩
theorem sd1 : noRoadLSs { strict := !(importedModules Rw.row.prog.main.body).all cThrough.contains, foot := none, bare := (["vars", "dir", "locals"] : List Str).filter (readsOut Rw.row.prog Rw.row.prog.main.body) } Rw.row.prog.main.body = true := by kernel_rfl
theorem sd2 : namesResolve Rw.row.prog = true := by kernel_rfl
theorem sd3 : sreFenced Rw.row.prog.main = true := by kernel_rfl
theorem sd4 : looksOpen Rw.row.prog = true := by
 delta looksOpen
 rw [Bool.and_eq_true]
 refine ⟨?_, ?_⟩
 rotate_left
 ·kernel_rfl
 rw [Bool.and_eq_true]
 refine ⟨?_, sd1⟩
 rw [Bool.and_eq_true]
 refine ⟨?_, ?_⟩
 rotate_left
 ·kernel_rfl
 rw [Bool.and_eq_true]
 refine ⟨?_, sd2⟩
 rw [Bool.and_eq_true]
 refine ⟨sd3, ?_⟩
 kernel_rfl
theorem sd5 : Rw.row.partSaid = true := by
 delta OpenRow.partSaid
 iterate 13 (rw [Bool.and_eq_true]; refine ⟨?_, ?_⟩; rotate_left; · kernel_rfl)
 exact sd4
theorem sd6 : Rw.row.wellSaid = true := by
 delta OpenRow.wellSaid
 iterate 2 (rw [Bool.and_eq_true]; refine ⟨?_, ?_⟩; rotate_left; · kernel_rfl)
 exact sd5
theorem sd7 : (Rw.bound'.all fun n => !builtinNamed n || Rw.about == [n] || !Rw.reads n) = true := by kernel_rfl
theorem said : Rw.wellSaid = true := by
 delta OpenLaw.wellSaid
 iterate 8 (rw [Bool.and_eq_true]; refine ⟨?_, ?_⟩; rotate_left; · kernel_rfl)
 rw [Bool.and_eq_true]
 refine ⟨?_, sd7⟩
 iterate 9 (rw [Bool.and_eq_true]; refine ⟨?_, ?_⟩; rotate_left; · kernel_rfl)
 exact sd6
theorem promised : Rw.row.toRowW.promised := by w_witness2
end
section
set_option tactic.hygienic false
open PySem PySem.Calls PySem.Spec PySem.W PyProof.Rows
theorem walk_law : WalkO V looseL (XL V []) Hk.says Rw.row.toRowW dLaw [] fun f vs => PySem.call f vs := by
 intro w s₀ s₁ mg mb G Y fa o pm cd doc dV kV ho hd hcd hD hmg hg args vals as hpre hlay hrd hwl hlo
 refine enter_call ?_
 have KX : (KF w.params).In s₁.heap := Y
 exact law_top G.T KX rc (kf _) (jk _) no_imports hg hmg hpre hwl
end
end Mine
theorem PySem.Challenge.cw_wz0007_01_holds : PySem.Challenge.rw_wz0007_01.Holds := by
 refine holds_law Mine.said fun s => ?_
 exact holds_open (r := Mine.Rw.row) (q := Mine.V) (loose := Mine.looseL) (Xt := Mine.Xt) (XP := XL Mine.V []) (Yf := Mine.Hk.obs) (Ya := Mine.Hk.val) (YP := Mine.Hk.says) (d := Mine.dLaw) (kwd := []) (N := 4784) Mine.left_is.left (Hook.of Mine.Hk) (Hook.keeps Mine.Hk)
  (fun s e => xl_of s (Bool.and_eq_true_iff.mp e).1) XL.keeps Mine.d_law Mine.d_the Mine.d_kw (fun s e => recFacts_of (Bool.and_eq_true_iff.mp e).2) rfl s Mine.opens Mine.bares Mine.promised Mine.walk_law
