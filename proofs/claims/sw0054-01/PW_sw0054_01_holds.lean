import PyProof.Rows.All
import Wide.All
import OpenK.AllK
import Wide.FinOn
import PySem.Challenge.RW_sw0054_01
open PySem PySem.W PyProof.Rows
set_option Elab.async false
set_option maxRecDepth 100000
set_option maxHeartbeats 8000000
namespace Mine
open_top hd for PySem.Challenge.rw_sw0054_01
end Mine
open PySem PySem.W PyProof.Rows PySem.Calls PySem.Spec
namespace Mine

-- part S0
section
theorem same_x {z n : Str} {_ : Decidable (z = n)} {u v c : Option Value} (h : z ≠ n) (r : v = c) : (if z = n then u else v) = c := (if_neg h).trans r
theorem same_p {z n : Str} {_ : Decidable (z = n)} {u v c : Option Value} {x : Value} {ps : List (Str × Value)} (h : ∀ p ∈ ps, z ≠ p.1) (hm : (n, x) ∈ ps) (r : v = c) : (if z = n then u else v) = c := (if_neg (h _ hm)).trans r
theorem len_next {α : Type} {l : List α} {n : Nat} {P : Prop} (h : l.length = n + 1) (k : ∀ a r, l = a :: r → r.length = n → P) : P :=
  match l, h, k with
  | a :: r, h, k => k a r rfl (Nat.succ.inj h)
theorem cons_eq {α : Type} {a : α} {l r s : List α} (h : l = a :: r) (h' : r = s) : l = a :: s := h' ▸ h
theorem four {α : Type} {l : List α} (h : l.length = 4) : ∃ a b c d, l = [a, b, c, d] :=
  len_next h fun a _ e1 h => len_next h fun b _ e2 h => len_next h fun c _ e3 h => len_next h fun d _ e4 h => ⟨a, b, c, d, cons_eq e1 (cons_eq e2 (cons_eq e3 (cons_eq e4 (List.eq_nil_of_length_eq_zero h))))⟩
theorem ints_next {vs : List Value} {ns : List Int} {n : Nat} {P : Prop} (h : IntsAre vs ns) (hl : ns.length = n + 1) (k : ∀ d t r q, ns = d :: r → vs = .int d t :: q → IntsAre q r → r.length = n → P) : P := by
  cases h with
  | nil => cases hl
  | cons d t h => exact k d t _ _ rfl rfl h (Nat.succ.inj hl)
theorem room_b {dp a b : Nat} (h : dp + a < recursionLimit) (hab : 1 + b ≤ a) : dp + 1 + b < recursionLimit := by (first | lia | omega)
theorem room_c {dp a : Nat} (h : dp + a < recursionLimit) : dp < recursionLimit := by (first | lia | omega)
theorem room_d {dp a : Nat} (h : dp + a < recursionLimit) (hab : 1 ≤ a) : dp + 1 < recursionLimit := by (first | lia | omega)
theorem unit_b {un a b : Nat} (h : un + 8 * a < cLine) (hab : 3 + 8 * b ≤ 8 * a) : un + 3 + 8 * b < cLine := by (first | lia | omega)
theorem lt2 {i : Nat} (h : i < 2) : i = 0 ∨ i = 1 := by (first | lia | omega)
theorem lt4 {i : Nat} (h : i < 4) : i = 0 ∨ i = 1 ∨ i = 2 ∨ i = 3 := by (first | lia | omega)
theorem lt5 {i : Nat} (h : i < 5) : i = 0 ∨ i = 1 ∨ i = 2 ∨ i = 3 ∨ i = 4 := by (first | lia | omega)
theorem dec_lt {n i : Nat} (h : i < n) : n + 1 - (i + 1) < n + 1 - i := Nat.sub_lt_sub_left (Nat.lt_succ_of_lt h) (Nat.lt_succ_self i)
theorem natAbs_le {x : Int} {n : Nat} (h0 : 0 ≤ x) (h : x ≤ n) : x.natAbs ≤ n := Int.ofNat_le.mp (Int.le_trans (Int.le_of_eq (Int.natAbs_of_nonneg h0)) h)
theorem n0 (g : Nat) : (0 : Int) ≤ (g : Int) := Int.natCast_nonneg g
theorem n10 (g : Nat) : (0 : Int) ≤ (g : Int) + 1 := by (first | lia | omega)
theorem nlt {g a : Nat} {b : Int} (h : g < a) (e : (a : Int) ≤ b) : (g : Int) < b := by (first | lia | omega)
theorem n1lt {g a : Nat} {b : Int} (h : g + 1 < a) (e : (a : Int) ≤ b) : (g : Int) + 1 < b := by (first | lia | omega)
theorem lv2 {size kN : Int} {p n : Nat} (e : kN = size + (p : Int)) (h : p < ((n : Int) - size).toNat) : kN < (n : Int) := e ▸ Int.add_comm size p ▸ Int.add_lt_of_lt_sub_right (Int.lt_toNat.mp h)
theorem lv3 {size kN : Int} {p n : Nat} (e : kN = size + (p : Int)) (h : p < ((n : Int) - size).toNat) (hn : n ≤ 100) : kN < 1000 := Int.lt_trans (lv2 e h) (Int.ofNat_lt.mpr (Nat.lt_of_le_of_lt hn (by decide)))
theorem kz {kN : Int} {p : Nat} (e : kN = 0 + (p : Int)) : 0 ≤ kN := e ▸ Int.add_nonneg (Int.le_refl 0) (Int.natCast_nonneg p)
theorem kl {kN : Int} {p n : Nat} (e : kN = 0 + (p : Int)) (h : p < ((n : Int) - 0).toNat) : kN < (n : Int) := lv2 e h
theorem kb {kN b : Int} {p n : Nat} (e : kN = 0 + (p : Int)) (h : p < ((n : Int) - 0).toNat) (hn : n ≤ 100) (hb : 100 < b) : kN < b := Int.lt_trans (kl e h) (Int.lt_of_le_of_lt (Int.ofNat_le.mpr hn) hb)
theorem addr3 {L I D C : Nat} (n1 : L < I) (n3 : D = I + 1) (n4 : C = I + 2) : (∀ b : Nat, b < I → b ≠ I ∧ b ≠ D ∧ b ≠ C) ∧ I ≠ D ∧ I ≠ C ∧ D ≠ C ∧ L ≠ I ∧ L ≠ D ∧ L ≠ C := by
  subst n3 n4
  have H : ∀ b : Nat, b < I → b ≠ I ∧ b ≠ I + 1 ∧ b ≠ I + 2 := fun b hb => ⟨Nat.ne_of_lt hb, Nat.ne_of_lt (Nat.lt_add_right 1 hb), Nat.ne_of_lt (Nat.lt_add_right 2 hb)⟩
  exact ⟨H, Nat.ne_of_lt (Nat.lt_add_of_pos_right (Nat.succ_pos _)), Nat.ne_of_lt (Nat.lt_add_of_pos_right (Nat.succ_pos _)), Nat.ne_of_lt (Nat.lt_succ_self (I + 1)), H L n1⟩
theorem addr4 {L I D C K : Nat} (n1 : L < I) (n3 : D = I + 1) (n4 : C = I + 2) (n5 : K = I + 3) : (∀ b : Nat, b < I → b ≠ I ∧ b ≠ D ∧ b ≠ C ∧ b ≠ K) ∧ I ≠ D ∧ I ≠ C ∧ I ≠ K ∧ D ≠ C ∧ D ≠ K ∧ C ≠ K ∧ L ≠ I ∧ L ≠ D ∧ L ≠ C ∧ L ≠ K := by
  subst n3 n4 n5
  have H : ∀ b : Nat, b < I → b ≠ I ∧ b ≠ I + 1 ∧ b ≠ I + 2 ∧ b ≠ I + 3 := fun b hb => ⟨Nat.ne_of_lt hb, Nat.ne_of_lt (Nat.lt_add_right 1 hb), Nat.ne_of_lt (Nat.lt_add_right 2 hb), Nat.ne_of_lt (Nat.lt_add_right 3 hb)⟩
  exact ⟨H, Nat.ne_of_lt (Nat.lt_add_of_pos_right (Nat.succ_pos _)), Nat.ne_of_lt (Nat.lt_add_of_pos_right (Nat.succ_pos _)), Nat.ne_of_lt (Nat.lt_add_of_pos_right (Nat.succ_pos _)), Nat.ne_of_lt (Nat.lt_succ_self (I + 1)), Nat.ne_of_lt (Nat.add_lt_add_left (by decide : 1 < 3) I), Nat.ne_of_lt (Nat.lt_succ_self (I + 2)), H L n1⟩
noncomputable def Ctr (d : Nat) (w : World) (f : Addr) (vs : List Value) (news : List (Addr × Obj)) (Post : Value → List (Addr × Obj) → Nat → Prop) (kw : List (Str × Value) := []) (Hb : Heap → Prop := fun _ => True) : Prop :=
  ∀ (loose : List Str) (mean : ExcName → Option Value) (mg mb : Str → Option Value) (dp un : Nat) (gd : Option (List Code)) (cn : Str) (cs : Scope) (a : Addr) (ccd : Value) (cl : List (Str × Addr)) (outer : List Env) (A₀ : Around) (base h₀ : Heap) (L : Addr) (m : Str → Option Value) (s : Shared) (Q E : Value → Shared → Prop),
    Below A₀ base outer h₀ → Fr h₀ L s.heap m → (Mine.hd.heap_39 w.params).In h₀ → News h₀ L s.heap news → Top topProg loose mean mg mb h₀ → cs.kind = .function →
    Hb base → dp + d < recursionLimit → un + 8 * d < cLine →
    (∀ v news' h' tk', Post v news' tk' → Fr h₀ L h' m → News h₀ L h' news' → Q v { s with heap := h', toks := tk' }) →
    wpAny (model PySem.Challenge.rw_sw0054_01.row.prog w) (ktrTop dp un gd cn cs L a ccd cl outer) (call (.ref f) vs kw) Q E s

theorem Ctr.use {d : Nat} {w : World} {f : Addr} {vs : List Value} {news : List (Addr × Obj)} {Post : Value → List (Addr × Obj) → Nat → Prop} {kw : List (Str × Value)} {Hb : Heap → Prop}
    {loose : List Str} {mean : ExcName → Option Value} {mg mb : Str → Option Value} {dp un : Nat} {gd : Option (List Code)} {cn : Str} {cs : Scope} {a : Addr} {ccd : Value} {cl : List (Str × Addr)} {outer : List Env} {A₀ : Around} {base h₀ : Heap} {L : Addr} {m : Str → Option Value} {s : Shared} {Q E : Value → Shared → Prop}
    (S : Ctr d w f vs news Post kw Hb) (B : Below A₀ base outer h₀) (F : Fr h₀ L s.heap m) (X : (Mine.hd.heap_39 w.params).In h₀) (N : News h₀ L s.heap news) (T : Top topProg loose mean mg mb h₀) (hk : cs.kind = .function)
    (hb : Hb base) (hd : dp + d < recursionLimit) (hu : un + 8 * d < cLine)
    (ret : ∀ v news' h' tk', s.toks ≤ tk' → Post v news' tk' → Fr h₀ L h' m → News h₀ L h' news' → Q v { s with heap := h', toks := tk' }) :
    wpAny (model PySem.Challenge.rw_sw0054_01.row.prog w) (ktrTop dp un gd cn cs L a ccd cl outer) (call (.ref f) vs kw) Q E s :=
  wpAny_with_toks (Nat.le_refl _) (S _ _ _ _ _ _ _ _ _ _ _ _ _ _ _ _ _ _ _ _ _ B F X N T hk hb hd hu fun v news' h' tk' hp hF hN hle => ret v news' h' tk' hle hp hF hN)
theorem binds_LL {s : Shared} {fd : FuncData} {args : Args} {binds : List (Str × Value)} {T D : Addr} {oT oD : Obj} {p p' : Option Value} {k k' : Obj → Sem (List (Str × Value))}
    (hT : s.heap.get? T = some oT) (hD : s.heap.get? D = some oD) (h1 : bindArgs fd args = .load T p k) (h2 : k oT = .load D p' k') (h3 : k' oD = .pure binds) : BindsTo s fd args binds :=
  fun _ _ _ _ hq => h1 ▸ nd_load hT (h2 ▸ nd_load hD (h3 ▸ nd_pure hq))
theorem binds_L {s : Shared} {fd : FuncData} {args : Args} {binds : List (Str × Value)} {T : Addr} {oT : Obj} {p : Option Value} {k : Obj → Sem (List (Str × Value))}
    (hT : s.heap.get? T = some oT) (h1 : bindArgs fd args = .load T p k) (h2 : k oT = .pure binds) : BindsTo s fd args binds :=
  fun _ _ _ _ hq => h1 ▸ nd_load hT (h2 ▸ nd_pure hq)
theorem Ctr.useI {k : Int} {d : Nat} {w : World} {f : Addr} {vs : List Value} {news : List (Addr × Obj)} {kw : List (Str × Value)} {Hb : Heap → Prop}
    {loose : List Str} {mean : ExcName → Option Value} {mg mb : Str → Option Value} {dp un : Nat} {gd : Option (List Code)} {cn : Str} {cs : Scope} {a : Addr} {ccd : Value} {cl : List (Str × Addr)} {outer : List Env} {A₀ : Around} {base h₀ : Heap} {L : Addr} {m : Str → Option Value} {h1 : Heap} {gn : Array GenState} {dr : Drawn} {t1 : Nat} {os : OsState} {Q E : Value → Shared → Prop}
    (S : Ctr d w f vs news (fun v n' _ => (∃ t, v = .int k t) ∧ n' = news) kw Hb) (B : Below A₀ base outer h₀) (F : Fr h₀ L h1 m) (X : (Mine.hd.heap_39 w.params).In h₀) (N : News h₀ L h1 news) (T : Top topProg loose mean mg mb h₀) (hk : cs.kind = .function)
    (hb : Hb base) (hd : dp + d < recursionLimit) (hu : un + 8 * d < cLine)
    (ret : ∀ h' tk' t, Fr h₀ L h' m → News h₀ L h' news → Q (.int k t) ⟨h', gn, dr, tk', os⟩) :
    wpAny (model PySem.Challenge.rw_sw0054_01.row.prog w) (ktrTop dp un gd cn cs L a ccd cl outer) (call (.ref f) vs kw) Q E ⟨h1, gn, dr, t1, os⟩ :=
  Ctr.use S B F X N T hk hb hd hu (by rintro v n h tk hle ⟨⟨t, rfl⟩, rfl⟩ F N; exact ret h tk t F N)
theorem Ctr.useIk {k : Int} {d : Nat} {w : World} {f : Addr} {vs : List Value} {news : List (Addr × Obj)} {kw : List (Str × Value)} {Hb : Heap → Prop}
    {loose : List Str} {mean : ExcName → Option Value} {mg mb : Str → Option Value} {dp un : Nat} {gd : Option (List Code)} {cn : Str} {cs : Scope} {a : Addr} {ccd : Value} {cl : List (Str × Addr)} {outer : List Env} {A₀ : Around} {base h₀ : Heap} {L : Addr} {m : Str → Option Value} {h1 : Heap} {gn : Array GenState} {dr : Drawn} {t1 : Nat} {os : OsState} {Q E : Value → Shared → Prop}
    (S : Ctr d w f vs news (fun v n' _ => (∃ t, v = .int k t) ∧ n' = news) kw Hb) (B : Below A₀ base outer h₀) (F : Fr h₀ L h1 m) (X : (Mine.hd.heap_39 w.params).In h₀) (N : News h₀ L h1 news) (T : Top topProg loose mean mg mb h₀) (hk : cs.kind = .function)
    (hb : Hb base) (hd : dp + d < recursionLimit) (hu : un + 8 * d < cLine)
    (ret : ∀ h' tk', t1 ≤ tk' → ∀ t, Fr h₀ L h' m → News h₀ L h' news → Q (.int k t) ⟨h', gn, dr, tk', os⟩) :
    wpAny (model PySem.Challenge.rw_sw0054_01.row.prog w) (ktrTop dp un gd cn cs L a ccd cl outer) (call (.ref f) vs kw) Q E ⟨h1, gn, dr, t1, os⟩ :=
  Ctr.use S B F X N T hk hb hd hu (by rintro v n h tk hle ⟨⟨t, rfl⟩, rfl⟩ F N; exact ret h tk hle t F N)
theorem Ctr.useS {x : Str} {d : Nat} {w : World} {f : Addr} {vs : List Value} {news : List (Addr × Obj)} {kw : List (Str × Value)} {Hb : Heap → Prop}
    {loose : List Str} {mean : ExcName → Option Value} {mg mb : Str → Option Value} {dp un : Nat} {gd : Option (List Code)} {cn : Str} {cs : Scope} {a : Addr} {ccd : Value} {cl : List (Str × Addr)} {outer : List Env} {A₀ : Around} {base h₀ : Heap} {L : Addr} {m : Str → Option Value} {h1 : Heap} {gn : Array GenState} {dr : Drawn} {t1 : Nat} {os : OsState} {Q E : Value → Shared → Prop}
    (S : Ctr d w f vs news (fun v n' _ => (∃ t, v = .str x t) ∧ n' = news) kw Hb) (B : Below A₀ base outer h₀) (F : Fr h₀ L h1 m) (X : (Mine.hd.heap_39 w.params).In h₀) (N : News h₀ L h1 news) (T : Top topProg loose mean mg mb h₀) (hk : cs.kind = .function)
    (hb : Hb base) (hd : dp + d < recursionLimit) (hu : un + 8 * d < cLine)
    (ret : ∀ h' tk' t, Fr h₀ L h' m → News h₀ L h' news → Q (.str x t) ⟨h', gn, dr, tk', os⟩) :
    wpAny (model PySem.Challenge.rw_sw0054_01.row.prog w) (ktrTop dp un gd cn cs L a ccd cl outer) (call (.ref f) vs kw) Q E ⟨h1, gn, dr, t1, os⟩ :=
  Ctr.use S B F X N T hk hb hd hu (by rintro v n h tk hle ⟨⟨t, rfl⟩, rfl⟩ F N; exact ret h tk t F N)
theorem Ctr.useL {k : Int} {d : Nat} {w : World} {f : Addr} {vs : List Value} {news : List (Addr × Obj)} {kw : List (Str × Value)} {Hb : Heap → Prop}
    {loose : List Str} {mean : ExcName → Option Value} {mg mb : Str → Option Value} {dp un : Nat} {gd : Option (List Code)} {cn : Str} {cs : Scope} {a : Addr} {ccd : Value} {cl : List (Str × Addr)} {outer : List Env} {A₀ : Around} {base h₀ : Heap} {L : Addr} {m : Str → Option Value} {h1 : Heap} {gn : Array GenState} {dr : Drawn} {t1 : Nat} {os : OsState} {Q E : Value → Shared → Prop}
    (S : Ctr d w f vs news (fun v n' tk => (∃ t, v = .int k t ∧ t ≠ 0 ∧ t < tk) ∧ n' = news) kw Hb) (B : Below A₀ base outer h₀) (F : Fr h₀ L h1 m) (X : (Mine.hd.heap_39 w.params).In h₀) (N : News h₀ L h1 news) (T : Top topProg loose mean mg mb h₀) (hk : cs.kind = .function)
    (hb : Hb base) (hd : dp + d < recursionLimit) (hu : un + 8 * d < cLine)
    (ret : ∀ h' tk' t, t ≠ 0 → t < tk' → Fr h₀ L h' m → News h₀ L h' news → Q (.int k t) ⟨h', gn, dr, tk', os⟩) :
    wpAny (model PySem.Challenge.rw_sw0054_01.row.prog w) (ktrTop dp un gd cn cs L a ccd cl outer) (call (.ref f) vs kw) Q E ⟨h1, gn, dr, t1, os⟩ :=
  Ctr.use S B F X N T hk hb hd hu (by rintro v n h tk hle ⟨⟨t, rfl, u1, u2⟩, rfl⟩ F N; exact ret h tk t u1 u2 F N)
end

local macro_rules | `(tactic| walk_at $s:str) => `(tactic| k_extra $s)
local macro_rules | `(tactic| k_memK) => `(tactic| assumption)
local macro_rules | `(tactic| k_mem) => `(tactic| (refine List.mem_append_left _ ?_; first | assumption | k_mem))
local macro_rules | `(tactic| walk_at "u.lt") => `(tactic| with_reducible first | assumption | exact And.left (by assumption) | exact And.left (And.right (by assumption)) | exact And.left (And.right (And.right (by assumption))) | exact And.left (And.right (And.right (And.right (by assumption)))) | exact And.left (And.right (And.right (And.right (And.right (by assumption))))) | exact And.left (And.right (And.right (And.right (And.right (And.right (by assumption)))))))
local macro_rules | `(tactic| k_ne) => `(tactic| (refine neN ?_; (try dsimp only); first | (refine Nat.ne_of_lt ?_; walk_at "u.lt"; done) | (refine Nat.ne_of_gt ?_; walk_at "u.lt"; done) | lia | omega))
local macro_rules | `(tactic| ktr_room) => `(tactic| first | decide | exact Mine.room_b (by assumption) (by decide) | exact Mine.room_c (by assumption) | exact Mine.room_d (by assumption) (by decide))
local macro_rules | `(tactic| ktr_units) => `(tactic| first | decide | exact Mine.unit_b (by assumption) (by decide))

-- part H1
section
theorem entry_hasattr : entryFor table "hasattr" = some Builtin.«hasattr» := entryFor_of_tree (by kernel_rfl)
theorem args_hasattr (a b : Value) : argsOk "hasattr" ⟨[a, b], []⟩ := by unfold argsOk; kernel_rfl
theorem str_getitem_lookup : typeLookup (.type "str") "__getitem__" = pure (some (.builtin "str.__getitem__")) := by rw [typeLookup_type, builtinLookup_eq_fast]; kernel_rfl
theorem str_getattribute_lookup : typeLookup (.type "str") "__getattribute__" = pure (some (.builtin "object.__getattribute__")) := by rw [typeLookup_type, builtinLookup_eq_fast]; kernel_rfl
theorem wd_type : typeOf (.builtin "str.__getitem__") = pure (.type "wrapper_descriptor") := by show builtinType _ = _; rw [builtinType_eq_fast]; kernel_rfl
theorem wd_get : typeLookup (.type "wrapper_descriptor") "__get__" = pure (some (.builtin "wrapper_descriptor.__get__")) := by rw [typeLookup_type, builtinLookup_eq_fast]; kernel_rfl
theorem wd_set : typeLookup (.type "wrapper_descriptor") "__set__" = pure none := by rw [typeLookup_type, builtinLookup_eq_fast]; kernel_rfl
theorem wd_del : typeLookup (.type "wrapper_descriptor") "__delete__" = pure none := by rw [typeLookup_type, builtinLookup_eq_fast]; kernel_rfl
theorem wd_getattr : typeLookup (.type "str") "__getattr__" = pure none := by rw [typeLookup_type, builtinLookup_eq_fast]; kernel_rfl
theorem entry_wdget : entryFor table "wrapper_descriptor.__get__" = some Builtin.«wrapper_descriptor.__get__» := entryFor_of_tree (by kernel_rfl)
theorem slot_wd : Slot "wrapper_descriptor" "__get__" "wrapper_descriptor.__get__" :=
  Slot.of (owner := "wrapper_descriptor") (n := "__get__") wd_get (by decide +kernel) (by decide +kernel) (by decide +kernel) (.inl (by decide +kernel)) (by rw [isSubtype_type]; kernel_rfl)
theorem args_wd (a b c : Value) : argsOk "wrapper_descriptor.__get__" ⟨[a, b, c], []⟩ := by unfold argsOk; kernel_rfl
theorem str_sub_str : isSubtype (.type "str") (.type (".".intercalate ("str.__getitem__".cutAt '.').dropLast)) = pure true := by
  rw [show ".".intercalate ("str.__getitem__".cutAt '.').dropLast = "str" from by decide +kernel, isSubtype_type]; kernel_rfl
theorem meets_ga_getitem (x : Str) (t u : Tok) : Meets (Builtin.«object.__getattribute__» ⟨[.str x t, .str (Str.ofString "__getitem__") u], []⟩)
    (fun _ R s => ∀ o : Obj, o.isFreed = false → R (.ok (.ret (.ref s.heap.objs.size))) { s with heap := s.heap.push o }) :=
  Meets.of_wp fun prog w A R s hs => by
    obtain ⟨hp, g, d, tk, os⟩ := s
    have hT : ∀ s' : Shared, s'.TypeIs (.str x t) "str" := fun _ => rfl
    have f1 := str_getitem_lookup
    have f2 := wd_type
    have f3 := wd_get
    have f4 := wd_set
    have f5 := wd_del
    have f6 := str_sub_str
    unfold Builtin.«object.__getattribute__»
    repeat (any_goals (first | assumption | wp_step))
    refine codeAny_call_builtin slot_wd.plain entry_wdget (slot_wd.check _ _ _ _ _ _ _ _ rfl (args_wd _ _ _) ?_)
    unfold Builtin.«wrapper_descriptor.__get__»
    repeat (any_goals (first | assumption | wp_step))
    exact ⟨_, rfl, hs _ rfl⟩
theorem hasattr_str {prog : Program} {w : World} {A : Around} {E : Value → Shared → Prop} {s : Shared} {x : Str} {t u : Tok} {h₀ : Heap} {L : Addr} {m : Str → Option Value} {news : List (Addr × Obj)} {Q : Value → Shared → Prop}
    (Fm : Fr h₀ L s.heap m) (N : News h₀ L s.heap news)
    (h : ∀ h' tk, Fr h₀ L h' m → News h₀ L h' news → Q (.bool true) { s with heap := h', toks := tk }) :
    wpAny (model prog w) A (call (.builtin "hasattr") [.str x t, .str (Str.ofString "__getitem__") u]) Q E s := by
  refine call_function_entry (by decide +kernel) (by decide +kernel) entry_hasattr (args_hasattr _ _) ?_
  obtain ⟨hp, g, d, tk, os⟩ := s
  have f1 := str_getitem_lookup
  have f2 := str_getattribute_lookup
  have f3 : bindSpecial (.builtin "object.__getattribute__") (.str x t) = pure (.builtin "object.__getattribute__", [.str x t]) := F.slot_str_getattribute.bind (.str x t)
  unfold Builtin.«hasattr»
  repeat (any_goals (first | assumption | ((with_reducible show wpAny _ _ (call (Value.builtin "object.__getattribute__") _ _) _ _ _); refine call_meets F.slot_str_getattribute rfl F.entry_object_getattribute (F.args_object_getattribute_2 _ _) (meets_ga_getitem x t u) ?_) | wp_step))
  intro o ho
  show wpAny _ _ (handedOut (.ref _)) _ _ _
  repeat (any_goals (first | assumption | wp_step))
  exact ⟨_, rfl, h _ _ (Fm.push _) (fun p hp => ⟨Heap.get?_push_of_some _ (N p hp).1, (N p hp).2⟩)⟩
end

-- part L0
section
section
variable {prog : Program} {w : World} {A : Around} {E : Value → Shared → Prop} {s : Shared} {env : Env} {h₀ : Heap} {x : Str} {body : List Stmt} {Q : Flow → Shared → Prop}
noncomputable def VarsJ {σ : Type} (ps : σ → List (Str × Value)) (x : Str) (stored : List Str) (m₀ : Str → Option Value) (P : Nat → σ → Prop) (i : Nat) (m : Str → Option Value) : Prop :=
  ∃ c : σ, (∀ p ∈ ps c, m p.1 = some p.2) ∧ (∀ z, z ≠ x → (∀ p ∈ ps c, z ≠ p.1) → stored.contains z = false → m z = m₀ z) ∧ P i c
end
/-- a turn's end where the ledger may grow -/
inductive GEnd (h₀ : Heap) (L : Addr) (wr : List Addr) (own : List (Addr × Obj)) (J : (Str → Option Value) → List (Addr × Obj) → Prop) (s₁ s₂ : Shared) : Prop
  | mk (h' : Heap) (tk' : Nat) (m' : Str → Option Value) (nx : List (Addr × Obj)) (f0 : s₂ = { s₁ with heap := h', toks := tk' }) (f1 : Fr h₀ L h' m') (f2 : News h₀ L h' (nx ++ own)) (f3 : ∀ p ∈ nx, p.1 ∉ wr) (f4 : J m' nx) : GEnd h₀ L wr own J s₁ s₂
noncomputable def GPost (h₀ : Heap) (L : Addr) (wr : List Addr) (own : List (Addr × Obj)) (J : (Str → Option Value) → List (Addr × Obj) → Prop) (s₁ : Shared) (Q : Flow → Shared → Prop) (f : Flow) (s₂ : Shared) : Prop :=
  match f with
  | .ret v => Q (.ret v) s₂
  | .brk => Q .next s₂
  | _ => GEnd h₀ L wr own J s₁ s₂
section
variable {prog : Program} {w : World} {A : Around} {E : Value → Shared → Prop} {s : Shared} {env : Env} {h₀ : Heap} {x : Str} {body : List Stmt} {Q : Flow → Shared → Prop}
theorem news_comm {h : Heap} {L : Addr} {a b : List (Addr × Obj)} (N : News h₀ L h (a ++ b)) : News h₀ L h (b ++ a) :=
  fun p hp => N p ((List.mem_append.mp hp).elim (fun h => List.mem_append.mpr (.inr h)) fun h => List.mem_append.mpr (.inl h))
theorem loop_grow {I : Addr} {n : Nat} {fp wr : List Addr} {P : Nat → Value → Prop} {St : Nat → Heap → Prop} {m₀ : Str → Option Value} {news : List (Addr × Obj)} (J : Nat → (Str → Option Value) → List (Addr × Obj) → Prop)
    (W : Walks prog w A I fp wr n P St) (hob : ∀ i h, St i h → ∃ o, h.get? I = some o) (hIf : I ∈ fp) (hI0 : h₀.get? I = none) (hLf : env.locals ∉ fp) (hwr : ∀ b ∈ wr, h₀.get? b = none) (hnw : ∀ p ∈ news, p.1 ∉ wr) (hst : St 0 s.heap) (Fm : Fr h₀ env.locals s.heap m₀) (N : News h₀ env.locals s.heap news) (hj : J 0 m₀ news)
    (turn : ∀ i v m₁ news₁ h tk own, i < n → P i v → J i m₁ news₁ → (∀ p ∈ news₁, p.1 ∉ wr) → (∀ p ∈ own, p.1 ∈ fp) → (∃ o, (I, o) ∈ own) → Fr h₀ env.locals h (fun y => if y = x then some v else m₁ y) → News h₀ env.locals h (news₁ ++ own) →
      wpAny (model prog w) A (execs body env) (GPost h₀ env.locals wr own (J (i + 1)) { s with heap := h, toks := tk } Q) E { s with heap := h, toks := tk })
    (done : ∀ m₁ news₁ h tk, J n m₁ news₁ → Fr h₀ env.locals h m₁ → News h₀ env.locals h news₁ → Q .next { s with heap := h, toks := tk }) :
    LoopAtV prog w A h₀ env x body Q E (.ref I) s := by
  refine ⟨I, fp, wr, n, P, St, m₀, news, J, rfl, W, hLf, hwr, hnw, hst, Fm, N, hj, ?_, ?_⟩
  · rintro i v m₁ news₁ s₁ own ⟨hh', tk', rfl⟩ hin hP hJ hoff hown _ hall hst' F₁ N₁
    obtain ⟨o, ho⟩ := hob _ _ hst'
    refine wpAny_mono (turn i v m₁ news₁ hh' tk' own hin hP hJ hoff hown ⟨o, hall I hIf hI0 o ho⟩ F₁ (news_comm N₁)) (fun f s₂ p => ?_) fun _ _ e => e
    have fin : GEnd h₀ env.locals wr own (J (i + 1)) { s with heap := hh', toks := tk' } s₂ → LoopStepU h₀ env.locals wr own (J (i + 1)) { s with heap := hh', toks := tk' } .next s₂ := by
      rintro ⟨h', tk, m', nx, e, F', N', hn, hm⟩
      exact ⟨rfl, h', tk, m', nx, e, F', news_comm N', hn, hm⟩
    cases f with
    | ret v => exact .ret p
    | brk => exact .brk p
    | next => exact .next (fin p)
    | cont => exact .cont (fin p)
  · rintro h' tk m' news' F' N' _ hJ
    exact done m' news' h' tk hJ F' N'
/-- the signs of a text, the ledger may grow -/
theorem iter_textG {xt : Str} {tx : Tok} {m₀ : Str → Option Value} {news : List (Addr × Obj)} (J : (Str → Option Value) → List (Addr × Obj) → Nat → (Str → Option Value) → List (Addr × Obj) → Prop)
    (hh : A.handled = none) (ha : xt.cps.all (· < 128) = true) (Fm : Fr h₀ env.locals s.heap m₀) (N : News h₀ env.locals s.heap news) (hj : J m₀ news 0 m₀ news)
    (turn : ∀ i ch t m₁ news₁ h tk own I, xt.cps[i]? = some ch → J m₀ news i m₁ news₁ → (∀ p ∈ news₁, p.1 ≠ I) → (∀ p ∈ own, p.1 = I) → (∃ o, (I, o) ∈ own) → Fr h₀ env.locals h (fun y => if y = x then some (.str ⟨#[ch]⟩ t) else m₁ y) → News h₀ env.locals h (news₁ ++ own) →
      wpAny (model prog w) A (execs body env) (GPost h₀ env.locals [I] own (J m₀ news (i + 1)) { s with heap := h, toks := tk } Q) E { s with heap := h, toks := tk })
    (done : ∀ m₁ news₁ h tk, J m₀ news xt.cps.size m₁ news₁ → Fr h₀ env.locals h m₁ → News h₀ env.locals h news₁ → Q .next { s with heap := h, toks := tk }) :
    wpAny (model prog w) A (pyIter (.str xt tx)) (fun it s₂ => LoopAtV prog w A h₀ env x body Q E it s₂) E s := by
  refine wpAny_pyIter_ascii ha ?_
  refine loop_grow (J m₀ news) (Walks.strAscii hh _ xt tx) (fun i h st => ⟨_, st.choose_spec.1⟩) (.head _) (next_is_new Fm) ?_ ?_ ?_ ⟨_, Heap.get?_push_size _ rfl, rfl, rfl⟩ (Fm.push _) (fun p hp => ⟨Heap.get?_push_of_some _ (N p hp).1, (N p hp).2⟩) hj ?_ done
  · intro hm
    exact absurd Fm.ns.lt ((List.mem_singleton.mp hm) ▸ Nat.lt_irrefl _)
  · intro b' hb
    rw [List.mem_singleton.mp hb]
    exact next_is_new Fm
  · intro p hp hI
    exact absurd (Heap.lt_size (N p hp).1) ((List.mem_singleton.mp hI) ▸ Nat.lt_irrefl _)
  · rintro i v m₁ news₁ h tk own hi ⟨c, u, hc, rfl⟩ hJ hoff hown hIo F₁ N₁
    exact turn i c u m₁ news₁ h tk own _ hc hJ (fun p hp e => hoff p hp (List.mem_singleton.mpr e)) (fun p hp => List.mem_singleton.mp (hown p hp)) hIo F₁ N₁
/-- a list of the ledger, the ledger may grow -/
theorem iter_listG {l : Addr} {vs : List Value} {nn : Nat} {m₀ : Str → Option Value} {news : List (Addr × Obj)} (J : (Str → Option Value) → List (Addr × Obj) → Nat → (Str → Option Value) → List (Addr × Obj) → Prop)
    (hh : A.handled = none) (hl : (l, listOf vs.toArray nn) ∈ news) (Fm : Fr h₀ env.locals s.heap m₀) (N : News h₀ env.locals s.heap news) (hj : J m₀ news 0 m₀ news)
    (turn : ∀ i v m₁ news₁ h tk own I, vs[i]? = some v → J m₀ news i m₁ news₁ → (∀ p ∈ news₁, p.1 ≠ I) → (∀ p ∈ own, p.1 = I ∨ p.1 = l) → (∃ o, (I, o) ∈ own) → (∀ p ∈ news, p.1 < I) → Fr h₀ env.locals h (fun y => if y = x then some v else m₁ y) → News h₀ env.locals h (news₁ ++ own) →
      wpAny (model prog w) A (execs body env) (GPost h₀ env.locals [I] own (J m₀ news (i + 1)) { s with heap := h, toks := tk } Q) E { s with heap := h, toks := tk })
    (done : ∀ m₁ news₁ h tk, J m₀ news vs.length m₁ news₁ → Fr h₀ env.locals h m₁ → News h₀ env.locals h news₁ → Q .next { s with heap := h, toks := tk }) :
    wpAny (model prog w) A (pyIter (.ref l)) (fun it s₂ => LoopAtV prog w A h₀ env x body Q E it s₂) E s := by
  have hg := N _ hl
  have hls : s.heap.IsList l vs.toArray := ⟨_, hg.1, rfl, nn, rfl⟩
  have hlt : l < s.heap.objs.size := Heap.lt_size hg.1
  refine wpAny_pyIter_list hls ?_
  have W := Walks.list (prog := prog) (w := w) hh s.heap.objs.size l (Nat.ne_of_lt hlt) vs.toArray
  rw [List.size_toArray] at W
  refine loop_grow (J m₀ news) W (fun i h st => ⟨_, st.1.choose_spec.1⟩) (.head _) (next_is_new Fm) ?_ ?_ ?_ ⟨⟨_, Heap.get?_push_size _ rfl, rfl, rfl⟩, hls.at fun o e => Heap.get?_push_of_some _ e⟩ (Fm.push _) (fun p hp => ⟨Heap.get?_push_of_some _ (N p hp).1, (N p hp).2⟩) hj ?_ done
  · intro hm
    rcases List.mem_cons.mp hm with e | hm
    · exact absurd Fm.ns.lt (e ▸ Nat.lt_irrefl _)
    · exact hg.2.1 (List.mem_singleton.mp hm).symm
  · intro b hb
    rw [List.mem_singleton.mp hb]
    exact next_is_new Fm
  · intro p hp hI
    exact absurd (Heap.lt_size (N p hp).1) ((List.mem_singleton.mp hI) ▸ Nat.lt_irrefl _)
  · rintro i v m₁ news₁ h tk own hi hv hJ hoff hown hIo F₁ N₁
    refine turn i v m₁ news₁ h tk own _ (by simpa using hv) hJ (fun p hp e => hoff p hp (List.mem_singleton.mpr e)) (fun p hp => ?_) hIo (fun p hp => Heap.lt_size (N p hp).1) F₁ N₁
    rcases List.mem_cons.mp (hown p hp) with e | e
    · exact .inl e
    · exact .inr (List.mem_singleton.mp e)
/-- a for over a list of the ledger, whatever its values; the ledger stands as it stood -/
theorem iter_keepL {l : Addr} {vs : List Value} {nn : Nat} {m₀ : Str → Option Value} {news : List (Addr × Obj)} (J : Nat → (Str → Option Value) → Prop)
    (hh : A.handled = none) (hl : (l, listOf vs.toArray nn) ∈ news) (Fm : Fr h₀ env.locals s.heap m₀) (N : News h₀ env.locals s.heap news) (hj : J 0 m₀)
    (turn : ∀ i v m₁ h tk own, vs[i]? = some v → J i m₁ → Fr h₀ env.locals h (fun y => if y = x then some v else m₁ y) → News h₀ env.locals h (news ++ own) →
      wpAny (model prog w) A (execs body env) (InvPost h₀ env.locals (J (i + 1)) (news ++ own) { s with heap := h, toks := tk } Q) E { s with heap := h, toks := tk })
    (done : ∀ m₁ h tk, J vs.length m₁ → Fr h₀ env.locals h m₁ → News h₀ env.locals h news → Q .next { s with heap := h, toks := tk }) :
    wpAny (model prog w) A (pyIter (.ref l)) (fun it s₂ => LoopAtV prog w A h₀ env x body Q E it s₂) E s := by
  refine iter_listG (fun _ _ i m nx => nx = news ∧ J i m) hh hl Fm N ⟨rfl, hj⟩ ?_ ?_
  · rintro i v m₁ news₁ h tk own I hv ⟨rfl, hJ⟩ hoff _ _ _ F₁ N₁
    refine wpAny_mono (turn i v m₁ h tk own hv hJ F₁ N₁) (fun f s₂ p => ?_) fun _ _ e => e
    have fin : InvEnd h₀ env.locals (J (i + 1)) (news₁ ++ own) { s with heap := h, toks := tk } s₂ → GEnd h₀ env.locals [I] own (fun m nx => nx = news₁ ∧ J (i + 1) m) { s with heap := h, toks := tk } s₂ := by
      rintro ⟨h', tk', m', news', e, F', N', hn, hm⟩
      exact ⟨h', tk', m', news₁, e, F', fun p hp => N' p (hn p hp), fun p hp q => hoff p hp (List.mem_singleton.mp q), rfl, hm⟩
    cases f with
    | ret v => exact p
    | brk => exact p
    | next => exact fin p
    | cont => exact fin p
  · rintro m₁ news₁ h tk ⟨rfl, hJ⟩ F' N'
    exact done m₁ h tk hJ F' N'
theorem kst_listV {σ : Type} {l : Addr} {vs : List Value} {nn : Nat} {m₀ : Str → Option Value} {news : List (Addr × Obj)} (ps : σ → List (Str × Value)) (stored : List Str) (P : Nat → σ → Prop) (c₀ : σ)
    (hh : A.handled = none) (hl : (l, listOf vs.toArray nn) ∈ news) (Fm : Fr h₀ env.locals s.heap m₀) (N : News h₀ env.locals s.heap news) (hk : ∀ p ∈ ps c₀, m₀ p.1 = some p.2) (hp : P 0 c₀)
    (turn : ∀ (c : σ) i v (u : Str → Option Value) h tk own, vs[i]? = some v → P i c →
      Fr h₀ env.locals h (fun y => if y = x then some v else kstB (fun z => if stored.contains z then u z else m₀ z) (ps c) y) → News h₀ env.locals h (news ++ own) →
      wpAny (model prog w) A (execs body env) (InvPost h₀ env.locals (VarsJ ps x stored m₀ P (i + 1)) (news ++ own) { s with heap := h, toks := tk } Q) E { s with heap := h, toks := tk })
    (done : ∀ (c : σ) (u : Str → Option Value) h tk, P vs.length c → Fr h₀ env.locals h (fun y => if y = x then u y else kstB (fun z => if stored.contains z then u z else m₀ z) (ps c) y) → News h₀ env.locals h news → Q .next { s with heap := h, toks := tk }) :
    wpAny (model prog w) A (pyIter (.ref l)) (fun it s₂ => LoopAtV prog w A h₀ env x body Q E it s₂) E s := by
  refine iter_keepL (VarsJ ps x stored m₀ P) hh hl Fm N ⟨c₀, hk, fun _ _ _ _ => rfl, hp⟩ ?_ ?_
  · rintro i v m₁ h tk own hv ⟨c, h1, h2, hp'⟩ F₁ N₁
    exact turn c i v m₁ h tk own hv hp' (kst_fr h1 h2 F₁) N₁
  · rintro m₁ h tk ⟨c, h1, h2, hp'⟩ F₁ N₁
    exact done c m₁ h tk hp' (kst_frOut h1 h2 F₁) N₁
end
theorem is_int {M : Model} {A : Around} {E : Value → Shared → Prop} {s : Shared} {p q : Int} {t u : Tok} {Q : Value → Shared → Prop} (ht : t ≠ 0) (hu : u ≠ 0) (hs : -5 ≤ p ∧ p ≤ 256) (hne : p ≠ q → t ≠ u)
    (h : Q (.bool (decide (p = q))) s) : wpAny M A (compareOp .Is (.int p t) (.int q u)) Q E s := by
  have h0 : (t == 0 || u == 0) = false := by simp [ht, hu]
  show wpAny M A (do pure (Value.bool (← isSame (.int p t) (.int q u)))) Q E s
  refine wpAny_bind ?_
  unfold isSame
  by_cases e : p = q
  · have e1 : (p == q && smallInt p) = true := by simp [e, smallInt]; (first | lia | omega)
    simp only [e1, if_true]
    unfold isSame.cachedInt
    simp only [h0, Bool.false_eq_true, if_false]
    refine wpAny_bind (wpAny_rule (wpAny_pure (wpAny_pure ?_)))
    rw [decide_eq_true e] at h
    exact h
  · have e1 : (p == q && smallInt p) = false := by simp [e]
    have e2 : (p == q) = false := by simp [e]
    have e3 : (t == u) = false := by simpa using hne e
    simp only [e1, Bool.false_eq_true, if_false]
    unfold isSame.created
    simp only [h0, e2, e3, Bool.false_eq_true, if_false, Bool.not_false, if_true]
    refine wpAny_pure (wpAny_pure ?_)
    rw [decide_eq_false e] at h
    exact h
end

-- part S1
section
theorem add_spec (w : World) (x y : Int) (tx ty : Tok) (news : List (Addr × Obj)) :
    Ctr 1 w 46 [.int x tx, .int y ty] news (fun v n' _ => (∃ t, v = .int (x + y) t) ∧ n' = news) := by
  w_top off
  k_with_none
  unfold Ctr
  k_fill
  intro loose mean mg mb dp un gd cn cs a₉ ccd cl outer A₀ base h₀ L₉ m₉ s Q E B₉ F₉ X₉ N₉ T₉ hk hb₉ hd₉ hu₉ hret
  refine wpAny_call ?_
  k_dflt cell_enter
  k_steps
  all_goals exact hret _ _ _ _ ⟨⟨_, rfl⟩, rfl⟩ (by k_asm) (by k_asm)
theorem sub_spec (w : World) (x y : Int) (tx ty : Tok) (news : List (Addr × Obj)) :
    Ctr 1 w 60 [.int x tx, .int y ty] news (fun v n' _ => (∃ t, v = .int (x - y) t) ∧ n' = news) := by
  w_top off
  k_with_none
  unfold Ctr
  k_fill
  intro loose mean mg mb dp un gd cn cs a₉ ccd cl outer A₀ base h₀ L₉ m₉ s Q E B₉ F₉ X₉ N₉ T₉ hk hb₉ hd₉ hu₉ hret
  refine wpAny_call ?_
  k_dflt cell_enter
  k_steps
  all_goals exact hret _ _ _ _ ⟨⟨_, rfl⟩, rfl⟩ (by k_asm) (by k_asm)
theorem mul_spec (w : World) (x y : Int) (tx ty : Tok) (news : List (Addr × Obj)) (hm : IntMulOk x y) :
    Ctr 1 w 53 [.int x tx, .int y ty] news (fun v n' _ => (∃ t, v = .int (x * y) t) ∧ n' = news) := by
  w_top off
  k_with_none
  unfold Ctr
  k_fill
  intro loose mean mg mb dp un gd cn cs a₉ ccd cl outer A₀ base h₀ L₉ m₉ s Q E B₉ F₉ X₉ N₉ T₉ hk hb₉ hd₉ hu₉ hret
  refine wpAny_call ?_
  k_dflt cell_enter
  k_steps
  all_goals exact hret _ _ _ _ ⟨⟨_, rfl⟩, rfl⟩ (by k_asm) (by k_asm)
theorem mulS_spec (w : World) (x : Int) (ts tx : Tok) (news : List (Addr × Obj)) (h0 : 0 ≤ x) (h1 : x < 4) :
    Ctr 1 w 53 [.str (Str.ofString " ") ts, .int x tx] news (fun v n' _ => (∃ t, v = .str (Txt.mul (Str.ofString " ") x) t) ∧ n' = news) := by
  w_top off
  k_with_none
  unfold Ctr
  k_fill
  intro loose mean mg mb dp un gd cn cs a₉ ccd cl outer A₀ base h₀ L₉ m₉ s Q E B₉ F₉ X₉ N₉ T₉ hk hb₉ hd₉ hu₉ hret
  refine wpAny_call ?_
  k_dflt cell_enter
  k_steps
  all_goals first | exact hret _ _ _ _ ⟨⟨_, rfl⟩, rfl⟩ (by k_asm) (by k_asm) | fail "open"
theorem concat_spec (w : World) (x y : Str) (ts tx : Tok) (news : List (Addr × Obj)) (hx : x.length ≤ 100) (hy : y.length ≤ 100) :
    Ctr 2 w 67 [.str x ts, .str y tx] news (fun v n' _ => (∃ t, v = .str (x ++ y) t) ∧ n' = news) := by
  w_top off
  k_with_none
  k_with "call builtin:hasattr" => (k_here; k_dflt (refine' hasattr_str ?z0k1 ?z0k2 ?_; (case z0k1 => k_asm); (case z0k2 => k_asm); k_whole); intro h' tk' F' N'; (try k_sweep))
  unfold Ctr
  k_fill
  intro loose mean mg mb dp un gd cn cs a₉ ccd cl outer A₀ base h₀ L₉ m₉ s Q E B₉ F₉ X₉ N₉ T₉ hk hb₉ hd₉ hu₉ hret
  refine wpAny_call ?_
  k_dflt cell_enter
  k_steps
  all_goals first | exact hret _ _ _ _ ⟨⟨_, rfl⟩, rfl⟩ (by k_asm) (by k_asm) | fail "open"
theorem item_list {prog : Program} {w : World} {A : Around} {E : Value → Shared → Prop} {s : Shared} {h₀ : Heap} {L l : Addr} {news : List (Addr × Obj)} {vs : List Value} {n : Nat} {k : Int} {u : Tok} {v : Value} {value slice : PySem.Expr} {Q : Value → Shared → Prop}
    (N : News h₀ L s.heap news) (hm : (l, listOf vs.toArray n) ∈ news) (h0 : 0 ≤ k) (hhi : k < 2 ^ 63) (hx : vs[k.toNat]? = some v) (h : Q v s)
    (hs : subscripted slice false (.ref l) (.int k u) = operate [.ref l, .int k u] (getItem (.ref l) (.int k u)) := by with_unfolding_all rfl) :
    wpAny (model prog w) A (subscriptTail value slice (.ref l) (.int k u)) Q E s :=
  have hl : s.heap.IsList l vs.toArray := ⟨_, (N _ hm).1, rfl, n, rfl⟩
  tail_any hl.typeIs slot_list_getitem.lookup (wpAny_getItem_list hl h0 hhi (by simpa using hx) h) hs
theorem intsAt {vs : List Value} {ns : List Int} (h : IntsAre vs ns) {k : Nat} (hk : k < ns.length) : ∃ t, vs[k]? = some (.int (ns.getD k 0) t) := by
  obtain ⟨t, e⟩ := h.get k (ns.getD k 0) (by simp [List.getD, hk])
  exact ⟨t, e⟩
theorem item_ints {prog : Program} {w : World} {A : Around} {E : Value → Shared → Prop} {s : Shared} {h₀ : Heap} {L l : Addr} {news : List (Addr × Obj)} {vs : List Value} {ns : List Int} {n : Nat} {k : Int} {u : Tok} {value slice : PySem.Expr} {Q : Value → Shared → Prop}
    (N : News h₀ L s.heap news) (hm : (l, listOf vs.toArray n) ∈ news) (hi : IntsAre vs ns) (h0 : 0 ≤ k) (h1 : k < ns.length) (h2 : k < 1000) (h : ∀ t, Q (.int (ns.getD k.toNat 0) t) s)
    (hs : subscripted slice false (.ref l) (.int k u) = operate [.ref l, .int k u] (getItem (.ref l) (.int k u)) := by with_unfolding_all rfl) :
    wpAny (model prog w) A (subscriptTail value slice (.ref l) (.int k u)) Q E s := by
  obtain ⟨t, e⟩ := intsAt hi (k := k.toNat) (by (first | lia | omega))
  exact item_list N hm h0 (by (first | lia | omega)) e (h t) hs
theorem getitem_spec (w : World) (l : Addr) (vs : List Value) (ns : List Int) (n : Nat) (k : Int) (tx : Tok) (news : List (Addr × Obj)) (hm : (l, listOf vs.toArray n) ∈ news) (hi : IntsAre vs ns) (hk0 : 0 ≤ k) (hk1 : k < ns.length) (hk2 : k < 1000) :
    Ctr 1 w 81 [.ref l, .int k tx] news (fun r n' _ => (∃ t, r = .int (ns.getD k.toNat 0) t) ∧ n' = news) := by
  obtain ⟨t9, ht9⟩ := intsAt hi (k := k.toNat) (by (first | lia | omega))
  w_top off
  k_with_none
  k_with "call builtin:hasattr" => (k_here; k_dflt (refine' hasattr_str ?z0k1 ?z0k2 ?_; (case z0k1 => k_asm); (case z0k2 => k_asm); k_whole); intro h' tk' F' N'; (try k_sweep))
  unfold Ctr
  k_fill
  intro loose mean mg mb dp un gd cn cs a₉ ccd cl outer A₀ base h₀ L₉ m₉ s Q E B₉ F₉ X₉ N₉ T₉ hk hb₉ hd₉ hu₉ hret
  refine wpAny_call ?_
  k_dflt cell_enter
  k_with_none
  k_with "call builtin:hasattr" => (k_here; k_dflt (refine' hasattr_str ?z0k1 ?z0k2 ?_; (case z0k1 => k_asm); (case z0k2 => k_asm); k_whole); intro h' tk' F' N'; (try k_sweep))
  k_with "subscriptTail Name Name ref int" => (k_here; k_dflt (refine' item_list ?N ?m ?a ?b ?c ?_; (case N => k_asm); (case m => assumption); (case a => (first | lia | omega)); (case b => (first | lia | omega)); (case c => exact ht9); k_whole))
  k_steps
  all_goals exact hret _ _ _ _ ⟨⟨_, rfl⟩, rfl⟩ (by k_asm) (by k_asm)
end

-- part S2
section
theorem fits_int {x y : Int} (h : y.natAbs < 2 ^ 64) : IntMulOk x y := IntMulOk.of_right (intBits_le_iff.mpr h)
noncomputable def prodTo (ns : List Int) (x : Int) : Nat → Int
  | 0 => 1
  | k + 1 => prodTo ns x k * (ns.getD k 0 + x - k)
theorem fits_step {part x kN kM : Int} {p k0 n : Nat} (hx : x.natAbs < 2 ^ 60) (e : kN = 0 + (p : Int)) (h : p < (((n : Int) - kM) - 0).toNat) (hM : kM = k0) (hn : n ≤ 100) : IntMulOk part (x - kN) :=
  have h1 : (p : Int) < (n : Int) - kM - 0 := Int.lt_toNat.mp h
  have h2 : kN ≤ (100 : Nat) := by
    rw [e, Int.zero_add]
    exact Int.le_trans (Int.le_of_lt h1) (Int.le_trans (Int.sub_le_self _ (Int.le_refl 0)) (Int.le_trans (Int.sub_le_self _ (hM ▸ Int.natCast_nonneg k0)) (Int.ofNat_le.mpr hn)))
  fits_int (Nat.lt_of_le_of_lt (Int.natAbs_sub_le x kN) (Nat.lt_of_lt_of_le (Nat.add_lt_add_of_lt_of_le hx (natAbs_le (kz e) h2)) (by decide)))
theorem product_spec (w : World) (l : Addr) (vs : List Value) (ns : List Int) (n : Nat) (x : Int) (tx : Tok) (news : List (Addr × Obj)) (hm : (l, listOf vs.toArray n) ∈ news) (hi : IntsAre vs ns) (hlen : ns.length ≤ 100)
    (hb : ∀ k : Nat, k < ns.length → (ns.getD k 0 + x - k).natAbs < 2 ^ 64) :
    Ctr 3 w 192 [.ref l, .int x tx] news (fun r n' _ => (∃ t, r = .int (prodTo ns x ns.length) t) ∧ n' = news) := by
  w_top off
  k_with_none
  k_with "eval Name" => (k_here; k_dflt (refine' nameX_L ?z0F ?z0v ?_ ?z0a ?z0b; (case z0F => k_asm); (case z0a => rfl); (case z0b => rfl); (case z0v => exact Eq.refl (some _)); k_whole))
  k_with "exec For Name Attribute cons nil" => (k_here; (with_unfolding_all refine' For_invVF ?z1kF ?z1k1 ?z1k2 ?_; (case z1kF => assumption); (case z1k1 => exact rfl); (case z1k2 => exact rfl); k_whole))
  k_with "exec For Name Name cons nil" => (k_here; (with_unfolding_all refine' For_invVF ?z2kF ?z2k1 ?z2k2 ?_; (case z2kF => assumption); (case z2k1 => exact rfl); (case z2k2 => exact rfl); k_whole))
  k_with "call builtin:len" => (k_here; (with_reducible show wpAny _ _ (call (Value.builtin "len") [Value.ref _]) _ _ _); k_dflt (refine' kst_len ?z3k1 ?z3k2 ?z3k3 ?z3k4 ?_; (case z3k1 => k_asm); (case z3k2 => k_mem); (case z3k3 => first | exact IntsAre.length (by assumption) | assumption); (case z3k4 => (first | lia | omega)); k_whole))
  k_with "binaryOp Mult int int" => (k_here; refine PyProof.Rows.mul_int ?_ (by exact fits_step (by assumption) (by assumption) (by assumption) (by assumption) (by assumption)))
  k_with "call ref" => (k_here; k_dflt (refine' Ctr.useI (add_spec _ _ _ _ _ _) ?z5k1 ?z5k2 ?z5k3 ?z5k4 ?z5k5 ?z5kK ?z5kb ?z5kd ?z5ku ?_; (case z5k1 => k_asm); (case z5k2 => k_asm); (case z5k3 => k_asm); (case z5k4 => k_asm); (case z5k5 => k_asm); (case z5kK => first | exact rfl | assumption); (case z5kb => first | exact trivial | assumption); (case z5kd => ktr_room); (case z5ku => ktr_units)); (intro _ _ _ _ _); (try dsimp only); (try k_fold); (try k_sweep))
  k_with "call ref" => (k_here; k_dflt (refine' Ctr.useI (sub_spec _ _ _ _ _ _) ?z6k1 ?z6k2 ?z6k3 ?z6k4 ?z6k5 ?z6kK ?z6kb ?z6kd ?z6ku ?_; (case z6k1 => k_asm); (case z6k2 => k_asm); (case z6k3 => k_asm); (case z6k4 => k_asm); (case z6k5 => k_asm); (case z6kK => first | exact rfl | assumption); (case z6kb => first | exact trivial | assumption); (case z6kd => ktr_room); (case z6ku => ktr_units)); (intro _ _ _ _ _); (try dsimp only); (try k_fold); (try k_sweep))
  k_with "call ref" => (k_here; k_dflt (refine' Ctr.useI (mul_spec _ _ _ _ _ _ ?z7c1) ?z7k1 ?z7k2 ?z7k3 ?z7k4 ?z7k5 ?z7kK ?z7kb ?z7kd ?z7ku ?_; (case z7k1 => k_asm); (case z7k2 => k_asm); (case z7k3 => k_asm); (case z7k4 => k_asm); (case z7k5 => k_asm); (case z7c1 => first | assumption | (exact fits_int (by assumption)) | k_extra "mul"); (case z7kK => first | exact rfl | assumption); (case z7kb => first | exact trivial | assumption); (case z7kd => ktr_room); (case z7ku => ktr_units)); (intro _ _ _ _ _); (try dsimp only); (try k_fold); (try k_sweep))
  k_with "call ref" => (k_here; k_dflt (refine' Ctr.useI (getitem_spec _ _ _ _ _ _ _ _ ?z8c1 ?z8c2 ?z8c3 ?z8c4 ?z8c5) ?z8k1 ?z8k2 ?z8k3 ?z8k4 ?z8k5 ?z8kK ?z8kb ?z8kd ?z8ku ?_; (case z8k1 => k_asm); (case z8k2 => k_asm); (case z8k3 => k_asm); (case z8k4 => k_asm); (case z8k5 => k_asm); (case z8c1 => k_mem); (case z8c2 => assumption); (case z8c3 => first | exact kz (by assumption) | (first | lia | omega)); (case z8c4 => first | exact kl (by assumption) (by assumption) | (first | lia | omega)); (case z8c5 => first | exact kb (by assumption) (by assumption) (by assumption) (by decide) | (first | lia | omega)); (case z8kK => first | exact rfl | assumption); (case z8kb => first | exact trivial | assumption); (case z8kd => ktr_room); (case z8ku => ktr_units)); (intro _ _ _ _ _); (try dsimp only); (try k_fold); (try k_sweep))
  unfold Ctr
  k_fill
  intro loose mean mg mb dp un gd cn cs a₉ ccd cl outer A₀ base h₀ L₉ m₉ s Q E B₉ F₉ X₉ N₉ T₉ hk hb₉ hd₉ hu₉ hret
  refine wpAny_call ?_
  k_dflt cell_enter
  k_with_none
  k_with "eval Name" => (k_here; k_dflt (refine' nameX_L ?z0F ?z0v ?_ ?z0a ?z0b; (case z0F => k_asm); (case z0a => rfl); (case z0b => rfl); (case z0v => exact Eq.refl (some _)); k_whole))
  k_with "exec For Name Attribute cons nil" => (k_here; (with_unfolding_all refine' For_invVF ?z1kF ?z1k1 ?z1k2 ?_; (case z1kF => assumption); (case z1k1 => exact rfl); (case z1k2 => exact rfl); k_whole))
  k_with "exec For Name Name cons nil" => (k_here; (with_unfolding_all refine' For_invVF ?z2kF ?z2k1 ?z2k2 ?_; (case z2kF => assumption); (case z2k1 => exact rfl); (case z2k2 => exact rfl); k_whole))
  k_with "call builtin:len" => (k_here; (with_reducible show wpAny _ _ (call (Value.builtin "len") [Value.ref _]) _ _ _); k_dflt (refine' kst_len ?z3k1 ?z3k2 ?z3k3 ?z3k4 ?_; (case z3k1 => k_asm); (case z3k2 => k_mem); (case z3k3 => first | exact IntsAre.length (by assumption) | assumption); (case z3k4 => (first | lia | omega)); k_whole))
  k_with "binaryOp Mult int int" => (k_here; refine PyProof.Rows.mul_int ?_ (by exact fits_step (by assumption) (by assumption) (by assumption) (by assumption) (by assumption)))
  k_with "call ref" => (k_here; k_dflt (refine' Ctr.useI (add_spec _ _ _ _ _ _) ?z5k1 ?z5k2 ?z5k3 ?z5k4 ?z5k5 ?z5kK ?z5kb ?z5kd ?z5ku ?_; (case z5k1 => k_asm); (case z5k2 => k_asm); (case z5k3 => k_asm); (case z5k4 => k_asm); (case z5k5 => k_asm); (case z5kK => first | exact rfl | assumption); (case z5kb => first | exact trivial | assumption); (case z5kd => ktr_room); (case z5ku => ktr_units)); (intro _ _ _ _ _); (try dsimp only); (try k_fold); (try k_sweep))
  k_with "call ref" => (k_here; k_dflt (refine' Ctr.useI (sub_spec _ _ _ _ _ _) ?z6k1 ?z6k2 ?z6k3 ?z6k4 ?z6k5 ?z6kK ?z6kb ?z6kd ?z6ku ?_; (case z6k1 => k_asm); (case z6k2 => k_asm); (case z6k3 => k_asm); (case z6k4 => k_asm); (case z6k5 => k_asm); (case z6kK => first | exact rfl | assumption); (case z6kb => first | exact trivial | assumption); (case z6kd => ktr_room); (case z6ku => ktr_units)); (intro _ _ _ _ _); (try dsimp only); (try k_fold); (try k_sweep))
  k_with "call ref" => (k_here; k_dflt (refine' Ctr.useI (mul_spec _ _ _ _ _ _ ?z7c1) ?z7k1 ?z7k2 ?z7k3 ?z7k4 ?z7k5 ?z7kK ?z7kb ?z7kd ?z7ku ?_; (case z7k1 => k_asm); (case z7k2 => k_asm); (case z7k3 => k_asm); (case z7k4 => k_asm); (case z7k5 => k_asm); (case z7c1 => first | assumption | (exact fits_int (by assumption)) | k_extra "mul"); (case z7kK => first | exact rfl | assumption); (case z7kb => first | exact trivial | assumption); (case z7kd => ktr_room); (case z7ku => ktr_units)); (intro _ _ _ _ _); (try dsimp only); (try k_fold); (try k_sweep))
  k_with "call ref" => (k_here; k_dflt (refine' Ctr.useI (getitem_spec _ _ _ _ _ _ _ _ ?z8c1 ?z8c2 ?z8c3 ?z8c4 ?z8c5) ?z8k1 ?z8k2 ?z8k3 ?z8k4 ?z8k5 ?z8kK ?z8kb ?z8kd ?z8ku ?_; (case z8k1 => k_asm); (case z8k2 => k_asm); (case z8k3 => k_asm); (case z8k4 => k_asm); (case z8k5 => k_asm); (case z8c1 => k_mem); (case z8c2 => assumption); (case z8c3 => first | exact kz (by assumption) | (first | lia | omega)); (case z8c4 => first | exact kl (by assumption) (by assumption) | (first | lia | omega)); (case z8c5 => first | exact kb (by assumption) (by assumption) (by assumption) (by decide) | (first | lia | omega)); (case z8kK => first | exact rfl | assumption); (case z8kb => first | exact trivial | assumption); (case z8kd => ktr_room); (case z8ku => ktr_units)); (intro _ _ _ _ _); (try dsimp only); (try k_fold); (try k_sweep))
  (repeat' ((fail_if_success (with_reducible show wpAny _ _ (PySem.pyIter _) _ _ _)); (fail_if_success (with_reducible show wpAny _ _ (PySem.exec (PySem.Stmt.While _ _ _ _) _) _ _ _)); first | ((fail_if_success (fail_if_success (with_reducible show wpAny _ _ _ _ _ (PySem.Shared.mk _ (PySem.Shared.gens (PySem.Shared.mk _ _ _ _ _)) _ _ _)))); dsimp only) | (k_unfold; (try dsimp only)) | (k_end; wrow_close) | walk1 | (dsimp only; walk1) | (leave1; walk_say "STEP leave1"; try dsimp only) | fail "no step"))
  k_with "mul" => exact fits_int (by have h := hb kPre.length (by (first | lia | omega)); have e : kN = (kPre.length : Int) := by (first | lia | omega)
                                     rw [e]; simpa using h)
  k_with "state" => (have e : kN = (kPre.length : Int) := by (first | lia | omega)
                     rw [e, kInv, List.length_append, List.length_singleton]; simp [prodTo])
  k_with "state" => rfl
  k_state (fun pre told => told = prodTo ns x pre.length) "told"
  all_goals (repeat' ((fail_if_success (with_reducible show wpAny _ _ (PySem.pyIter _) _ _ _)); (fail_if_success (with_reducible show wpAny _ _ (PySem.exec (PySem.Stmt.While _ _ _ _) _) _ _ _)); first | ((fail_if_success (fail_if_success (with_reducible show wpAny _ _ _ _ _ (PySem.Shared.mk _ (PySem.Shared.gens (PySem.Shared.mk _ _ _ _ _)) _ _ _)))); dsimp only) | (k_unfold; (try dsimp only)) | (k_end; wrow_close) | walk1 | (dsimp only; walk1) | (leave1; walk_say "STEP leave1"; try dsimp only) | fail "no step"))
  (simp only [rangeKs_length, Int.sub_zero, Int.toNat_natCast] at kInv; rw [kInv]; exact hret _ _ _ _ ⟨⟨_, rfl⟩, rfl⟩ (by k_asm) (by k_asm))
noncomputable def ff (x : Int) : Nat → Int
  | 0 => 1
  | k + 1 => ff x k * (x - k)
noncomputable def dueTo (ns : List Int) (n : Nat) (x : Int) : Nat → Int
  | 0 => 0
  | k + 1 => dueTo ns n x k + ns.getD k 0 * ff x (n - k)
theorem due_spec (w : World) (l : Addr) (vs : List Value) (ns : List Int) (c : Nat) (n : Nat) (x : Int) (tn tx : Tok) (news : List (Addr × Obj)) (hm : (l, listOf vs.toArray c) ∈ news) (hi : IntsAre vs ns) (hlen : ns.length ≤ 100)
    (hn : n ≤ 100) (hx : x.natAbs < 2 ^ 60) :
    Ctr 3 w 180 [.ref l, .int n tn, .int x tx] news (fun r n' _ => (∃ t, r = .int (dueTo ns n x ns.length) t) ∧ n' = news) := by
  w_top off
  k_with_none
  k_with "eval Name" => (k_here; k_dflt (refine' nameX_L ?z0F ?z0v ?_ ?z0a ?z0b; (case z0F => k_asm); (case z0a => rfl); (case z0b => rfl); (case z0v => exact Eq.refl (some _)); k_whole))
  k_with "exec For Name Attribute cons nil" => (k_here; (with_unfolding_all refine' For_invVF ?z1kF ?z1k1 ?z1k2 ?_; (case z1kF => assumption); (case z1k1 => exact rfl); (case z1k2 => exact rfl); k_whole))
  k_with "exec For Name Name cons nil" => (k_here; (with_unfolding_all refine' For_invVF ?z2kF ?z2k1 ?z2k2 ?_; (case z2kF => assumption); (case z2k1 => exact rfl); (case z2k2 => exact rfl); k_whole))
  k_with "call builtin:len" => (k_here; (with_reducible show wpAny _ _ (call (Value.builtin "len") [Value.ref _]) _ _ _); k_dflt (refine' kst_len ?z3k1 ?z3k2 ?z3k3 ?z3k4 ?_; (case z3k1 => k_asm); (case z3k2 => k_mem); (case z3k3 => first | exact IntsAre.length (by assumption) | assumption); (case z3k4 => (first | lia | omega)); k_whole))
  k_with "binaryOp Mult int int" => (k_here; refine PyProof.Rows.mul_int ?_ (by exact fits_step (by assumption) (by assumption) (by assumption) (by assumption) (by assumption)))
  k_with "call ref" => (k_here; k_dflt (refine' Ctr.useI (add_spec _ _ _ _ _ _) ?z5k1 ?z5k2 ?z5k3 ?z5k4 ?z5k5 ?z5kK ?z5kb ?z5kd ?z5ku ?_; (case z5k1 => k_asm); (case z5k2 => k_asm); (case z5k3 => k_asm); (case z5k4 => k_asm); (case z5k5 => k_asm); (case z5kK => first | exact rfl | assumption); (case z5kb => first | exact trivial | assumption); (case z5kd => ktr_room); (case z5ku => ktr_units)); (intro _ _ _ _ _); (try dsimp only); (try k_fold); (try k_sweep))
  k_with "call ref" => (k_here; k_dflt (refine' Ctr.useI (sub_spec _ _ _ _ _ _) ?z6k1 ?z6k2 ?z6k3 ?z6k4 ?z6k5 ?z6kK ?z6kb ?z6kd ?z6ku ?_; (case z6k1 => k_asm); (case z6k2 => k_asm); (case z6k3 => k_asm); (case z6k4 => k_asm); (case z6k5 => k_asm); (case z6kK => first | exact rfl | assumption); (case z6kb => first | exact trivial | assumption); (case z6kd => ktr_room); (case z6ku => ktr_units)); (intro _ _ _ _ _); (try dsimp only); (try k_fold); (try k_sweep))
  k_with "call ref" => (k_here; k_dflt (refine' Ctr.useI (mul_spec _ _ _ _ _ _ ?z7c1) ?z7k1 ?z7k2 ?z7k3 ?z7k4 ?z7k5 ?z7kK ?z7kb ?z7kd ?z7ku ?_; (case z7k1 => k_asm); (case z7k2 => k_asm); (case z7k3 => k_asm); (case z7k4 => k_asm); (case z7k5 => k_asm); (case z7c1 => first | assumption | (exact fits_int (by assumption)) | k_extra "mul"); (case z7kK => first | exact rfl | assumption); (case z7kb => first | exact trivial | assumption); (case z7kd => ktr_room); (case z7ku => ktr_units)); (intro _ _ _ _ _); (try dsimp only); (try k_fold); (try k_sweep))
  k_with "call ref" => (k_here; k_dflt (refine' Ctr.useI (getitem_spec _ _ _ _ _ _ _ _ ?z8c1 ?z8c2 ?z8c3 ?z8c4 ?z8c5) ?z8k1 ?z8k2 ?z8k3 ?z8k4 ?z8k5 ?z8kK ?z8kb ?z8kd ?z8ku ?_; (case z8k1 => k_asm); (case z8k2 => k_asm); (case z8k3 => k_asm); (case z8k4 => k_asm); (case z8k5 => k_asm); (case z8c1 => k_mem); (case z8c2 => assumption); (case z8c3 => first | exact kz (by assumption) | (first | lia | omega)); (case z8c4 => first | exact kl (by assumption) (by assumption) | (first | lia | omega)); (case z8c5 => first | exact kb (by assumption) (by assumption) (by assumption) (by decide) | (first | lia | omega)); (case z8kK => first | exact rfl | assumption); (case z8kb => first | exact trivial | assumption); (case z8kd => ktr_room); (case z8ku => ktr_units)); (intro _ _ _ _ _); (try dsimp only); (try k_fold); (try k_sweep))
  unfold Ctr
  k_fill
  intro loose mean mg mb dp un gd cn cs a₉ ccd cl outer A₀ base h₀ L₉ m₉ s Q E B₉ F₉ X₉ N₉ T₉ hk hb₉ hd₉ hu₉ hret
  refine wpAny_call ?_
  k_dflt cell_enter
  k_with_none
  k_with "eval Name" => (k_here; k_dflt (refine' nameX_L ?z0F ?z0v ?_ ?z0a ?z0b; (case z0F => k_asm); (case z0a => rfl); (case z0b => rfl); (case z0v => exact Eq.refl (some _)); k_whole))
  k_with "exec For Name Attribute cons nil" => (k_here; (with_unfolding_all refine' For_invVF ?z1kF ?z1k1 ?z1k2 ?_; (case z1kF => assumption); (case z1k1 => exact rfl); (case z1k2 => exact rfl); k_whole))
  k_with "exec For Name Name cons nil" => (k_here; (with_unfolding_all refine' For_invVF ?z2kF ?z2k1 ?z2k2 ?_; (case z2kF => assumption); (case z2k1 => exact rfl); (case z2k2 => exact rfl); k_whole))
  k_with "call builtin:len" => (k_here; (with_reducible show wpAny _ _ (call (Value.builtin "len") [Value.ref _]) _ _ _); k_dflt (refine' kst_len ?z3k1 ?z3k2 ?z3k3 ?z3k4 ?_; (case z3k1 => k_asm); (case z3k2 => k_mem); (case z3k3 => first | exact IntsAre.length (by assumption) | assumption); (case z3k4 => (first | lia | omega)); k_whole))
  k_with "binaryOp Mult int int" => (k_here; refine PyProof.Rows.mul_int ?_ (by exact fits_step (by assumption) (by assumption) (by assumption) (by assumption) (by assumption)))
  k_with "call ref" => (k_here; k_dflt (refine' Ctr.useI (add_spec _ _ _ _ _ _) ?z5k1 ?z5k2 ?z5k3 ?z5k4 ?z5k5 ?z5kK ?z5kb ?z5kd ?z5ku ?_; (case z5k1 => k_asm); (case z5k2 => k_asm); (case z5k3 => k_asm); (case z5k4 => k_asm); (case z5k5 => k_asm); (case z5kK => first | exact rfl | assumption); (case z5kb => first | exact trivial | assumption); (case z5kd => ktr_room); (case z5ku => ktr_units)); (intro _ _ _ _ _); (try dsimp only); (try k_fold); (try k_sweep))
  k_with "call ref" => (k_here; k_dflt (refine' Ctr.useI (sub_spec _ _ _ _ _ _) ?z6k1 ?z6k2 ?z6k3 ?z6k4 ?z6k5 ?z6kK ?z6kb ?z6kd ?z6ku ?_; (case z6k1 => k_asm); (case z6k2 => k_asm); (case z6k3 => k_asm); (case z6k4 => k_asm); (case z6k5 => k_asm); (case z6kK => first | exact rfl | assumption); (case z6kb => first | exact trivial | assumption); (case z6kd => ktr_room); (case z6ku => ktr_units)); (intro _ _ _ _ _); (try dsimp only); (try k_fold); (try k_sweep))
  k_with "call ref" => (k_here; k_dflt (refine' Ctr.useI (mul_spec _ _ _ _ _ _ ?z7c1) ?z7k1 ?z7k2 ?z7k3 ?z7k4 ?z7k5 ?z7kK ?z7kb ?z7kd ?z7ku ?_; (case z7k1 => k_asm); (case z7k2 => k_asm); (case z7k3 => k_asm); (case z7k4 => k_asm); (case z7k5 => k_asm); (case z7c1 => first | assumption | (exact fits_int (by assumption)) | k_extra "mul"); (case z7kK => first | exact rfl | assumption); (case z7kb => first | exact trivial | assumption); (case z7kd => ktr_room); (case z7ku => ktr_units)); (intro _ _ _ _ _); (try dsimp only); (try k_fold); (try k_sweep))
  k_with "call ref" => (k_here; k_dflt (refine' Ctr.useI (getitem_spec _ _ _ _ _ _ _ _ ?z8c1 ?z8c2 ?z8c3 ?z8c4 ?z8c5) ?z8k1 ?z8k2 ?z8k3 ?z8k4 ?z8k5 ?z8kK ?z8kb ?z8kd ?z8ku ?_; (case z8k1 => k_asm); (case z8k2 => k_asm); (case z8k3 => k_asm); (case z8k4 => k_asm); (case z8k5 => k_asm); (case z8c1 => k_mem); (case z8c2 => assumption); (case z8c3 => first | exact kz (by assumption) | (first | lia | omega)); (case z8c4 => first | exact kl (by assumption) (by assumption) | (first | lia | omega)); (case z8c5 => first | exact kb (by assumption) (by assumption) (by assumption) (by decide) | (first | lia | omega)); (case z8kK => first | exact rfl | assumption); (case z8kb => first | exact trivial | assumption); (case z8kd => ktr_room); (case z8ku => ktr_units)); (intro _ _ _ _ _); (try dsimp only); (try k_fold); (try k_sweep))
  (repeat' ((fail_if_success (with_reducible show wpAny _ _ (PySem.pyIter _) _ _ _)); (fail_if_success (with_reducible show wpAny _ _ (PySem.exec (PySem.Stmt.While _ _ _ _) _) _ _ _)); first | ((fail_if_success (fail_if_success (with_reducible show wpAny _ _ _ _ _ (PySem.Shared.mk _ (PySem.Shared.gens (PySem.Shared.mk _ _ _ _ _)) _ _ _)))); dsimp only) | (k_unfold; (try dsimp only)) | (k_end; wrow_close) | walk1 | (dsimp only; walk1) | (leave1; walk_say "STEP leave1"; try dsimp only) | fail "no step"))
  k_state (fun pre due => due = dueTo ns n x pre.length) "due"
  focus
    (repeat' ((fail_if_success (with_reducible show wpAny _ _ (PySem.pyIter _) _ _ _)); (fail_if_success (with_reducible show wpAny _ _ (PySem.exec (PySem.Stmt.While _ _ _ _) _) _ _ _)); first | ((fail_if_success (fail_if_success (with_reducible show wpAny _ _ _ _ _ (PySem.Shared.mk _ (PySem.Shared.gens (PySem.Shared.mk _ _ _ _ _)) _ _ _)))); dsimp only) | (k_unfold; (try dsimp only)) | (k_end; wrow_close) | walk1 | (dsimp only; walk1) | (leave1; walk_say "STEP leave1"; try dsimp only) | fail "no step"))
    (obtain ⟨k0, hk0⟩ : ∃ k0, kPre.length = k0 := ⟨_, rfl⟩)
    have eK : kN = (k0 : Int) := by (first | lia | omega)
    rw [hk0] at kInv
    (obtain ⟨l0, hl0⟩ : ∃ l0, l0 = kPre := ⟨_, rfl⟩)
    subst hl0
    k_with "state" => ((rw [List.length_append, List.length_singleton]; (have e : kN = (kPre.length : Int) := by (first | lia | omega)); rw [e, kInv]; simp [ff, Int.mul_assoc]); done)
    k_with "state" => ((subst eK; simp [ff]); done)
    k_state (fun pre part => part = ns.getD k0 0 * ff x pre.length) "part"
    focus
      (repeat' ((fail_if_success (with_reducible show wpAny _ _ (PySem.pyIter _) _ _ _)); (fail_if_success (with_reducible show wpAny _ _ (PySem.exec (PySem.Stmt.While _ _ _ _) _) _ _ _)); first | ((fail_if_success (fail_if_success (with_reducible show wpAny _ _ _ _ _ (PySem.Shared.mk _ (PySem.Shared.gens (PySem.Shared.mk _ _ _ _ _)) _ _ _)))); dsimp only) | (k_unfold; (try dsimp only)) | (k_end; wrow_close) | walk1 | (dsimp only; walk1) | (leave1; walk_say "STEP leave1"; try dsimp only) | fail "no step"))
    simp only [rangeKs_length] at kInv
    k_with "state" => ((rw [List.length_append, List.length_singleton, hk0, kInv]; simp only [dueTo]; subst eK; congr 2; congr 1; (first | lia | omega)); done)
    (repeat' ((fail_if_success (with_reducible show wpAny _ _ (PySem.pyIter _) _ _ _)); (fail_if_success (with_reducible show wpAny _ _ (PySem.exec (PySem.Stmt.While _ _ _ _) _) _ _ _)); first | ((fail_if_success (fail_if_success (with_reducible show wpAny _ _ _ _ _ (PySem.Shared.mk _ (PySem.Shared.gens (PySem.Shared.mk _ _ _ _ _)) _ _ _)))); dsimp only) | (k_unfold; (try dsimp only)) | (k_end; wrow_close) | walk1 | (dsimp only; walk1) | (leave1; walk_say "STEP leave1"; try dsimp only) | fail "no step"))
  (repeat' ((fail_if_success (with_reducible show wpAny _ _ (PySem.pyIter _) _ _ _)); (fail_if_success (with_reducible show wpAny _ _ (PySem.exec (PySem.Stmt.While _ _ _ _) _) _ _ _)); first | ((fail_if_success (fail_if_success (with_reducible show wpAny _ _ _ _ _ (PySem.Shared.mk _ (PySem.Shared.gens (PySem.Shared.mk _ _ _ _ _)) _ _ _)))); dsimp only) | (k_unfold; (try dsimp only)) | (k_end; wrow_close) | walk1 | (dsimp only; walk1) | (leave1; walk_say "STEP leave1"; try dsimp only) | fail "no step"))
  (simp only [rangeKs_length, Int.sub_zero, Int.toNat_natCast] at kInv; rw [kInv]; exact hret _ _ _ _ ⟨⟨_, rfl⟩, rfl⟩ (by k_asm) (by k_asm))
end

-- part S3
section
theorem countOf_spec (w : World) (l : Addr) (vs : List Value) (ns : List Int) (c : Nat) (b : Int) (tb : Tok) (news : List (Addr × Obj)) (hm : (l, listOf vs.toArray c) ∈ news) (hi : IntsAre vs ns) (hlen : ns.length ≤ 100)
    (htb : tb ≠ 0) (hts : ∀ i t, Value.int i t ∈ vs → t ≠ 0 ∧ t ≠ tb ∧ -5 ≤ i ∧ i ≤ 256) :
    Ctr 3 w 74 [.ref l, .int b tb] news (fun r n' _ => (∃ t, r = .int (ns.count b) t) ∧ n' = news) := by
  w_top off
  k_with_none
  k_with "eval Name" => (k_here; k_dflt (refine' nameX_L ?z0F ?z0v ?_ ?z0a ?z0b; (case z0F => k_asm); (case z0a => rfl); (case z0b => rfl); (case z0v => exact Eq.refl (some _)); k_whole))
  k_with "exec For Name Attribute cons nil" => (k_here; (with_unfolding_all refine' For_invVF ?z1kF ?z1k1 ?z1k2 ?_; (case z1kF => assumption); (case z1k1 => exact rfl); (case z1k2 => exact rfl); k_whole))
  k_with "exec For Name Name cons nil" => (k_here; (with_unfolding_all refine' For_invVF ?z2kF ?z2k1 ?z2k2 ?_; (case z2kF => assumption); (case z2k1 => exact rfl); (case z2k2 => exact rfl); k_whole))
  k_with "call builtin:len" => (k_here; (with_reducible show wpAny _ _ (call (Value.builtin "len") [Value.ref _]) _ _ _); k_dflt (refine' kst_len ?z3k1 ?z3k2 ?z3k3 ?z3k4 ?_; (case z3k1 => k_asm); (case z3k2 => k_mem); (case z3k3 => first | exact IntsAre.length (by assumption) | assumption); (case z3k4 => (first | lia | omega)); k_whole))
  unfold Ctr
  k_fill
  intro loose mean mg mb dp un gd cn cs a₉ ccd cl outer A₀ base h₀ L₉ m₉ s Q E B₉ F₉ X₉ N₉ T₉ hk hb₉ hd₉ hu₉ hret
  refine wpAny_call ?_
  k_dflt cell_enter
  k_with_none
  k_with "eval Name" => (k_here; k_dflt (refine' nameX_L ?z0F ?z0v ?_ ?z0a ?z0b; (case z0F => k_asm); (case z0a => rfl); (case z0b => rfl); (case z0v => exact Eq.refl (some _)); k_whole))
  k_with "exec For Name Attribute cons nil" => (k_here; (with_unfolding_all refine' For_invVF ?z1kF ?z1k1 ?z1k2 ?_; (case z1kF => assumption); (case z1k1 => exact rfl); (case z1k2 => exact rfl); k_whole))
  k_with "exec For Name Name cons nil" => (k_here; (with_unfolding_all refine' For_invVF ?z2kF ?z2k1 ?z2k2 ?_; (case z2kF => assumption); (case z2k1 => exact rfl); (case z2k2 => exact rfl); k_whole))
  k_with "call builtin:len" => (k_here; (with_reducible show wpAny _ _ (call (Value.builtin "len") [Value.ref _]) _ _ _); k_dflt (refine' kst_len ?z3k1 ?z3k2 ?z3k3 ?z3k4 ?_; (case z3k1 => k_asm); (case z3k2 => k_mem); (case z3k3 => first | exact IntsAre.length (by assumption) | assumption); (case z3k4 => (first | lia | omega)); k_whole))
  (repeat' ((fail_if_success (with_reducible show wpAny _ _ (PySem.pyIter _) _ _ _)); (fail_if_success (with_reducible show wpAny _ _ (PySem.exec (PySem.Stmt.While _ _ _ _) _) _ _ _)); first | ((fail_if_success (fail_if_success (with_reducible show wpAny _ _ _ _ _ (PySem.Shared.mk _ (PySem.Shared.gens (PySem.Shared.mk _ _ _ _ _)) _ _ _)))); dsimp only) | (k_unfold; (try dsimp only)) | (k_end; wrow_close) | walk1 | (dsimp only; walk1) | (leave1; walk_say "STEP leave1"; try dsimp only) | fail "no step"))
  with_unfolding_all refine' kst_listV (fun c : Int × Tok => [(Str.ofString "count", Value.int c.1 c.2)]) [] (fun i c => c.1 = (ns.take i).count b) (0, _) (by rfl) hm ?kF ?kN ?kk rfl ?_ ?_
  case kF => assumption
  case kN => assumption
  case kk => kst_all
  focus
    intro c i v u h9 tk9 own9 hv hP F9 N9
    obtain ⟨a, ta⟩ := c
    obtain ⟨n9, t9, e9, hn9⟩ := hi.at i v hv
    subst e9
    have hf := hts _ _ (List.mem_of_getElem? hv)
    dsimp only [kstB] at F9
    show wpAny _ _ _ _ _ _
    (try k_fold)
    k_with "compareOp Is int int" => (refine is_int (by exact hf.1) (by exact htb) (by exact hf.2.2) (fun _ => by exact hf.2.1) ?_)
    (repeat' ((fail_if_success (with_reducible show wpAny _ _ (PySem.pyIter _) _ _ _)); (fail_if_success (with_reducible show wpAny _ _ (PySem.exec (PySem.Stmt.While _ _ _ _) _) _ _ _)); first | ((fail_if_success (fail_if_success (with_reducible show wpAny _ _ _ _ _ (PySem.Shared.mk _ (PySem.Shared.gens (PySem.Shared.mk _ _ _ _ _)) _ _ _)))); dsimp only) | (k_unfold; (try dsimp only)) | (k_end; wrow_close) | walk1 | (dsimp only; walk1) | (leave1; walk_say "STEP leave1"; try dsimp only) | fail "no step"))
    all_goals (refine InvEnd.intro (by assumption) (by assumption) (fun _ h => h) ⟨(_, _), by kst_all, by kst_same, ?_⟩; (show _ = _); rw [List.take_add_one, hn9, List.count_append])
    all_goals (simp_all)
  intro c u h9 tk9 hP F9 N9
  obtain ⟨a, ta⟩ := c
  dsimp only [kstB] at F9
  show wpAny _ _ _ _ _ _
  (try k_fold)
  (repeat' ((fail_if_success (with_reducible show wpAny _ _ (PySem.pyIter _) _ _ _)); (fail_if_success (with_reducible show wpAny _ _ (PySem.exec (PySem.Stmt.While _ _ _ _) _) _ _ _)); first | ((fail_if_success (fail_if_success (with_reducible show wpAny _ _ _ _ _ (PySem.Shared.mk _ (PySem.Shared.gens (PySem.Shared.mk _ _ _ _ _)) _ _ _)))); dsimp only) | (k_unfold; (try dsimp only)) | (k_end; wrow_close) | walk1 | (dsimp only; walk1) | (leave1; walk_say "STEP leave1"; try dsimp only) | fail "no step"))
  rw [show a = ((ns.count b : Nat) : Int) by simpa [hi.length] using hP]
  exact hret _ _ _ _ ⟨⟨_, rfl⟩, rfl⟩ (by k_asm) (by k_asm)
end

-- part S4
section
theorem fd2 (a : Int) : a.fdiv 2 = a / 2 := Int.fdiv_eq_ediv_of_nonneg a (by decide)
noncomputable def BisP (ns : List Int) (b lo hi : Int) : Prop := 0 ≤ lo ∧ lo ≤ hi ∧ hi ≤ ns.length ∧ (∀ i : Nat, (i : Int) < lo → ns.getD i 0 ≤ b) ∧ (∀ i : Nat, hi ≤ i → i < ns.length → b < ns.getD i 0)
theorem mid {lo hi : Int} (h : lo < hi) : lo ≤ (lo + hi).fdiv 2 ∧ (lo + hi).fdiv 2 < hi := by
  rw [fd2]
  exact ⟨(Int.le_ediv_iff_mul_le (by decide)).mpr (by rw [Int.mul_comm, Int.two_mul]; exact Int.add_le_add_left (Int.le_of_lt h) lo), (Int.ediv_lt_iff_lt_mul (by decide)).mpr (by rw [Int.mul_comm, Int.two_mul]; exact Int.add_lt_add_right h hi)⟩
theorem bis_hi {ns : List Int} {b lo hi : Int} (hs : ∀ i j : Nat, i ≤ j → j < ns.length → ns.getD i 0 ≤ ns.getD j 0) (h : BisP ns b lo hi) (hl : lo < hi) (hb : b < ns.getD ((lo + hi).fdiv 2).toNat 0) : BisP ns b lo ((lo + hi).fdiv 2) :=
  have q := mid hl
  ⟨h.1, q.1, Int.le_trans (Int.le_of_lt q.2) h.2.2.1, h.2.2.2.1, fun i a1 a2 => Int.lt_of_lt_of_le hb (hs _ i (Int.toNat_le.mpr a1) a2)⟩
theorem bis_lo {ns : List Int} {b lo hi : Int} (hs : ∀ i j : Nat, i ≤ j → j < ns.length → ns.getD i 0 ≤ ns.getD j 0) (h : BisP ns b lo hi) (hl : lo < hi) (hb : ¬ b < ns.getD ((lo + hi).fdiv 2).toNat 0) : BisP ns b ((lo + hi).fdiv 2 + 1) hi :=
  have q := mid hl
  have q0 := Int.le_trans h.1 q.1
  ⟨Int.le_add_one q0, q.2, h.2.2.1, fun i a1 => Int.le_trans (hs i _ ((Int.le_toNat q0).mpr (Int.le_of_lt_add_one a1)) (Int.ofNat_lt.mp (by rw [Int.toNat_of_nonneg q0]; exact Int.lt_of_lt_of_le q.2 h.2.2.1))) (Int.not_lt.mp hb), h.2.2.2.2⟩
theorem bis_end {ns : List Int} {b lo hi : Int} (h : BisP ns b lo hi) (hl : ¬ lo < hi) : BisP ns b lo lo :=
  Int.le_antisymm h.2.1 (Int.not_lt.mp hl) ▸ h
theorem Ctr.useB {ns : List Int} {b : Int} {d : Nat} {w : World} {f : Addr} {vs : List Value} {news : List (Addr × Obj)} {kw : List (Str × Value)} {Hb : Heap → Prop}
    {loose : List Str} {mean : ExcName → Option Value} {mg mb : Str → Option Value} {dp un : Nat} {gd : Option (List Code)} {cn : Str} {cs : Scope} {a : Addr} {ccd : Value} {cl : List (Str × Addr)} {outer : List Env} {A₀ : Around} {base h₀ : Heap} {L : Addr} {m : Str → Option Value} {h1 : Heap} {gn : Array GenState} {dr : Drawn} {t1 : Nat} {os : OsState} {Q E : Value → Shared → Prop}
    (S : Ctr d w f vs news (fun v n' _ => (∃ k t, v = .int k t ∧ BisP ns b k k) ∧ n' = news) kw Hb) (B : Below A₀ base outer h₀) (F : Fr h₀ L h1 m) (X : (Mine.hd.heap_39 w.params).In h₀) (N : News h₀ L h1 news) (T : Top topProg loose mean mg mb h₀) (hk : cs.kind = .function)
    (hb : Hb base) (hd : dp + d < recursionLimit) (hu : un + 8 * d < cLine)
    (ret : ∀ h' tk' k t, BisP ns b k k → Fr h₀ L h' m → News h₀ L h' news → Q (.int k t) ⟨h', gn, dr, tk', os⟩) :
    wpAny (model PySem.Challenge.rw_sw0054_01.row.prog w) (ktrTop dp un gd cn cs L a ccd cl outer) (call (.ref f) vs kw) Q E ⟨h1, gn, dr, t1, os⟩ :=
  Ctr.use S B F X N T hk hb hd hu (by rintro v n h tk hle ⟨⟨k, t, rfl, hB⟩, rfl⟩ F N; exact ret h tk k t hB F N)
theorem bis_mid {ns : List Int} {b lo hi : Int} (q : BisP ns b lo hi) (h : lo < hi) (hl : ns.length ≤ 100) : 0 ≤ (lo + hi).fdiv 2 ∧ (lo + hi).fdiv 2 < (ns.length : Int) ∧ (lo + hi).fdiv 2 < 1000 :=
  have p := mid h
  have p2 := Int.lt_of_lt_of_le p.2 q.2.2.1
  ⟨Int.le_trans q.1 p.1, p2, Int.lt_trans p2 (Int.ofNat_lt.mpr (Nat.lt_of_le_of_lt hl (by decide)))⟩
theorem bis_less1 {ns : List Int} {b lo hi : Int} (_q : BisP ns b lo hi) (h : lo < hi) : (hi - ((lo + hi).fdiv 2 + 1)).toNat < (hi - lo).toNat :=
  (Int.toNat_lt_toNat (Int.sub_pos_of_lt h)).mpr (Int.sub_lt_sub_left (Int.lt_add_one_of_le (mid h).1) hi)
theorem bis_less2 {ns : List Int} {b lo hi : Int} (_q : BisP ns b lo hi) (h : lo < hi) : ((lo + hi).fdiv 2 - lo).toNat < (hi - lo).toNat :=
  (Int.toNat_lt_toNat (Int.sub_pos_of_lt h)).mpr (Int.sub_lt_sub_right (mid h).2 lo)
theorem bis_init {ns : List Int} {b : Int} {n : Nat} (e : n = ns.length) : BisP ns b 0 (n : Int) :=
  ⟨Int.le_refl _, Int.natCast_nonneg _, e ▸ Int.le_refl _, fun i h => absurd h (Int.not_lt.mpr (Int.natCast_nonneg i)), fun i h1 h2 => absurd h2 (Nat.not_lt.mpr (Int.ofNat_le.mp (e ▸ h1)))⟩
theorem bisect_spec (w : World) (l : Addr) (vs : List Value) (ns : List Int) (c : Nat) (b : Int) (tb : Tok) (news : List (Addr × Obj)) (hm : (l, listOf vs.toArray c) ∈ news) (hi : IntsAre vs ns) (hlen : ns.length ≤ 100)
    (hs : ∀ i j : Nat, i ≤ j → j < ns.length → ns.getD i 0 ≤ ns.getD j 0) :
    Ctr 3 w 39 [.ref l, .int b tb] news (fun r n' _ => (∃ k t, r = .int k t ∧ BisP ns b k k) ∧ n' = news) := by
  w_top off
  k_with_none
  k_with "eval Name" => (k_here; k_dflt (refine' nameX_L ?z0F ?z0v ?_ ?z0a ?z0b; (case z0F => k_asm); (case z0a => rfl); (case z0b => rfl); (case z0v => exact Eq.refl (some _)); k_whole))
  k_with "exec For Name Attribute cons nil" => (k_here; (with_unfolding_all refine' For_invVF ?z1kF ?z1k1 ?z1k2 ?_; (case z1kF => assumption); (case z1k1 => exact rfl); (case z1k2 => exact rfl); k_whole))
  k_with "exec For Name Name cons nil" => (k_here; (with_unfolding_all refine' For_invVF ?z2kF ?z2k1 ?z2k2 ?_; (case z2kF => assumption); (case z2k1 => exact rfl); (case z2k2 => exact rfl); k_whole))
  k_with "call builtin:len" => (k_here; (with_reducible show wpAny _ _ (call (Value.builtin "len") [Value.ref _]) _ _ _); k_dflt (refine' kst_len ?z3k1 ?z3k2 ?z3k3 ?z3k4 ?_; (case z3k1 => k_asm); (case z3k2 => k_mem); (case z3k3 => first | exact IntsAre.length (by assumption) | assumption); (case z3k4 => (first | lia | omega)); k_whole))
  unfold Ctr
  k_fill
  intro loose mean mg mb dp un gd cn cs a₉ ccd cl outer A₀ base h₀ L₉ m₉ s Q E B₉ F₉ X₉ N₉ T₉ hk hb₉ hd₉ hu₉ hret
  refine wpAny_call ?_
  k_dflt (refine' code_def ?k1 ?k2 ?k3 ?k4 ?k5 ?kA ?kF ?kK ?k6 ?k7 ?k8 ?k9 ?kB ?_ ?c2 ?c3 ?c4 ?c5; (case kA => exact rfl); (case kF => exact rfl); (case kK => assumption); (case k1 => k_asm); (case k2 => k_asm); (case k3 => k_asm); (case k4 => k_asm); (case k5 => k_asm); (case k6 => k_is); (case k7 => k_is); (case k8 => ktr_room); (case k9 => have e31 := X₉ 31 _ (by k_is); have e32 := X₉ 32 _ (by k_is); replace e31 := F₉.keep _ _ e31; replace e32 := F₉.keep _ _ e32; refine' binds_LL e31 e32 ?y1 ?y2 ?y3; (case y1 => with_unfolding_all rfl); (case y2 => with_unfolding_all rfl); (case y3 => with_unfolding_all rfl)); (case c5 => decide); (case kB => exact locs rfl); (case c2 => exact rfl); (case c3 => exact rfl); (case c4 => exact rfl); k_whole; intro g' L' h' FG' F' N' B' X' T'; (try dsimp only); (try k_lift B'); (try k_fold))
  k_with_none
  k_with "eval Name" => (k_here; k_dflt (refine' nameX_L ?z0F ?z0v ?_ ?z0a ?z0b; (case z0F => k_asm); (case z0a => rfl); (case z0b => rfl); (case z0v => exact Eq.refl (some _)); k_whole))
  k_with "exec For Name Attribute cons nil" => (k_here; (with_unfolding_all refine' For_invVF ?z1kF ?z1k1 ?z1k2 ?_; (case z1kF => assumption); (case z1k1 => exact rfl); (case z1k2 => exact rfl); k_whole))
  k_with "exec For Name Name cons nil" => (k_here; (with_unfolding_all refine' For_invVF ?z2kF ?z2k1 ?z2k2 ?_; (case z2kF => assumption); (case z2k1 => exact rfl); (case z2k2 => exact rfl); k_whole))
  k_with "call builtin:len" => (k_here; (with_reducible show wpAny _ _ (call (Value.builtin "len") [Value.ref _]) _ _ _); k_dflt (refine' kst_len ?z3k1 ?z3k2 ?z3k3 ?z3k4 ?_; (case z3k1 => k_asm); (case z3k2 => k_mem); (case z3k3 => first | exact IntsAre.length (by assumption) | assumption); (case z3k4 => (first | lia | omega)); k_whole))
  (repeat' ((fail_if_success (with_reducible show wpAny _ _ (PySem.pyIter _) _ _ _)); (fail_if_success (with_reducible show wpAny _ _ (PySem.exec (PySem.Stmt.While _ _ _ _) _) _ _ _)); first | ((fail_if_success (fail_if_success (with_reducible show wpAny _ _ _ _ _ (PySem.Shared.mk _ (PySem.Shared.gens (PySem.Shared.mk _ _ _ _ _)) _ _ _)))); dsimp only) | (k_unfold; (try dsimp only)) | (k_end; wrow_close) | walk1 | (dsimp only; walk1) | (leave1; walk_say "STEP leave1"; try dsimp only) | fail "no step"))
  k_with "state" => exact bis_hi hs kInv (by assumption) (by assumption)
  k_with "state" => exact bis_lo hs kInv (by assumption) (by assumption)
  k_with "state" => first | exact bis_init hi.length | exact ⟨by (first | lia | omega), by (first | lia | omega), by (first | lia | omega), fun i h => by (first | lia | omega), fun i h1 h2 => by (first | lia | omega)⟩
  k_with "measure" => first | exact bis_less1 kInv (by assumption) | exact bis_less2 kInv (by assumption) | (have q := kInv; unfold BisP at q; rw [fd2]; (first | lia | omega))
  k_while (fun _ lo hi => BisP ns b lo hi) (fun _ lo hi => (hi - lo).toNat) "lo" "hi"
  k_with "subscriptTail Name Name ref int" => (k_here; k_dflt (refine' item_ints ?N ?m ?i ?a ?b ?c ?_; (case N => k_asm); (case m => assumption); (case i => assumption); (case a => first | exact (bis_mid kInv (by assumption) hlen).1 | (have q := kInv; unfold BisP at q; rw [fd2]; (first | lia | omega))); (case b => first | exact (bis_mid kInv (by assumption) hlen).2.1 | (have q := kInv; unfold BisP at q; rw [fd2]; (first | lia | omega))); (case c => first | exact (bis_mid kInv (by assumption) hlen).2.2 | (have q := kInv; unfold BisP at q; rw [fd2]; (first | lia | omega))); k_whole); intro t9)
  (repeat' ((fail_if_success (with_reducible show wpAny _ _ (PySem.pyIter _) _ _ _)); (fail_if_success (with_reducible show wpAny _ _ (PySem.exec (PySem.Stmt.While _ _ _ _) _) _ _ _)); first | ((fail_if_success (fail_if_success (with_reducible show wpAny _ _ _ _ _ (PySem.Shared.mk _ (PySem.Shared.gens (PySem.Shared.mk _ _ _ _ _)) _ _ _)))); dsimp only) | (k_unfold; (try dsimp only)) | (k_end; wrow_close) | walk1 | (dsimp only; walk1) | (leave1; walk_say "STEP leave1"; try dsimp only) | fail "no step"))
  exact hret _ _ _ _ ⟨⟨_, _, rfl, bis_end kInv (by assumption)⟩, rfl⟩ (by k_asm) (by k_asm)
end

-- part S7
section
set_option genSizeOf false in
structure Scan where
  b : Nat
  n : Nat
  nt : Nat
  cs : List Int
noncomputable def Scan.blank (σ : Scan) : Scan := { σ with b := σ.b + 1, n := σ.n + 1 }
noncomputable def Scan.tabbed (σ : Scan) : List Int := if (σ.cs.length : Int) ≤ σ.b then σ.cs ++ (List.replicate ((σ.b : Int) - σ.cs.length + 1).toNat [(0 : Int)]).flatten else σ.cs
noncomputable def Scan.tab (σ : Scan) : Scan := ⟨0, σ.n + 1, σ.nt + 1, σ.tabbed.set (σ.b : Int).toNat (σ.tabbed.getD (σ.b : Int).toNat 0 + 1)⟩
noncomputable def scan : Scan → List Nat → Scan
  | σ, [] => σ
  | σ, c :: r => if c = 32 then scan σ.blank r else if c = 9 then scan σ.tab r else σ
abbrev scanPs (σ : Scan) (tb tn tt : Tok) (a : Addr) : List (Str × Value) := [(Str.ofString "b", .int σ.b tb), (Str.ofString "n", .int σ.n tn), (Str.ofString "nt", .int σ.nt tt), (Str.ofString "count", .ref a)]
inductive ScanJ (xt : Str) (m₀ : Str → Option Value) (news : List (Addr × Obj)) (i : Nat) (m : Str → Option Value) (nx : List (Addr × Obj)) : Prop
  | mk (σ : Scan) (tb tn tt : Tok) (a : Addr) (vs : List Value) (nn : Nat) (f0 : nx = (a, listOf vs.toArray nn) :: news.tail) (f1 : IntsAre vs σ.cs) (f2 : AllLt a news.tail) (f3 : (∀ p ∈ scanPs σ tb tn tt a, m p.1 = some p.2)) (f4 : (∀ z, z ≠ Str.ofString "ch" → (∀ p ∈ scanPs σ tb tn tt a, z ≠ p.1) → [].contains z = false → m z = m₀ z)) (f5 : scan σ (xt.cps.toList.drop i) = scan ⟨0, 0, 0, []⟩ xt.cps.toList) (f6 : σ.b ≤ i) (f7 : σ.cs.length ≤ i) : ScanJ xt m₀ news i m nx
theorem tuple_ofLF {prog : Program} {w : World} {A : Around} {E : Value → Shared → Prop} {s : Shared} {h₀ : Heap} {L : Addr} {m : Str → Option Value} {Q : Value → Shared → Prop} {l : Addr} {vs : List Value} {n : Nat} {news : List (Addr × Obj)} (Fh : Fr h₀ L s.heap m) (N : News h₀ L s.heap news) (hl : (l, listOf vs.toArray n) ∈ news)
    (hQ : ∀ (D : Addr) h', Fr h₀ L h' m → News h₀ L h' ((D, { cls := .type "tuple", data := .seq vs.toArray }) :: news) → (∀ p ∈ news, p.1 < D) → Q (.ref D) { s with heap := h' })
    (hsz : vs.length ≤ sizeLine) : wpAny (model prog w) A (call (.type "tuple") [.ref l]) Q E s := by
  refine call_tuple_list (items := vs.toArray) ⟨_, (N _ hl).1, rfl, n, rfl⟩ (fun h' hk => ?_) (by rw [List.size_toArray]; exact hsz)
  have F' : Fr h₀ L h' m := Fh.keeps hk
  have N' : News h₀ L h' news := fun p hp => ⟨hk _ _ (N p hp).1, (N p hp).2⟩
  exact hQ _ _ (F'.push _) (N'.push F' _) fun p hp => Heap.lt_size (N' p hp).1
theorem code_eq {c : Nat} {t : Str} {k : Nat} (ht : t = ⟨#[k]⟩) {b : Bool} (h : ((⟨#[c]⟩ : Str) == t) = b) : b = decide (c = k) := by
  subst ht
  rw [← h]
  by_cases e : c = k
  · subst e; simp
  · rw [decide_eq_false e, beq_eq_false_iff_ne]
    intro q
    have := congrArg Str.cps q
    simp at this
    exact e this
theorem blank_str : Str.ofString " " = ⟨#[32]⟩ := by decide +kernel
theorem tab_str : Str.ofString "\t" = ⟨#[9]⟩ := by decide +kernel
theorem drop_at {l : List Nat} {i c : Nat} (h : l[i]? = some c) : l.drop i = c :: l.drop (i + 1) := by
  obtain ⟨hi, e⟩ := List.getElem?_eq_some_iff.mp h
  rw [List.drop_eq_getElem_cons hi, e]
theorem scan_blank {σ : Scan} {l : List Nat} {i c : Nat} (h : l[i]? = some c) (e : c = 32) : scan σ (l.drop i) = scan σ.blank (l.drop (i + 1)) := by
  rw [drop_at h, scan, if_pos e]
theorem scan_tab {σ : Scan} {l : List Nat} {i c : Nat} (h : l[i]? = some c) (e : c = 9) : scan σ (l.drop i) = scan σ.tab (l.drop (i + 1)) := by
  subst e
  rw [drop_at h, scan, if_neg (by decide), if_pos rfl]
theorem scan_end {σ : Scan} {l : List Nat} {i c : Nat} (h : l[i]? = some c) (e : c ≠ 32) (e2 : c ≠ 9) : scan σ (l.drop i) = σ := by
  rw [drop_at h, scan, if_neg e, if_neg e2]
abbrev tupOf (vs : List Value) : Obj := { cls := .type "tuple", data := .seq vs.toArray }
/-- what a Whitespace is, as the ledger bears it -/
noncomputable def whiteEs (w : World) (σ : Scan) (xt : Str) (D2 : Addr) (k0 k1 k2 k3 k4 k5 k6 k7 : Tok) (sim : Bool) : List DictEntry :=
  [⟨PyData.keyHash w.params "raw", .str "raw" k0, .str xt k1⟩, ⟨PyData.keyHash w.params "n", .str "n" k2, .int σ.n k3⟩, ⟨PyData.keyHash w.params "nt", .str "nt" k4, .int σ.nt k5⟩,
   ⟨PyData.keyHash w.params "norm", .str "norm" k6, .ref D2⟩, ⟨PyData.keyHash w.params "is_simple", .str "is_simple" k7, .bool sim⟩]
inductive WhiteAt (w : World) (news : List (Addr × Obj)) (x : Addr) (σ : Scan) : Prop
  | mk (dx D1 D2 : Addr) (xt : Str) (k0 k1 k2 k3 k4 k5 k6 k7 : Tok) (sim : Bool) (vs : List Value) (tb : Tok) (f0 : (x, instObj 143 dx) ∈ news) (f1 : (dx, dictOf (whiteEs w σ xt D2 k0 k1 k2 k3 k4 k5 k6 k7 sim) 5) ∈ news) (f2 : (D2, tupOf [.ref D1, .int σ.b tb]) ∈ news) (f3 : (D1, tupOf vs) ∈ news) (f4 : IntsAre vs σ.cs) : WhiteAt w news x σ
abbrev WhitePost (w : World) (xt : Str) (news : List (Addr × Obj)) (r : Value) (n' : List (Addr × Obj)) : Prop :=
  ∃ x own, r = .ref x ∧ n' = news ++ own ∧ WhiteAt w own x (scan ⟨0, 0, 0, []⟩ xt.cps.toList) ∧ (∀ p ∈ own, ∀ q ∈ news, q.1 < p.1) ∧ OwnOff own (news.map (·.1))
theorem white_done {w : World} {xt : Str} {h₀ h' : Heap} {L : Addr} {m : Str → Option Value} {s : Shared} {news tl : List (Addr × Obj)} {Q : Value → Shared → Prop} {tk' : Nat} {σ : Scan} {x dx D1 D2 D0 a : Addr} {k0 k1 k2 k3 k4 k5 k6 k7 tb : Tok} {sim : Bool} {vs : List Value} {oa o0 : Obj}
    (hret : ∀ v news' h' tk', WhitePost w xt news v news' → Fr h₀ L h' m → News h₀ L h' news' → Q v { s with heap := h', toks := tk' }) (htl : ∀ p ∈ news, p ∈ tl) (Fm : Fr h₀ L h' m)
    (N : News h₀ L h' ((D2, tupOf [.ref D1, .int σ.b tb]) :: (D1, tupOf vs) :: (a, oa) :: (D0, o0) :: (x, instObj 143 dx) :: (dx, dictOf (whiteEs w σ xt D2 k0 k1 k2 k3 k4 k5 k6 k7 sim) 5) :: tl))
    (hi : IntsAre vs σ.cs) (hσ : σ = scan ⟨0, 0, 0, []⟩ xt.cps.toList) (l1 : AllLt dx news) (l2 : @LT.lt Nat _ dx x) (l3 : @LT.lt Nat _ x D1) (l4 : @LT.lt Nat _ D1 D2) : Q (.ref x) { s with heap := h', toks := tk' } := by
  have hl : ∀ q ∈ news, q.1 < dx := kst_ltOf l1
  have hfr : ∀ p ∈ [(D2, tupOf [.ref D1, .int σ.b tb]), (D1, tupOf vs), (x, instObj 143 dx), (dx, dictOf (whiteEs w σ xt D2 k0 k1 k2 k3 k4 k5 k6 k7 sim) 5)], ∀ q ∈ news, q.1 < p.1 := by
    intro p hp q hq
    have h1 : @LT.lt Nat _ q.1 dx := hl q hq
    simp only [List.mem_cons, List.not_mem_nil, or_false] at hp
    rcases hp with rfl | rfl | rfl | rfl <;> (show @LT.lt Nat _ _ _) <;> dsimp only <;> (first | lia | omega)
  refine hret _ _ _ _ ⟨x, _, rfl, rfl, ?_, hfr, ?_⟩ Fm fun p hp => ?_
  · rw [← hσ]
    exact ⟨dx, D1, D2, xt, k0, k1, k2, k3, k4, k5, k6, k7, sim, vs, tb, .tail _ (.tail _ (.head _)), .tail _ (.tail _ (.tail _ (.head _))), .head _, .tail _ (.head _), hi⟩
  · intro p hp b hb
    obtain ⟨q, hq, rfl⟩ := List.mem_map.mp hb
    exact Nat.ne_of_gt (hfr p hp q hq)
  · rcases List.mem_append.mp hp with hp | hp
    · exact N _ (.tail _ (.tail _ (.tail _ (.tail _ (.tail _ (.tail _ (htl p hp)))))))
    · simp only [List.mem_cons, List.not_mem_nil, or_false] at hp
      exact N _ (hp.elim (fun e => e ▸ .head _) fun hp => hp.elim (fun e => e ▸ .tail _ (.head _)) fun hp => hp.elim (fun e => e ▸ .tail _ (.tail _ (.tail _ (.tail _ (.head _))))) fun e => e ▸ .tail _ (.tail _ (.tail _ (.tail _ (.tail _ (.head _))))))
theorem size_of_ints {vs : List Value} {cs : List Int} (h : IntsAre vs cs) (hb : cs.length ≤ 1000) : vs.length ≤ sizeLine :=
  h.length ▸ PySem.sizeLine_eq ▸ Nat.le_trans hb (by decide)
theorem flat_len (k : Nat) : (List.replicate k [(0 : Int)]).flatten.length = k := by
  induction k with
  | zero => rfl
  | succ k ih => rw [List.replicate_succ, List.flatten_cons, List.length_append, ih, List.length_singleton, Nat.add_comm]
theorem tab_len (σ : Scan) : σ.tab.cs.length ≤ max σ.cs.length (σ.b + 1) := by
  simp only [Scan.tab, Scan.tabbed, List.length_set]
  split
  · rw [List.length_append, flat_len]
    refine Nat.le_trans ?_ (Nat.le_max_right _ _)
    have h : σ.cs.length ≤ σ.b := Int.ofNat_le.mp (by assumption)
    rw [← Int.ofNat_sub h]
    exact Nat.le_of_eq (congrArg (· + 1) (Nat.add_sub_of_le h))
  · exact Nat.le_max_left _ _
theorem gend_scan {xt : Str} {h₀ h' : Heap} {L I a : Addr} {m₀ m' : Str → Option Value} {news own nx' : List (Addr × Obj)} {i : Nat} {s₁ : Shared} {tk' nn : Nat} {tb tn tt : Tok} {vs : List Value} (σ : Scan)
    (Fm : Fr h₀ L h' m') (N : News h₀ L h' nx') (h1 : ∀ p ∈ scanPs σ tb tn tt a, m' p.1 = some p.2) (hN : ∀ p ∈ ((a, listOf vs.toArray nn) :: news.tail) ++ own, p ∈ nx') (ho : ∀ p ∈ (a, listOf vs.toArray nn) :: news.tail, p.1 ∉ [I]) (hi : IntsAre vs σ.cs) (hlt : AllLt a news.tail)
    (h2 : ∀ z, z ≠ Str.ofString "ch" → (∀ p ∈ scanPs σ tb tn tt a, z ≠ p.1) → [].contains z = false → m' z = m₀ z)
    (hsc : scan σ (xt.cps.toList.drop i) = scan ⟨0, 0, 0, []⟩ xt.cps.toList) (hb1 : σ.b ≤ i) (hb2 : σ.cs.length ≤ i) :
    GEnd h₀ L [I] own (ScanJ xt m₀ news i) s₁ { s₁ with heap := h', toks := tk' } :=
  ⟨h', tk', m', _, rfl, Fm, kst_newsOf N hN, ho, σ, tb, tn, tt, a, vs, nn, rfl, hi, hlt, h1, h2, hsc, hb1, hb2⟩
theorem grow_lt {p q r t u v D : Nat} {news own : List (Addr × Obj)} {o1 o2 o3 : Obj} (h : p < D ∧ q < D ∧ r < D ∧ t < D ∧ u < D ∧ v < D ∧ AllLt D (news ++ own)) : AllLt D ((t, o1) :: (u, o2) :: (v, o3) :: news) :=
  ⟨h.2.2.2.1, h.2.2.2.2.1, h.2.2.2.2.2.1, allLt_of fun x hx => kst_ltOf h.2.2.2.2.2.2 x (List.mem_append_left _ hx)⟩
theorem grow_off {p q r t u v D I a : Nat} {news own : List (Addr × Obj)} {oa od o1 o2 o3 : Obj} (h : p < D ∧ q < D ∧ r < D ∧ t < D ∧ u < D ∧ v < D ∧ AllLt D (news ++ own)) (hI : ∃ o, (I, o) ∈ own)
    (hoff : ∀ p ∈ (a, oa) :: (t, o1) :: (u, o2) :: (v, o3) :: news, p.1 ≠ I) : ∀ p ∈ (D, od) :: (t, o1) :: (u, o2) :: (v, o3) :: news, p.1 ∉ [I] := by
  obtain ⟨oI, hI⟩ := hI
  intro x hx hm
  have hm := List.mem_singleton.mp hm
  rcases List.mem_cons.mp hx with rfl | hx
  · exact Nat.ne_of_gt (kst_ltOf h.2.2.2.2.2.2 (I, oI) (List.mem_append_right _ hI)) hm
  · exact hoff x (.tail _ hx) hm
theorem same_off {I : Nat} {l l' : List (Addr × Obj)} (hoff : ∀ p ∈ l, p.1 ≠ I) (e : l'.map (·.1) = l.map (·.1)) : ∀ p ∈ l', p.1 ∉ [I] := by
  intro x hx hm
  have hm := List.mem_singleton.mp hm
  have : x.1 ∈ l.map (·.1) := e ▸ List.mem_map.mpr ⟨x, hx, rfl⟩
  obtain ⟨q, hq, e'⟩ := List.mem_map.mp this
  exact hoff q hq (e'.trans hm)
theorem white_spec (w : World) (xt : Str) (tx : Tok) (news : List (Addr × Obj)) (hsz : xt.cps.size ≤ 100) (hascii : xt.cps.all (· < 128) = true) :
    Ctr 3 w 143 [.str xt tx] news (fun r n' _ => WhitePost w xt news r n') := by
  w_top off
  k_with_none
  k_with "eval Name" => (k_here; k_dflt (refine' nameX_L ?z0F ?z0v ?_ ?z0a ?z0b; (case z0F => k_asm); (case z0a => rfl); (case z0b => rfl); (case z0v => exact Eq.refl (some _)); k_whole))
  k_with "exec For Name Attribute cons nil" => (k_here; (with_unfolding_all refine' For_invVF ?z1kF ?z1k1 ?z1k2 ?_; (case z1kF => assumption); (case z1k1 => exact rfl); (case z1k2 => exact rfl); k_whole))
  k_with "exec For Name Name cons nil" => (k_here; (with_unfolding_all refine' For_invVF ?z2kF ?z2k1 ?z2k2 ?_; (case z2kF => assumption); (case z2k1 => exact rfl); (case z2k2 => exact rfl); k_whole))
  k_with "call builtin:len" => (k_here; (with_reducible show wpAny _ _ (call (Value.builtin "len") [Value.ref _]) _ _ _); k_dflt (refine' kst_len ?z3k1 ?z3k2 ?z3k3 ?z3k4 ?_; (case z3k1 => k_asm); (case z3k2 => k_mem); (case z3k3 => first | exact IntsAre.length (by assumption) | assumption); (case z3k4 => (first | lia | omega)); k_whole))
  k_with "call type:tuple" => (k_here; (with_reducible show wpAny _ _ (call (Value.type _) [Value.ref _]) _ _ _); k_dflt (refine' tuple_ofLF ?z4F ?z4N ?z4l ?_ ?z4z; (case z4F => k_asm); (case z4N => k_asm); (case z4l => k_mem); (case z4z => exact size_of_ints (by assumption) (by (first | lia | omega))); k_whole); intro D' h' F' N' l1; (try k_lt l1); (try k_sweep))
  unfold Ctr
  k_fill
  intro loose mean mg mb dp un gd cn cs a₉ ccd cl outer A₀ base h₀ L₉ m₉ s Q E B₉ F₉ X₉ N₉ T₉ hk hb₉ hd₉ hu₉ hret
  k_dflt (refine' call_cls ?k1 ?k2 ?k3 ?k4 ?k5 ?k6 ?_; (case k1 => k_asm); (case k2 => k_asm); (case k3 => k_asm); (case k4 => k_is); (case k5 => k_is); (case k6 => k_is); k_whole)
  intro x₉ d₉ h₉ FW NW lw1 lw2
  have kMark9 := kstMark
  replace lw1 := allLt_of lw1
  replace lw2 := ltN lw2
  k_dflt cell_enter
  k_with_none
  k_with "eval Name" => (k_here; k_dflt (refine' nameX_L ?z0F ?z0v ?_ ?z0a ?z0b; (case z0F => k_asm); (case z0a => rfl); (case z0b => rfl); (case z0v => exact Eq.refl (some _)); k_whole))
  k_with "exec For Name Attribute cons nil" => (k_here; (with_unfolding_all refine' For_invVF ?z1kF ?z1k1 ?z1k2 ?_; (case z1kF => assumption); (case z1k1 => exact rfl); (case z1k2 => exact rfl); k_whole))
  k_with "exec For Name Name cons nil" => (k_here; (with_unfolding_all refine' For_invVF ?z2kF ?z2k1 ?z2k2 ?_; (case z2kF => assumption); (case z2k1 => exact rfl); (case z2k2 => exact rfl); k_whole))
  k_with "call builtin:len" => (k_here; (with_reducible show wpAny _ _ (call (Value.builtin "len") [Value.ref _]) _ _ _); k_dflt (refine' kst_len ?z3k1 ?z3k2 ?z3k3 ?z3k4 ?_; (case z3k1 => k_asm); (case z3k2 => k_mem); (case z3k3 => first | exact IntsAre.length (by assumption) | assumption); (case z3k4 => (first | lia | omega)); k_whole))
  k_with "call type:tuple" => (k_here; (with_reducible show wpAny _ _ (call (Value.type _) [Value.ref _]) _ _ _); k_dflt (refine' tuple_ofLF ?z4F ?z4N ?z4l ?_ ?z4z; (case z4F => k_asm); (case z4N => k_asm); (case z4l => k_mem); (case z4z => exact size_of_ints (by assumption) (by (first | lia | omega))); k_whole); intro D' h' F' N' l1; (try k_lt l1); (try k_sweep))
  (repeat' ((fail_if_success (with_reducible show wpAny _ _ (PySem.pyIter _) _ _ _)); (fail_if_success (with_reducible show wpAny _ _ (PySem.exec (PySem.Stmt.While _ _ _ _) _) _ _ _)); first | ((fail_if_success (fail_if_success (with_reducible show wpAny _ _ _ _ _ (PySem.Shared.mk _ (PySem.Shared.gens (PySem.Shared.mk _ _ _ _ _)) _ _ _)))); dsimp only) | (k_unfold; (try dsimp only)) | (k_end; wrow_close) | walk1 | (dsimp only; walk1) | (leave1; walk_say "STEP leave1"; try dsimp only) | fail "no step"))
  with_unfolding_all refine' iter_textG (ScanJ xt) (by rfl) hascii ?kF ?kN ?kj ?_ ?_
  case kF => assumption
  case kN => assumption
  case kj => exact ⟨⟨0, 0, 0, []⟩, _, _, _, _, _, _, rfl, .nil, by (simp only [List.tail_cons]; assumption), by kst_all, by kst_same, rfl, Nat.le_refl _, Nat.le_refl _⟩
  focus
    intro i ch t m₁ news₁ h tk own I hch hJ hoff hown hIo F9 N9
    have hO9 : OwnOff own (news₁.map (·.1)) := fun p hp b hb e => by
      obtain ⟨q, hq, rfl⟩ := List.mem_map.mp hb
      rw [hown p hp] at e; exact hoff q hq e.symm
    obtain ⟨σ, tb, tn, tt, a, vs, nn, rfl, hia, hlt, h1, h2, hsc, hb1, hb2⟩ := hJ
    replace F9 := kst_fr h1 h2 F9
    dsimp only [kstB, scanPs] at F9
    simp only [List.tail_cons, List.map_cons] at N9 hlt hoff hO9
    simp only [List.cons_append] at N9
    have hlt0 := hlt
    simp only [AllLt, and_true] at hlt
    have hi9 : i < 100 := by have := (Array.getElem?_eq_some_iff.mp hch).1; (first | lia | omega)
    show wpAny _ _ _ _ _ _
    (try k_fold)
    (repeat' ((fail_if_success (with_reducible show wpAny _ _ (PySem.pyIter _) _ _ _)); (fail_if_success (with_reducible show wpAny _ _ (PySem.exec (PySem.Stmt.While _ _ _ _) _) _ _ _)); first | ((fail_if_success (fail_if_success (with_reducible show wpAny _ _ _ _ _ (PySem.Shared.mk _ (PySem.Shared.gens (PySem.Shared.mk _ _ _ _ _)) _ _ _)))); dsimp only) | (k_unfold; (try dsimp only)) | (k_end; wrow_close) | walk1 | (dsimp only; walk1) | (leave1; walk_say "STEP leave1"; try dsimp only) | fail "no step"))
    rotate_left
    rotate_left
    rotate_left
    focus
      dsimp only
      k_unfold
      dsimp only [GPost]
      (repeat' ((fail_if_success (with_reducible show wpAny _ _ (PySem.pyIter _) _ _ _)); (fail_if_success (with_reducible show wpAny _ _ (PySem.exec (PySem.Stmt.While _ _ _ _) _) _ _ _)); first | ((fail_if_success (fail_if_success (with_reducible show wpAny _ _ _ _ _ (PySem.Shared.mk _ (PySem.Shared.gens (PySem.Shared.mk _ _ _ _ _)) _ _ _)))); dsimp only) | (k_unfold; (try dsimp only)) | (k_end; wrow_close) | walk1 | (dsimp only; walk1) | (leave1; walk_say "STEP leave1"; try dsimp only) | fail "no step"))
      refine white_done hret (tl := news ++ own) (fun p hp => List.mem_append_left _ hp) (by k_asm) (by k_asm) hia ?_ lw1 lw2 (by (first | lia | omega)) (by (first | lia | omega))
      exact (scan_end (by simpa using hch) (by have := code_eq blank_str (by assumption); simpa using this) (by have := code_eq tab_str (by assumption); simpa using this)).symm.trans hsc
    focus
      dsimp only [GPost]
      (rename Fr _ _ _ _ => kF9); (rename News _ _ _ _ => kN9)
      refine' gend_scan σ.blank kF9 kN9 ?k1 ?kn ?ko hia hlt0 ?k2 ?ks ?kb ?kl
      case k1 => kst_all
      case kn => ((simp only [List.tail_cons, List.cons_append]); kst_inAny)
      case ko => exact same_off hoff rfl
      case k2 => (intro z h1 h2 _; (repeat (first | refine same_x h1 ?_ | refine same_p h2 (.head _) ?_ | refine same_p h2 (.tail _ (.head _)) ?_ | refine same_p h2 (.tail _ (.tail _ (.head _))) ?_ | refine same_p h2 (.tail _ (.tail _ (.tail _ (.head _)))) ?_)); symm; (repeat (first | refine same_x h1 ?_ | refine same_p h2 (.head _) ?_ | refine same_p h2 (.tail _ (.head _)) ?_ | refine same_p h2 (.tail _ (.tail _ (.head _))) ?_ | refine same_p h2 (.tail _ (.tail _ (.tail _ (.head _)))) ?_)); rfl)
      case ks => exact (scan_blank (by simpa using hch) (by have := code_eq blank_str (by assumption); simpa using this)).symm.trans hsc
      case kb => (simp only [Scan.blank]; (first | lia | omega))
      case kl => (simp only [Scan.blank]; (first | lia | omega))
    focus
      dsimp only [GPost]
      (rename Fr _ _ _ _ => kF9); (rename News _ _ _ _ => kN9)
      refine' gend_scan σ.tab kF9 kN9 ?k1 ?kn ?ko ?ki ?kt ?k2 ?ks ?kb ?kl
      case k1 => kst_all
      case kn => ((simp only [List.tail_cons, List.cons_append]); kst_inAny)
      case ko => exact grow_off (by assumption) hIo hoff
      case ki => (simp only [Scan.tab, Scan.tabbed]; rw [if_pos (by assumption)]; assumption)
      case kt => exact grow_lt (by assumption)
      case k2 => (intro z h1 h2 _; (repeat (first | refine same_x h1 ?_ | refine same_p h2 (.head _) ?_ | refine same_p h2 (.tail _ (.head _)) ?_ | refine same_p h2 (.tail _ (.tail _ (.head _))) ?_ | refine same_p h2 (.tail _ (.tail _ (.tail _ (.head _)))) ?_)); symm; (repeat (first | refine same_x h1 ?_ | refine same_p h2 (.head _) ?_ | refine same_p h2 (.tail _ (.head _)) ?_ | refine same_p h2 (.tail _ (.tail _ (.head _))) ?_ | refine same_p h2 (.tail _ (.tail _ (.tail _ (.head _)))) ?_)); rfl)
      case ks => exact (scan_tab (by simpa using hch) (by have := code_eq tab_str (by assumption); simpa using this)).symm.trans hsc
      case kb => exact Nat.zero_le _
      case kl => (have := tab_len σ; (first | lia | omega))
    focus
      dsimp only [GPost]
      (rename Fr _ _ _ _ => kF9); (rename News _ _ _ _ => kN9)
      refine' gend_scan σ.tab kF9 kN9 ?k1 ?kn ?ko ?ki hlt0 ?k2 ?ks ?kb ?kl
      case k1 => kst_all
      case kn => ((simp only [List.tail_cons, List.cons_append]); kst_inAny)
      case ko => exact same_off hoff rfl
      case ki => (simp only [Scan.tab, Scan.tabbed]; rw [if_neg (by assumption)]; assumption)
      case k2 => (intro z h1 h2 _; (repeat (first | refine same_x h1 ?_ | refine same_p h2 (.head _) ?_ | refine same_p h2 (.tail _ (.head _)) ?_ | refine same_p h2 (.tail _ (.tail _ (.head _))) ?_ | refine same_p h2 (.tail _ (.tail _ (.tail _ (.head _)))) ?_)); symm; (repeat (first | refine same_x h1 ?_ | refine same_p h2 (.head _) ?_ | refine same_p h2 (.tail _ (.head _)) ?_ | refine same_p h2 (.tail _ (.tail _ (.head _))) ?_ | refine same_p h2 (.tail _ (.tail _ (.tail _ (.head _)))) ?_)); rfl)
      case ks => exact (scan_tab (by simpa using hch) (by have := code_eq tab_str (by assumption); simpa using this)).symm.trans hsc
      case kb => exact Nat.zero_le _
      case kl => (have := tab_len σ; (first | lia | omega))
  intro m₁ news₁ h tk hJ F9 N9
  obtain ⟨σ, tb, tn, tt, a, vs, nn, rfl, hia, hlt, h1, h2, hsc, hb1, hb2⟩ := hJ
  replace F9 := kst_frOut (x := Str.ofString "ch") h1 h2 F9
  dsimp only [kstB, scanPs] at F9
  simp only [List.tail_cons] at N9 hlt
  simp only [AllLt, and_true] at hlt
  show wpAny _ _ _ _ _ _
  (try k_fold)
  (repeat' ((fail_if_success (with_reducible show wpAny _ _ (PySem.pyIter _) _ _ _)); (fail_if_success (with_reducible show wpAny _ _ (PySem.exec (PySem.Stmt.While _ _ _ _) _) _ _ _)); first | ((fail_if_success (fail_if_success (with_reducible show wpAny _ _ _ _ _ (PySem.Shared.mk _ (PySem.Shared.gens (PySem.Shared.mk _ _ _ _ _)) _ _ _)))); dsimp only) | (k_unfold; (try dsimp only)) | (k_end; wrow_close) | walk1 | (dsimp only; walk1) | (leave1; walk_say "STEP leave1"; try dsimp only) | fail "no step"))
  refine white_done hret (tl := news) (fun p hp => hp) (by k_asm) (by k_asm) hia ?_ lw1 lw2 (by (first | lia | omega)) (by (first | lia | omega))
  rw [List.drop_eq_nil_of_le (by simp)] at hsc
  exact hsc
theorem Ctr.useW {xt : Str} {d : Nat} {w : World} {f : Addr} {vs : List Value} {news : List (Addr × Obj)} {kw : List (Str × Value)} {Hb : Heap → Prop}
    {loose : List Str} {mean : ExcName → Option Value} {mg mb : Str → Option Value} {dp un : Nat} {gd : Option (List Code)} {cn : Str} {cs : Scope} {a : Addr} {ccd : Value} {cl : List (Str × Addr)} {outer : List Env} {A₀ : Around} {base h₀ : Heap} {L : Addr} {m : Str → Option Value} {h1 : Heap} {gn : Array GenState} {dr : Drawn} {t1 : Nat} {os : OsState} {Q E : Value → Shared → Prop}
    (S : Ctr d w f vs news (fun r n' _ => WhitePost w xt news r n') kw Hb) (B : Below A₀ base outer h₀) (F : Fr h₀ L h1 m) (X : (Mine.hd.heap_39 w.params).In h₀) (N : News h₀ L h1 news) (T : Top topProg loose mean mg mb h₀) (hk : cs.kind = .function)
    (hb : Hb base) (hd : dp + d < recursionLimit) (hu : un + 8 * d < cLine)
    (ret : ∀ h' tk' x own, WhiteAt w own x (scan ⟨0, 0, 0, []⟩ xt.cps.toList) → (∀ p ∈ own, ∀ q ∈ news, q.1 < p.1) → OwnOff own (news.map (·.1)) → Fr h₀ L h' m → News h₀ L h' (news ++ own) → Q (.ref x) ⟨h', gn, dr, tk', os⟩) :
    wpAny (model PySem.Challenge.rw_sw0054_01.row.prog w) (ktrTop dp un gd cn cs L a ccd cl outer) (call (.ref f) vs kw) Q E ⟨h1, gn, dr, t1, os⟩ :=
  Ctr.use S B F X N T hk hb hd hu (by rintro v n h tk hle ⟨x, own, rfl, rfl, h1, h2, h3⟩ F N; exact ret h tk x own h1 h2 h3 F N)
end

-- part S8
section
noncomputable def levelOf (σ : Scan) (size : Int) : Int := σ.b + size * (((rangeKs size (σ.cs.length - size).toNat).map fun i => i.fdiv size * σ.cs.getD i.toNat 0).sum + σ.nt)
theorem len_tupI {prog : Program} {w : World} {A : Around} {E : Value → Shared → Prop} {s : Shared} {h₀ : Heap} {L l : Addr} {news : List (Addr × Obj)} {vs : List Value} {ns : List Int} {Q : Value → Shared → Prop}
    (N : News h₀ L s.heap news) (hm : (l, tupOf vs) ∈ news) (hi : IntsAre vs ns) (hfit : ns.length < 1000) (h : Q (.int ns.length (s.toks + 1)) { s with toks := s.toks + 1 + 1 }) : wpAny (model prog w) A (call (.builtin "len") [.ref l]) Q E s := by
  have e : vs.toArray.size = ns.length := by simp [hi.length]
  exact len_tuple (News.isTup N hm) (by rw [e]; (first | lia | omega)) (by rw [e]; exact h)
theorem item_tupI {prog : Program} {w : World} {A : Around} {E : Value → Shared → Prop} {s : Shared} {h₀ : Heap} {L l : Addr} {news : List (Addr × Obj)} {vs : List Value} {ns : List Int} {k : Int} {u : Tok} {value slice : PySem.Expr} {Q : Value → Shared → Prop}
    (N : News h₀ L s.heap news) (hm : (l, tupOf vs) ∈ news) (hi : IntsAre vs ns) (h0 : 0 ≤ k) (h1 : k < ns.length) (h2 : k < 1000) (h : ∀ t, Q (.int (ns.getD k.toNat 0) t) s)
    (hs : subscripted slice false (.ref l) (.int k u) = operate [.ref l, .int k u] (getItem (.ref l) (.int k u)) := by with_unfolding_all rfl) :
    wpAny (model prog w) A (subscriptTail value slice (.ref l) (.int k u)) Q E s := by
  obtain ⟨t, e⟩ := intsAt hi (k := k.toNat) (by (first | lia | omega))
  refine item_tupleT (News.isTup N hm) (by (first | lia | omega)) (by (first | lia | omega)) (j := k.toNat) ?_ e (h t) hs
  rw [hi.length]
  unfold seqIndex?
  simp only [show ¬ k < 0 by (first | lia | omega), if_false]
  simp [h0, h1]
theorem fits_small {x y : Int} (h0 : 0 ≤ x) (h1 : x ≤ 1000) : IntMulOk x y := IntMulOk.of_left (intBits_le_iff.mpr (Nat.lt_of_le_of_lt (natAbs_le (n := 1000) h0 h1) (by decide)))
theorem fdiv_le {i s : Int} (h0 : 0 ≤ i) (h1 : 1 ≤ s) : 0 ≤ i.fdiv s ∧ i.fdiv s ≤ i := by
  rw [Int.fdiv_eq_ediv_of_nonneg _ (by (first | lia | omega))]
  exact ⟨Int.ediv_nonneg h0 (by (first | lia | omega)), Int.ediv_le_self _ h0⟩
theorem lv1 {size kN : Int} {p : Nat} (e : kN = size + (p : Int)) (h0 : 1 ≤ size) : 0 ≤ kN := by (first | lia | omega)
theorem level_spec (w : World) (x : Addr) (σ : Scan) (size : Int) (tz : Tok) (news : List (Addr × Obj)) (hW : WhiteAt w news x σ) (h0 : 1 ≤ size) (h1 : size ≤ 4) (hl : σ.cs.length ≤ 100) :
    Ctr 2 w 112 [.ref x, .int size tz] news (fun r n' tk => (∃ t, r = .int (levelOf σ size) t ∧ t ≠ 0 ∧ t < tk) ∧ n' = news) := by
  obtain ⟨dx, D1, D2, xt, k0, k1, k2, k3, k4, k5, k6, k7, sim, vs, tb, m1, m2, m3, m4, hi⟩ := hW
  unfold whiteEs at m2
  w_top off
  k_with_none
  k_with "eval Name" => (k_here; k_dflt (refine' nameX_L ?z0F ?z0v ?_ ?z0a ?z0b; (case z0F => k_asm); (case z0a => rfl); (case z0b => rfl); (case z0v => exact Eq.refl (some _)); k_whole))
  k_with "exec For Name Attribute cons nil" => (k_here; (with_unfolding_all refine' For_invVF ?z1kF ?z1k1 ?z1k2 ?_; (case z1kF => assumption); (case z1k1 => exact rfl); (case z1k2 => exact rfl); k_whole))
  k_with "exec For Name Name cons nil" => (k_here; (with_unfolding_all refine' For_invVF ?z2kF ?z2k1 ?z2k2 ?_; (case z2kF => assumption); (case z2k1 => exact rfl); (case z2k2 => exact rfl); k_whole))
  k_with "call builtin:len" => (k_here; (with_reducible show wpAny _ _ (call (Value.builtin "len") [Value.ref _]) _ _ _); k_dflt (refine' kst_len ?z3k1 ?z3k2 ?z3k3 ?z3k4 ?_; (case z3k1 => k_asm); (case z3k2 => k_mem); (case z3k3 => first | exact IntsAre.length (by assumption) | assumption); (case z3k4 => (first | lia | omega)); k_whole))
  k_with "call builtin:len" => (k_here; (with_reducible show wpAny _ _ (call (Value.builtin "len") [Value.ref _]) _ _ _); k_dflt (refine' len_tupI ?z4k1 ?z4k2 ?z4k3 ?z4k4 ?_; (case z4k1 => k_asm); (case z4k2 => k_mem); (case z4k3 => assumption); (case z4k4 => (first | lia | omega)); k_whole))
  unfold Ctr
  k_fill
  intro loose mean mg mb dp un gd cn cs a₉ ccd cl outer A₀ base h₀ L₉ m₉ s Q E B₉ F₉ X₉ N₉ T₉ hk hb₉ hd₉ hu₉ hret
  refine wpAny_call ?_
  k_dflt cell_enter
  k_with_none
  k_with "eval Name" => (k_here; k_dflt (refine' nameX_L ?z0F ?z0v ?_ ?z0a ?z0b; (case z0F => k_asm); (case z0a => rfl); (case z0b => rfl); (case z0v => exact Eq.refl (some _)); k_whole))
  k_with "exec For Name Attribute cons nil" => (k_here; (with_unfolding_all refine' For_invVF ?z1kF ?z1k1 ?z1k2 ?_; (case z1kF => assumption); (case z1k1 => exact rfl); (case z1k2 => exact rfl); k_whole))
  k_with "exec For Name Name cons nil" => (k_here; (with_unfolding_all refine' For_invVF ?z2kF ?z2k1 ?z2k2 ?_; (case z2kF => assumption); (case z2k1 => exact rfl); (case z2k2 => exact rfl); k_whole))
  k_with "call builtin:len" => (k_here; (with_reducible show wpAny _ _ (call (Value.builtin "len") [Value.ref _]) _ _ _); k_dflt (refine' kst_len ?z3k1 ?z3k2 ?z3k3 ?z3k4 ?_; (case z3k1 => k_asm); (case z3k2 => k_mem); (case z3k3 => first | exact IntsAre.length (by assumption) | assumption); (case z3k4 => (first | lia | omega)); k_whole))
  k_with "call builtin:len" => (k_here; (with_reducible show wpAny _ _ (call (Value.builtin "len") [Value.ref _]) _ _ _); k_dflt (refine' len_tupI ?z4k1 ?z4k2 ?z4k3 ?z4k4 ?_; (case z4k1 => k_asm); (case z4k2 => k_mem); (case z4k3 => assumption); (case z4k4 => (first | lia | omega)); k_whole))
  (repeat' ((fail_if_success (with_reducible show wpAny _ _ (PySem.pyIter _) _ _ _)); (fail_if_success (with_reducible show wpAny _ _ (PySem.exec (PySem.Stmt.While _ _ _ _) _) _ _ _)); first | ((fail_if_success (fail_if_success (with_reducible show wpAny _ _ _ _ _ (PySem.Shared.mk _ (PySem.Shared.gens (PySem.Shared.mk _ _ _ _ _)) _ _ _)))); dsimp only) | (k_unfold; (try dsimp only)) | (k_end; wrow_close) | walk1 | (dsimp only; walk1) | (leave1; walk_say "STEP leave1"; try dsimp only) | fail "no step"))
  k_with "state" => ((rw [List.map_append, List.sum_append, ← kInv]; simp); done)
  k_with "state" => (rfl; done)
  k_state (fun pre il => il = (pre.map fun i => i.fdiv size * σ.cs.getD i.toNat 0).sum) "il"
  k_with "subscriptTail Name Name ref int" => (k_here; k_dflt (refine' item_tupI ?N ?m ?i ?a ?b ?c ?_; (case N => k_asm); (case m => k_mem); (case i => assumption); (case a => first | exact lv1 (by assumption) h0 | (first | lia | omega)); (case b => first | exact lv2 (by assumption) (by assumption) | (first | lia | omega)); (case c => first | exact lv3 (by assumption) (by assumption) hl | (first | lia | omega)); k_whole); intro t9)
  k_with "binaryOp Mult int int" => (k_here; refine mul_int ?_ (by first | exact fits_small (by (first | lia | omega)) (by (first | lia | omega)) | (have q := fdiv_le (i := kN) (s := size) (by first | exact lv1 (by assumption) h0 | (first | lia | omega)) h0; exact fits_small q.1 (by first | exact Int.le_trans q.2 (Int.le_of_lt (lv3 (by assumption) (by assumption) hl)) | (first | lia | omega)))))
  all_goals (repeat' ((fail_if_success (with_reducible show wpAny _ _ (PySem.pyIter _) _ _ _)); (fail_if_success (with_reducible show wpAny _ _ (PySem.exec (PySem.Stmt.While _ _ _ _) _) _ _ _)); first | ((fail_if_success (fail_if_success (with_reducible show wpAny _ _ _ _ _ (PySem.Shared.mk _ (PySem.Shared.gens (PySem.Shared.mk _ _ _ _ _)) _ _ _)))); dsimp only) | (k_unfold; (try dsimp only)) | (k_end; wrow_close) | walk1 | (dsimp only; walk1) | (leave1; walk_say "STEP leave1"; try dsimp only) | fail "no step"))
  rw [kInv]
  exact hret _ _ _ _ ⟨⟨_, rfl, Nat.succ_ne_zero _, Nat.lt_succ_self _⟩, rfl⟩ (by k_asm) (by k_asm)
end

-- part S9
section
/-- the lambda that _law_row hands to insort_right, taken out of the row's own term -/
noncomputable def oneLam : PySem.Expr := match PySem.Challenge.pw_sw0054_01.main.body.reverse with
  | _ :: _ :: .FunctionDef _ _ (_ :: .For _ _ (_ :: .Expr (.Call _ _ (k :: _) _) _ :: _) _ _ :: _) _ _ _ _ _ _ _ :: _ => k.value
  | _ => default
noncomputable def oneArgs : Arguments := match oneLam with
  | .Lambda a _ _ _ => a
  | _ => default
noncomputable def oneBody : PySem.Expr := match oneLam with
  | .Lambda _ b _ _ => b
  | _ => default
noncomputable def oneScope : Scope := match oneLam with
  | .Lambda _ _ s _ => s
  | _ => default
theorem oneArgs_is : ∃ a, oneArgs = { posonlyargs := [], args := [a], vararg := none, kwonlyargs := [], kw_defaults := [], kwarg := none, defaults := [] } := ⟨_, rfl⟩
inductive LamAt (news : List (Addr × Obj)) (lam : Addr) (size : Int) : Prop
  | mk (qual : Str) (c' ca : Addr) (oc oca : Obj) (vs : Array Value) (t tz : Tok) (ct pm : Value) (f0 : (lam, kla_obj "<lambda>" qual oneArgs oneBody oneScope [("size", ca)] pm c' ct) ∈ news) (f1 : (c', oc) ∈ news) (f2 : oc.data = .fields vs) (f3 : vs[1]? = some (.str qual t)) (f4 : (ca, oca) ∈ news) (f5 : oca.data = .cell (some (.int size tz))) : LamAt news lam size
theorem lam_spec (w : World) (lam x : Addr) (σ : Scan) (size : Int) (news : List (Addr × Obj)) (hL : LamAt news lam size) (hW : WhiteAt w news x σ) (h0 : 1 ≤ size) (h1 : size ≤ 4) (hl : σ.cs.length ≤ 100) :
    Ctr 4 w lam [.ref x] news (fun r n' _ => (∃ t, r = .int (levelOf σ size) t) ∧ n' = news) := by
  obtain ⟨qual, c', ca, oc, oca, vs, t, tz, ct, pm, m1, m2, m3, m4, m5, m6⟩ := hL
  have hW2 := hW
  obtain ⟨dx, D1, D2, xt, k0, k1, k2, k3, k4, k5, k6, k7, sim, vs2, tb, n1, n2, n3, n4, hi⟩ := hW2
  unfold whiteEs at n2
  w_top off
  k_with_none
  k_with "eval Name" => (k_here; k_dflt (refine' nameX_L ?z0F ?z0v ?_ ?z0a ?z0b; (case z0F => k_asm); (case z0a => rfl); (case z0b => rfl); (case z0v => exact Eq.refl (some _)); k_whole))
  k_with "exec For Name Attribute cons nil" => (k_here; (with_unfolding_all refine' For_invVF ?z1kF ?z1k1 ?z1k2 ?_; (case z1kF => assumption); (case z1k1 => exact rfl); (case z1k2 => exact rfl); k_whole))
  k_with "exec For Name Name cons nil" => (k_here; (with_unfolding_all refine' For_invVF ?z2kF ?z2k1 ?z2k2 ?_; (case z2kF => assumption); (case z2k1 => exact rfl); (case z2k2 => exact rfl); k_whole))
  k_with "call builtin:len" => (k_here; (with_reducible show wpAny _ _ (call (Value.builtin "len") [Value.ref _]) _ _ _); k_dflt (refine' kst_len ?z3k1 ?z3k2 ?z3k3 ?z3k4 ?_; (case z3k1 => k_asm); (case z3k2 => k_mem); (case z3k3 => first | exact IntsAre.length (by assumption) | assumption); (case z3k4 => (first | lia | omega)); k_whole))
  k_with "call ref" => (k_here; k_dflt (refine' Ctr.useL (level_spec _ _ _ _ _ _ ?z4c1 ?z4c2 ?z4c3 ?z4c4) ?z4k1 ?z4k2 ?z4k3 ?z4k4 ?z4k5 ?z4kK ?z4kb ?z4kd ?z4ku ?_; (case z4k1 => k_asm); (case z4k2 => k_asm); (case z4k3 => k_asm); (case z4k4 => k_asm); (case z4k5 => k_asm); (case z4c1 => assumption); (case z4c2 => assumption); (case z4c3 => assumption); (case z4c4 => assumption); (case z4kK => first | exact rfl | assumption); (case z4kb => first | exact trivial | assumption); (case z4kd => ktr_room); (case z4ku => ktr_units)); (intro _ _ _ _ _ _ _); (try dsimp only); (try k_fold); (try k_sweep))
  unfold Ctr
  k_fill
  intro loose mean mg mb dp un gd cn cs a₉ ccd cl outer A₀ base h₀ L₉ m₉ s Q E B₉ F₉ X₉ N₉ T₉ hk hb₉ hd₉ hu₉ hret
  refine wpAny_call ?_
  k_dflt (refine' kla_code ?k1 ?k2 ?k3 ?k4 ?k5 ?kA ?kF ?kK ?k6 ?k7 ?k8 ?k9 ?kB ?_ ?c2 ?c3 ?c4 ?c5; (case kA => exact rfl); (case kF => exact rfl); (case kK => assumption); (case k1 => k_asm); (case k2 => k_asm); (case k3 => k_asm); (case k4 => k_asm); (case k5 => k_asm); (case k6 => k_mem); (case k7 => exact codeRec_news (by k_asm) (by k_mem) (by assumption) (by assumption)); (case k8 => ktr_room); (case k9 => exact rfl); (case c5 => decide); (case kB => exact locs rfl); (case c2 => exact rfl); (case c3 => exact rfl); (case c4 => exact rfl); k_whole; intro g' L' h' FG' F' N' B' X' T'; (try dsimp only); (try k_lift B'); (try k_fold))
  k_with_none
  k_with "eval Name" => (k_here; k_dflt (refine' nameX_L ?z0F ?z0v ?_ ?z0a ?z0b; (case z0F => k_asm); (case z0a => rfl); (case z0b => rfl); (case z0v => exact Eq.refl (some _)); k_whole))
  k_with "exec For Name Attribute cons nil" => (k_here; (with_unfolding_all refine' For_invVF ?z1kF ?z1k1 ?z1k2 ?_; (case z1kF => assumption); (case z1k1 => exact rfl); (case z1k2 => exact rfl); k_whole))
  k_with "exec For Name Name cons nil" => (k_here; (with_unfolding_all refine' For_invVF ?z2kF ?z2k1 ?z2k2 ?_; (case z2kF => assumption); (case z2k1 => exact rfl); (case z2k2 => exact rfl); k_whole))
  k_with "call builtin:len" => (k_here; (with_reducible show wpAny _ _ (call (Value.builtin "len") [Value.ref _]) _ _ _); k_dflt (refine' kst_len ?z3k1 ?z3k2 ?z3k3 ?z3k4 ?_; (case z3k1 => k_asm); (case z3k2 => k_mem); (case z3k3 => first | exact IntsAre.length (by assumption) | assumption); (case z3k4 => (first | lia | omega)); k_whole))
  k_with "call ref" => (k_here; k_dflt (refine' Ctr.useL (level_spec _ _ _ _ _ _ ?z4c1 ?z4c2 ?z4c3 ?z4c4) ?z4k1 ?z4k2 ?z4k3 ?z4k4 ?z4k5 ?z4kK ?z4kb ?z4kd ?z4ku ?_; (case z4k1 => k_asm); (case z4k2 => k_asm); (case z4k3 => k_asm); (case z4k4 => k_asm); (case z4k5 => k_asm); (case z4c1 => assumption); (case z4c2 => assumption); (case z4c3 => assumption); (case z4c4 => assumption); (case z4kK => first | exact rfl | assumption); (case z4kb => first | exact trivial | assumption); (case z4kd => ktr_room); (case z4ku => ktr_units)); (intro _ _ _ _ _ _ _); (try dsimp only); (try k_fold); (try k_sweep))
  k_with "eval Name" => (k_here; k_dflt (refine' nameX_F ?N ?c ?m ?d ?_ ?a ?b; (case a => rfl); (case b => rfl); (case N => k_asm); (case c => rfl); (case m => k_mem); (case d => k_asm); k_whole))
  show wpAny _ _ (eval (.Call (.Attribute (.Name _ _) _ _) [.Name _ _] [] _) (envX _ { kind := _, names := [_, _], isGenerator := _, isCoroutine := _, more := _ } _ _ _ _)) _ _ _
  (repeat' ((fail_if_success (with_reducible show wpAny _ _ (PySem.pyIter _) _ _ _)); (fail_if_success (with_reducible show wpAny _ _ (PySem.exec (PySem.Stmt.While _ _ _ _) _) _ _ _)); first | ((fail_if_success (fail_if_success (with_reducible show wpAny _ _ _ _ _ (PySem.Shared.mk _ (PySem.Shared.gens (PySem.Shared.mk _ _ _ _ _)) _ _ _)))); dsimp only) | (k_unfold; (try dsimp only)) | (k_end; wrow_close) | walk1 | (dsimp only; walk1) | (leave1; walk_say "STEP leave1"; try dsimp only) | fail "no step"))
  exact hret _ _ _ _ ⟨⟨_, rfl⟩, rfl⟩ (by k_asm) (by k_asm)
end

-- part S5
section
noncomputable def KeyAt (w : World) (news : List (Addr × Obj)) (size : Int) (x : Addr) (k : Int) : Prop := ∃ σ, WhiteAt w news x σ ∧ σ.cs.length ≤ 100 ∧ k = levelOf σ size
noncomputable def KeysAt (w : World) (news : List (Addr × Obj)) (size : Int) (vs : List Value) (ks : List Int) : Prop := vs.length = ks.length ∧ ∀ j : Nat, j < ks.length → ∃ x, vs[j]? = some (.ref x) ∧ KeyAt w news size x (ks.getD j 0)
theorem item_keys {prog : Program} {w : World} {A : Around} {E : Value → Shared → Prop} {s : Shared} {h₀ : Heap} {L l : Addr} {news : List (Addr × Obj)} {vs : List Value} {ns : List Int} {n : Nat} {k size : Int} {u : Tok} {value slice : PySem.Expr} {Q : Value → Shared → Prop}
    (N : News h₀ L s.heap news) (hm : (l, listOf vs.toArray n) ∈ news) (hi : KeysAt w news size vs ns) (h0 : 0 ≤ k) (h1 : k < ns.length) (h2 : k < 1000) (h : ∀ x, KeyAt w news size x (ns.getD k.toNat 0) → Q (.ref x) s)
    (hs : subscripted slice false (.ref l) (.int k u) = operate [.ref l, .int k u] (getItem (.ref l) (.int k u)) := by with_unfolding_all rfl) :
    wpAny (model prog w) A (subscriptTail value slice (.ref l) (.int k u)) Q E s := by
  obtain ⟨x, e, hk⟩ := hi.2 k.toNat (by (first | lia | omega))
  exact item_list N hm h0 (by (first | lia | omega)) e (h x hk) hs
theorem bisK_spec (w : World) (lam l : Addr) (vs : List Value) (ks : List Int) (c : Nat) (b size : Int) (tb u : Tok) (news : List (Addr × Obj)) (hm : (l, listOf vs.toArray c) ∈ news) (hK : KeysAt w news size vs ks) (hL : LamAt news lam size) (h0 : 1 ≤ size) (h1 : size ≤ 4) (hlen : ks.length ≤ 100)
    (hs : ∀ i j : Nat, i ≤ j → j < ks.length → ks.getD i 0 ≤ ks.getD j 0) :
    Ctr 5 w 39 [.ref l, .int b tb, .int 0 u, .none] news (fun r n' _ => (∃ k t, r = .int k t ∧ BisP ks b k k) ∧ n' = news) [("key", .ref lam)] := by
  have hvl := hK.1
  have hL2 := hL
  obtain ⟨qual, c', ca, oc, oca, vs', t, tz, ct, pm, hm1, -⟩ := hL2
  w_top off
  k_with_none
  k_with "eval Name" => (k_here; k_dflt (refine' nameX_L ?z0F ?z0v ?_ ?z0a ?z0b; (case z0F => k_asm); (case z0a => rfl); (case z0b => rfl); (case z0v => exact Eq.refl (some _)); k_whole))
  k_with "exec For Name Attribute cons nil" => (k_here; (with_unfolding_all refine' For_invVF ?z1kF ?z1k1 ?z1k2 ?_; (case z1kF => assumption); (case z1k1 => exact rfl); (case z1k2 => exact rfl); k_whole))
  k_with "exec For Name Name cons nil" => (k_here; (with_unfolding_all refine' For_invVF ?z2kF ?z2k1 ?z2k2 ?_; (case z2kF => assumption); (case z2k1 => exact rfl); (case z2k2 => exact rfl); k_whole))
  k_with "call builtin:len" => (k_here; (with_reducible show wpAny _ _ (call (Value.builtin "len") [Value.ref _]) _ _ _); k_dflt (refine' kst_len ?z3k1 ?z3k2 ?z3k3 ?z3k4 ?_; (case z3k1 => k_asm); (case z3k2 => k_mem); (case z3k3 => first | exact IntsAre.length (by assumption) | assumption); (case z3k4 => (first | lia | omega)); k_whole))
  k_with "call ref" => (k_here; k_dflt (refine' Ctr.useI (lam_spec _ _ _ _ _ _ ?z4c1 ?z4c2 ?z4c3 ?z4c4 ?z4c5) ?z4k1 ?z4k2 ?z4k3 ?z4k4 ?z4k5 ?z4kK ?z4kb ?z4kd ?z4ku ?_; (case z4k1 => k_asm); (case z4k2 => k_asm); (case z4k3 => k_asm); (case z4k4 => k_asm); (case z4k5 => k_asm); (case z4c1 => assumption); (case z4c2 => assumption); (case z4c3 => assumption); (case z4c4 => assumption); (case z4c5 => assumption); (case z4kK => first | exact rfl | assumption); (case z4kb => first | exact trivial | assumption); (case z4kd => ktr_room); (case z4ku => ktr_units)); (intro _ _ _ _ _); (try dsimp only); (try k_fold); (try k_sweep))
  k_with "callWith ref" => (k_here; k_dflt (refine' callWith_F ?z5k1 ?_; (case z5k1 => exact FnAt.of (by k_asm) (by assumption)); k_whole))
  k_with "FnAt" => (k_dflt (exact FnAt.of (by k_asm) (by assumption)))
  unfold Ctr
  k_fill
  intro loose mean mg mb dp un gd cn cs a₉ ccd cl outer A₀ base h₀ L₉ m₉ s Q E B₉ F₉ X₉ N₉ T₉ hk hb₉ hd₉ hu₉ hret
  refine wpAny_call ?_
  k_dflt (refine' code_def ?k1 ?k2 ?k3 ?k4 ?k5 ?kA ?kF ?kK ?k6 ?k7 ?k8 ?k9 ?kB ?_ ?c2 ?c3 ?c4 ?c5; (case kA => exact rfl); (case kF => exact rfl); (case kK => assumption); (case k1 => k_asm); (case k2 => k_asm); (case k3 => k_asm); (case k4 => k_asm); (case k5 => k_asm); (case k6 => k_is); (case k7 => k_is); (case k8 => ktr_room); (case k9 => have e31 := X₉ 31 _ (by k_is); replace e31 := F₉.keep _ _ e31; refine' binds_L e31 ?y1 ?y2; (case y1 => with_unfolding_all rfl); (case y2 => with_unfolding_all rfl)); (case c5 => decide); (case kB => exact locs rfl); (case c2 => exact rfl); (case c3 => exact rfl); (case c4 => exact rfl); k_whole; intro g' L' h' FG' F' N' B' X' T'; (try dsimp only); (try k_lift B'); (try k_fold))
  k_with_none
  k_with "eval Name" => (k_here; k_dflt (refine' nameX_L ?z0F ?z0v ?_ ?z0a ?z0b; (case z0F => k_asm); (case z0a => rfl); (case z0b => rfl); (case z0v => exact Eq.refl (some _)); k_whole))
  k_with "exec For Name Attribute cons nil" => (k_here; (with_unfolding_all refine' For_invVF ?z1kF ?z1k1 ?z1k2 ?_; (case z1kF => assumption); (case z1k1 => exact rfl); (case z1k2 => exact rfl); k_whole))
  k_with "exec For Name Name cons nil" => (k_here; (with_unfolding_all refine' For_invVF ?z2kF ?z2k1 ?z2k2 ?_; (case z2kF => assumption); (case z2k1 => exact rfl); (case z2k2 => exact rfl); k_whole))
  k_with "call builtin:len" => (k_here; (with_reducible show wpAny _ _ (call (Value.builtin "len") [Value.ref _]) _ _ _); k_dflt (refine' kst_len ?z3k1 ?z3k2 ?z3k3 ?z3k4 ?_; (case z3k1 => k_asm); (case z3k2 => k_mem); (case z3k3 => first | exact IntsAre.length (by assumption) | assumption); (case z3k4 => (first | lia | omega)); k_whole))
  k_with "call ref" => (k_here; k_dflt (refine' Ctr.useI (lam_spec _ _ _ _ _ _ ?z4c1 ?z4c2 ?z4c3 ?z4c4 ?z4c5) ?z4k1 ?z4k2 ?z4k3 ?z4k4 ?z4k5 ?z4kK ?z4kb ?z4kd ?z4ku ?_; (case z4k1 => k_asm); (case z4k2 => k_asm); (case z4k3 => k_asm); (case z4k4 => k_asm); (case z4k5 => k_asm); (case z4c1 => assumption); (case z4c2 => assumption); (case z4c3 => assumption); (case z4c4 => assumption); (case z4c5 => assumption); (case z4kK => first | exact rfl | assumption); (case z4kb => first | exact trivial | assumption); (case z4kd => ktr_room); (case z4ku => ktr_units)); (intro _ _ _ _ _); (try dsimp only); (try k_fold); (try k_sweep))
  k_with "callWith ref" => (k_here; k_dflt (refine' callWith_F ?z5k1 ?_; (case z5k1 => exact FnAt.of (by k_asm) (by assumption)); k_whole))
  k_with "FnAt" => (k_dflt (exact FnAt.of (by k_asm) (by assumption)))
  (repeat' ((fail_if_success (with_reducible show wpAny _ _ (PySem.pyIter _) _ _ _)); (fail_if_success (with_reducible show wpAny _ _ (PySem.exec (PySem.Stmt.While _ _ _ _) _) _ _ _)); first | ((fail_if_success (fail_if_success (with_reducible show wpAny _ _ _ _ _ (PySem.Shared.mk _ (PySem.Shared.gens (PySem.Shared.mk _ _ _ _ _)) _ _ _)))); dsimp only) | (k_unfold; (try dsimp only)) | (k_end; wrow_close) | walk1 | (dsimp only; walk1) | (leave1; walk_say "STEP leave1"; try dsimp only) | fail "no step"))
  k_with "state" => exact bis_hi hs kInv (by assumption) (by rw [he9]; assumption)
  k_with "state" => exact bis_lo hs kInv (by assumption) (by rw [he9]; assumption)
  k_with "state" => first | exact bis_init hvl | exact ⟨by (first | lia | omega), by (first | lia | omega), by (first | lia | omega), fun i h => by (first | lia | omega), fun i h1 h2 => by (first | lia | omega)⟩
  k_with "measure" => first | exact bis_less1 kInv (by assumption) | exact bis_less2 kInv (by assumption) | (have q := kInv; unfold BisP at q; rw [fd2]; (first | lia | omega))
  k_while (fun _ lo hi => BisP ks b lo hi) (fun _ lo hi => (hi - lo).toNat) "lo" "hi"
  k_with "subscriptTail Name Name ref int" => (k_here; k_dflt (refine' item_keys ?N ?m ?i ?a ?b ?c ?_; (case N => k_asm); (case m => assumption); (case i => assumption); (case a => first | exact (bis_mid kInv (by assumption) hlen).1 | (have q := kInv; unfold BisP at q; rw [fd2]; (first | lia | omega))); (case b => first | exact (bis_mid kInv (by assumption) hlen).2.1 | (have q := kInv; unfold BisP at q; rw [fd2]; (first | lia | omega))); (case c => first | exact (bis_mid kInv (by assumption) hlen).2.2 | (have q := kInv; unfold BisP at q; rw [fd2]; (first | lia | omega))); k_whole); intro x9 hk9; obtain ⟨σ9, hW9, hl9, he9⟩ := hk9)
  (repeat' ((fail_if_success (with_reducible show wpAny _ _ (PySem.pyIter _) _ _ _)); (fail_if_success (with_reducible show wpAny _ _ (PySem.exec (PySem.Stmt.While _ _ _ _) _) _ _ _)); first | ((fail_if_success (fail_if_success (with_reducible show wpAny _ _ _ _ _ (PySem.Shared.mk _ (PySem.Shared.gens (PySem.Shared.mk _ _ _ _ _)) _ _ _)))); dsimp only) | (k_unfold; (try dsimp only)) | (k_end; wrow_close) | walk1 | (dsimp only; walk1) | (leave1; walk_say "STEP leave1"; try dsimp only) | fail "no step"))
  exact hret _ _ _ _ ⟨⟨_, _, rfl, bis_end kInv (by assumption)⟩, rfl⟩ (by k_asm) (by k_asm)
end

-- part S10
section
theorem WhiteAt.mono {w : World} {a b : List (Addr × Obj)} {x : Addr} {σ : Scan} (h : WhiteAt w a x σ) (hs : ∀ p ∈ a, p ∈ b) : WhiteAt w b x σ := by
  obtain ⟨dx, D1, D2, xt, k0, k1, k2, k3, k4, k5, k6, k7, sim, vs, tb, n1, n2, n3, n4, hi⟩ := h
  exact ⟨dx, D1, D2, xt, k0, k1, k2, k3, k4, k5, k6, k7, sim, vs, tb, hs _ n1, hs _ n2, hs _ n3, hs _ n4, hi⟩
theorem KeyAt.mono {w : World} {a b : List (Addr × Obj)} {size : Int} {x : Addr} {k : Int} (h : KeyAt w a size x k) (hs : ∀ p ∈ a, p ∈ b) : KeyAt w b size x k := by
  obtain ⟨σ, h1, h2, h3⟩ := h
  exact ⟨σ, h1.mono hs, h2, h3⟩
theorem KeysAt.mono {w : World} {a b : List (Addr × Obj)} {size : Int} {vs : List Value} {ks : List Int} (h : KeysAt w a size vs ks) (hs : ∀ p ∈ a, p ∈ b) : KeysAt w b size vs ks :=
  ⟨h.1, fun j hj => by obtain ⟨x, e, hk⟩ := h.2 j hj; exact ⟨x, e, hk.mono hs⟩⟩
theorem LamAt.mono {a b : List (Addr × Obj)} {lam : Addr} {size : Int} (h : LamAt a lam size) (hs : ∀ p ∈ a, p ∈ b) : LamAt b lam size := by
  obtain ⟨qual, c', ca, oc, oca, vs, t, tz, ct, pm, m1, m2, m3, m4, m5, m6⟩ := h
  exact ⟨qual, c', ca, oc, oca, vs, t, tz, ct, pm, hs _ m1, hs _ m2, m3, m4, hs _ m5, m6⟩
theorem fits_ix {ks : List Int} {b k : Int} (h : BisP ks b k k) (hl : ks.length ≤ 100) : Builtin.List.listFitsIndex k = true :=
  Bool.and_eq_true_iff.mpr ⟨decide_eq_true (Int.le_trans (by decide) h.1), decide_eq_true (Int.lt_of_le_of_lt h.2.2.1 (Int.lt_of_le_of_lt (Int.ofNat_le.mpr hl) (by decide)))⟩
theorem size_keys {vs : List Value} {n : Nat} (h : vs.length = n) (hb : n ≤ 100) : vs.toArray.toList.length ≤ sizeLine :=
  PySem.sizeLine_eq ▸ Nat.le_trans (show vs.length ≤ 100 from h ▸ hb) (by decide)
theorem insort_spec (w : World) (lam l x : Addr) (vs : List Value) (ks : List Int) (c : Nat) (b size : Int) (rest : List (Addr × Obj)) (hK : KeysAt w rest size vs ks) (hx : KeyAt w rest size x b) (hL : LamAt rest lam size) (h0 : 1 ≤ size) (h1 : size ≤ 4) (hlen : ks.length ≤ 100)
    (hs : ∀ i j : Nat, i ≤ j → j < ks.length → ks.getD i 0 ≤ ks.getD j 0) (hoff : OwnOff rest [l]) :
    Ctr 6 w 30 [.ref l, .ref x] ((l, listOf vs.toArray c) :: rest) (fun r n' _ => r = .none ∧ ∃ (k : Int) (c' : Nat), n' = (l, listOf (kl_ins vs k (.ref x)).toArray c') :: rest ∧ BisP ks b k k) [("key", .ref lam)] := by
  obtain ⟨σ, hW, hl, rfl⟩ := hx
  have hvl := hK.1
  have hL2 := hL
  obtain ⟨qual, c', ca, oc, oca, vs', t, tz, ct, pm, hm1, -⟩ := hL2
  have hK' : KeysAt w ((l, listOf vs.toArray c) :: rest) size vs ks := hK.mono fun p hp => .tail _ hp
  have hL' : LamAt ((l, listOf vs.toArray c) :: rest) lam size := hL.mono fun p hp => .tail _ hp
  have hW' : WhiteAt w ((l, listOf vs.toArray c) :: rest) x σ := hW.mono fun p hp => .tail _ hp
  w_top off
  k_with_none
  k_with "eval Name" => (k_here; k_dflt (refine' nameX_L ?z0F ?z0v ?_ ?z0a ?z0b; (case z0F => k_asm); (case z0a => rfl); (case z0b => rfl); (case z0v => exact Eq.refl (some _)); k_whole))
  k_with "exec For Name Attribute cons nil" => (k_here; (with_unfolding_all refine' For_invVF ?z1kF ?z1k1 ?z1k2 ?_; (case z1kF => assumption); (case z1k1 => exact rfl); (case z1k2 => exact rfl); k_whole))
  k_with "exec For Name Name cons nil" => (k_here; (with_unfolding_all refine' For_invVF ?z2kF ?z2k1 ?z2k2 ?_; (case z2kF => assumption); (case z2k1 => exact rfl); (case z2k2 => exact rfl); k_whole))
  k_with "call builtin:len" => (k_here; (with_reducible show wpAny _ _ (call (Value.builtin "len") [Value.ref _]) _ _ _); k_dflt (refine' kst_len ?z3k1 ?z3k2 ?z3k3 ?z3k4 ?_; (case z3k1 => k_asm); (case z3k2 => k_mem); (case z3k3 => first | exact IntsAre.length (by assumption) | assumption); (case z3k4 => (first | lia | omega)); k_whole))
  k_with "callWith ref" => (k_here; k_dflt (refine' callWith_F ?z4k1 ?_; (case z4k1 => exact FnAt.of (by k_asm) (by first | assumption | (refine List.mem_cons_of_mem _ ?_; assumption))); k_whole))
  k_with "FnAt" => (k_dflt (exact FnAt.of (by k_asm) (by first | assumption | (refine List.mem_cons_of_mem _ ?_; assumption))))
  k_with "call ref" => (k_here; k_dflt (refine' Ctr.useI (lam_spec _ _ _ _ _ _ ?z6c1 ?z6c2 ?z6c3 ?z6c4 ?z6c5) ?z6k1 ?z6k2 ?z6k3 ?z6k4 ?z6k5 ?z6kK ?z6kb ?z6kd ?z6ku ?_; (case z6k1 => k_asm); (case z6k2 => k_asm); (case z6k3 => k_asm); (case z6k4 => k_asm); (case z6k5 => k_asm); (case z6c1 => assumption); (case z6c2 => assumption); (case z6c3 => assumption); (case z6c4 => assumption); (case z6c5 => assumption); (case z6kK => first | exact rfl | assumption); (case z6kb => first | exact trivial | assumption); (case z6kd => ktr_room); (case z6ku => ktr_units)); (intro _ _ _ _ _); (try dsimp only); (try k_fold); (try k_sweep))
  k_with "call ref" => (k_here; k_dflt (refine' Ctr.useB (bisK_spec _ _ _ _ _ _ _ _ _ _ _ ?z7c1 ?z7c2 ?z7c3 ?z7c4 ?z7c5 ?z7c6 ?z7c7) ?z7k1 ?z7k2 ?z7k3 ?z7k4 ?z7k5 ?z7kK ?z7kb ?z7kd ?z7ku ?_; (case z7k1 => k_asm); (case z7k2 => k_asm); (case z7k3 => k_asm); (case z7k4 => k_asm); (case z7k5 => k_asm); (case z7c1 => k_mem); (case z7c2 => assumption); (case z7c3 => assumption); (case z7c4 => assumption); (case z7c5 => assumption); (case z7c6 => assumption); (case z7c7 => assumption); (case z7kK => first | exact rfl | assumption); (case z7kb => first | exact trivial | assumption); (case z7kd => ktr_room); (case z7ku => ktr_units)); (intro _ _ _ _ _ _ _); (try dsimp only); (try k_fold); (try k_sweep))
  unfold Ctr
  k_fill
  intro loose mean mg mb dp un gd cn cs a₉ ccd cl outer A₀ base h₀ L₉ m₉ s Q E B₉ F₉ X₉ N₉ T₉ hk hb₉ hd₉ hu₉ hret
  refine wpAny_call ?_
  k_dflt (refine' code_def ?k1 ?k2 ?k3 ?k4 ?k5 ?kA ?kF ?kK ?k6 ?k7 ?k8 ?k9 ?kB ?_ ?c2 ?c3 ?c4 ?c5; (case kA => exact rfl); (case kF => exact rfl); (case kK => assumption); (case k1 => k_asm); (case k2 => k_asm); (case k3 => k_asm); (case k4 => k_asm); (case k5 => k_asm); (case k6 => k_is); (case k7 => k_is); (case k8 => ktr_room); (case k9 => have e22 := X₉ 22 _ (by k_is); replace e22 := F₉.keep _ _ e22; refine' binds_L e22 ?y1 ?y2; (case y1 => with_unfolding_all rfl); (case y2 => with_unfolding_all rfl)); (case c5 => decide); (case kB => exact locs rfl); (case c2 => exact rfl); (case c3 => exact rfl); (case c4 => exact rfl); k_whole; intro g' L' h' FG' F' N' B' X' T'; (try dsimp only); (try k_lift B'); (try k_fold))
  have kMark9 := kstMark
  k_with_none
  k_with "eval Name" => (k_here; k_dflt (refine' nameX_L ?z0F ?z0v ?_ ?z0a ?z0b; (case z0F => k_asm); (case z0a => rfl); (case z0b => rfl); (case z0v => exact Eq.refl (some _)); k_whole))
  k_with "exec For Name Attribute cons nil" => (k_here; (with_unfolding_all refine' For_invVF ?z1kF ?z1k1 ?z1k2 ?_; (case z1kF => assumption); (case z1k1 => exact rfl); (case z1k2 => exact rfl); k_whole))
  k_with "exec For Name Name cons nil" => (k_here; (with_unfolding_all refine' For_invVF ?z2kF ?z2k1 ?z2k2 ?_; (case z2kF => assumption); (case z2k1 => exact rfl); (case z2k2 => exact rfl); k_whole))
  k_with "call builtin:len" => (k_here; (with_reducible show wpAny _ _ (call (Value.builtin "len") [Value.ref _]) _ _ _); k_dflt (refine' kst_len ?z3k1 ?z3k2 ?z3k3 ?z3k4 ?_; (case z3k1 => k_asm); (case z3k2 => k_mem); (case z3k3 => first | exact IntsAre.length (by assumption) | assumption); (case z3k4 => (first | lia | omega)); k_whole))
  k_with "callWith ref" => (k_here; k_dflt (refine' callWith_F ?z4k1 ?_; (case z4k1 => exact FnAt.of (by k_asm) (by first | assumption | (refine List.mem_cons_of_mem _ ?_; assumption))); k_whole))
  k_with "FnAt" => (k_dflt (exact FnAt.of (by k_asm) (by first | assumption | (refine List.mem_cons_of_mem _ ?_; assumption))))
  k_with "call ref" => (k_here; k_dflt (refine' Ctr.useI (lam_spec _ _ _ _ _ _ ?z6c1 ?z6c2 ?z6c3 ?z6c4 ?z6c5) ?z6k1 ?z6k2 ?z6k3 ?z6k4 ?z6k5 ?z6kK ?z6kb ?z6kd ?z6ku ?_; (case z6k1 => k_asm); (case z6k2 => k_asm); (case z6k3 => k_asm); (case z6k4 => k_asm); (case z6k5 => k_asm); (case z6c1 => assumption); (case z6c2 => assumption); (case z6c3 => assumption); (case z6c4 => assumption); (case z6c5 => assumption); (case z6kK => first | exact rfl | assumption); (case z6kb => first | exact trivial | assumption); (case z6kd => ktr_room); (case z6ku => ktr_units)); (intro _ _ _ _ _); (try dsimp only); (try k_fold); (try k_sweep))
  k_with "call ref" => (k_here; k_dflt (refine' Ctr.useB (bisK_spec _ _ _ _ _ _ _ _ _ _ _ ?z7c1 ?z7c2 ?z7c3 ?z7c4 ?z7c5 ?z7c6 ?z7c7) ?z7k1 ?z7k2 ?z7k3 ?z7k4 ?z7k5 ?z7kK ?z7kb ?z7kd ?z7ku ?_; (case z7k1 => k_asm); (case z7k2 => k_asm); (case z7k3 => k_asm); (case z7k4 => k_asm); (case z7k5 => k_asm); (case z7c1 => k_mem); (case z7c2 => assumption); (case z7c3 => assumption); (case z7c4 => assumption); (case z7c5 => assumption); (case z7c6 => assumption); (case z7c7 => assumption); (case z7kK => first | exact rfl | assumption); (case z7kb => first | exact trivial | assumption); (case z7kd => ktr_room); (case z7ku => ktr_units)); (intro _ _ _ _ _ _ _); (try dsimp only); (try k_fold); (try k_sweep))
  k_with "call builtin:list.insert" => (k_here; k_dflt (refine' kl_insert ?F ?N ?f ?e ?U ?z ?_; (case F => k_asm); (case N => k_asm); (case U => exact Upd.head (fun p hp => hoff p hp _ (.head _))); (case f => exact fits_ix (by assumption) hlen); (case e => exact rfl); (case z => exact size_keys (by assumption) hlen); k_whole); intro h' F' N')
  (repeat' ((fail_if_success (with_reducible show wpAny _ _ (PySem.pyIter _) _ _ _)); (fail_if_success (with_reducible show wpAny _ _ (PySem.exec (PySem.Stmt.While _ _ _ _) _) _ _ _)); first | ((fail_if_success (fail_if_success (with_reducible show wpAny _ _ _ _ _ (PySem.Shared.mk _ (PySem.Shared.gens (PySem.Shared.mk _ _ _ _ _)) _ _ _)))); dsimp only) | (k_unfold; (try dsimp only)) | (k_end; wrow_close) | walk1 | (dsimp only; walk1) | (leave1; walk_say "STEP leave1"; try dsimp only) | fail "no step"))
  exact hret _ _ _ _ ⟨rfl, _, _, rfl, by assumption⟩ (by k_asm) (by k_asm)
theorem Ctr.useN {G : Int → Nat → List (Addr × Obj)} {P : Int → Prop} {d : Nat} {w : World} {f : Addr} {vs : List Value} {news : List (Addr × Obj)} {kw : List (Str × Value)} {Hb : Heap → Prop}
    {loose : List Str} {mean : ExcName → Option Value} {mg mb : Str → Option Value} {dp un : Nat} {gd : Option (List Code)} {cn : Str} {cs : Scope} {a : Addr} {ccd : Value} {cl : List (Str × Addr)} {outer : List Env} {A₀ : Around} {base h₀ : Heap} {L : Addr} {m : Str → Option Value} {h1 : Heap} {gn : Array GenState} {dr : Drawn} {t1 : Nat} {os : OsState} {Q E : Value → Shared → Prop}
    (S : Ctr d w f vs news (fun r n' _ => r = .none ∧ ∃ (k : Int) (c' : Nat), n' = G k c' ∧ P k) kw Hb) (B : Below A₀ base outer h₀) (F : Fr h₀ L h1 m) (X : (Mine.hd.heap_39 w.params).In h₀) (N : News h₀ L h1 news) (T : Top topProg loose mean mg mb h₀) (hk : cs.kind = .function)
    (hb : Hb base) (hd : dp + d < recursionLimit) (hu : un + 8 * d < cLine)
    (ret : ∀ h' tk' k c', P k → Fr h₀ L h' m → News h₀ L h' (G k c') → Q .none ⟨h', gn, dr, tk', os⟩) :
    wpAny (model PySem.Challenge.rw_sw0054_01.row.prog w) (ktrTop dp un gd cn cs L a ccd cl outer) (call (.ref f) vs kw) Q E ⟨h1, gn, dr, t1, os⟩ :=
  Ctr.use S B F X N T hk hb hd hu (by rintro v n h tk hle ⟨rfl, k, c, rfl, hB⟩ F N; exact ret h tk k c hB F N)
end

-- part L2
section
inductive CInv (h₀ : Heap) (L : Addr) (m : Str → Option Value) (C D : Addr) (news : List (Addr × Obj)) (G : Nat → List Value → Nat → Prop) (n : Nat) (It : Heap → Nat → Prop) (s₁ : Shared) (k : Nat) (s' : Shared) : Prop
  | mk (h' : Heap) (tk i : Nat) (ys : List Value) (m' : Str → Option Value) (f0 : s' = { s₁ with heap := h', toks := tk }) (f1 : i ≤ n) (f2 : k = n + 1 - i) (f3 : ys.length = i) (f4 : It h' i) (f5 : Fr h₀ L h' m) (f6 : h'.Ns C m') (f7 : News h₀ L h' ((D, LCg.lst ys) :: news)) (f8 : G i ys tk) : CInv h₀ L m C D news G n It s₁ k s'
inductive BlkEnd (h₀ : Heap) (L : Addr) (m : Str → Option Value) (s₁ : Shared) (led : List (Addr × Obj)) (tk : Nat) (G : Value → Nat → Prop) (y : Value) (s₂ : Shared) : Prop
  | mk (h' : Heap) (tk' : Nat) (f0 : s₂ = { s₁ with heap := h', toks := tk' }) (f1 : Fr h₀ L h' m) (f2 : News h₀ L h' led) (f3 : tk ≤ tk' → G y tk') : BlkEnd h₀ L m s₁ led tk G y s₂
open LCg in
inductive SrcT (prog : Program) (w : World) (A : Around) (h₀ : Heap) (L : Addr) (m : Str → Option Value) (env : Env) (elt : PySem.Expr) (x : Str) (scope : Scope) (cl : List (Str × Addr)) (Q : Value → Shared → Prop) (xv : Value) (s₁ : Shared) : Prop
  | mk (ax : Addr) (its : List Value) (nn : Nat) (news : List (Addr × Obj)) (G : Nat → List Value → Nat → Prop) (f0 : xv = .ref ax) (f1 : A.handled = none) (f2 : Fr h₀ L s₁.heap m) (f3 : News h₀ L s₁.heap news) (f4 : (ax, listOf its.toArray nn) ∈ news) (f5 : its.length ≤ 1000) (f6 : (∀ i ys t t', t ≤ t' → G i ys t → G i ys t')) (f7 : G 0 [] s₁.toks) (f8 : (∀ i ys v I oI C oC D h tk (E' : Value → Shared → Prop) m₂, i < its.length → its[i]? = some v → ys.length = i → G i ys tk → NsObj oC m₂ → m₂ x = some v → Fr h₀ L h m → News h₀ L h ((I, oI) :: (C, oC) :: (D, lst ys) :: news) → wpAny (model prog w) A (eval elt (compEnvC scope cl C env)) (BlkEnd h₀ L m s₁ ((I, oI) :: (C, oC) :: (D, lst ys) :: news) tk fun y tk' => G (i + 1) (ys ++ [y]) tk') E' { s₁ with heap := h, toks := tk })) (f9 : (∀ D ys h tk, ys.length = its.length → G its.length ys tk → Fr h₀ L h m → News h₀ L h ((D, lst ys) :: news) → (∀ p ∈ news, p.1 ≠ D) → Q (.ref D) { s₁ with heap := h, toks := tk })) : SrcT prog w A h₀ L m env elt x scope cl Q xv s₁
open LCg in
/-- a block over a list of the ledger; its elements leave the ledger as it is, and what they answer is told with the tokens -/
theorem listComp_T {prog : Program} {w : World} {A : Around} {E : Value → Shared → Prop} {s : Shared} {h₀ : Heap} {L : Addr} {m : Str → Option Value} {env : Env}
    {elt iter : PySem.Expr} {x : Str} {px : Pos} {scope : Scope} {cl : List (Str × Addr)} {pos : Pos} {Q : Value → Shared → Prop} (_F₀ : Fr h₀ L s.heap m)
    (hclos : closureFor scope env = pure cl) (hcell : ∀ y ∈ scope.names, y.2 ≠ .cell) (hkind : scope.kind = .function)
    (hnames : ∀ y ∈ scope.names, y.2 = .local → scope.names.lookup y.1 = some .local) (hx : scope.names.lookup x = some .local)
    (h : wpAny (model prog w) A (eval iter env) (SrcT prog w A h₀ L m env elt x scope cl Q) E s)
    (hs : ∀ x, foldedSetIterable iter env x = pure x := by intro _; rfl) :
    wpAny (model prog w) A (eval (.ListComp elt [⟨.Name x px, iter, [], 0⟩] scope pos) env) Q E s := by
  rw [eval_ListComp]
  refine wpAny_comprehension_free (use := none) rfl hs hclos hkind hnames (wpAny_mono h (fun xv s₁ h₁ => ?_) fun _ _ e => e)
  obtain ⟨ax, its, nn, news, G, rfl, hh, F, N, hm, hsz, hmono, hG0, turn, fin⟩ := h₁
  have hl : s₁.heap.IsList ax its.toArray := ⟨_, (N _ hm).1, rfl, nn, rfl⟩
  have hax : ax < s₁.heap.objs.size := Heap.lt_size (N _ hm).1
  have hLlt : L < s₁.heap.objs.size := F.ns.lt
  have hLax : L ≠ ax := Ne.symm (N _ hm).2.1
  refine wpAny_pyIter_list hl ?_
  have hI₀ := next_is_new F
  generalize hIe : s₁.heap.objs.size = I at *
  have hup : ∀ b o, s₁.heap.get? b = some o → (s₁.heap.push { cls := .type "list_iterator", data := .fields #[.ref ax, .int 0 0] }).get? b = some o := fun b o e => Heap.get?_push_of_some _ e
  have W := Walks.list (prog := prog) (w := w) (A := A) hh I ax (Nat.ne_of_lt hax) its.toArray
  rw [List.size_toArray] at W
  refine wpAny_newObj_type (wpAny_newFunctionEnv hcell (by intro y hy; simp at hy) (fun h₁ hns₁ hsb₁ => ?_) hkind)
  dsimp only at hns₁ hsb₁ ⊢
  generalize hH1 : s₁.heap.push { cls := .type "list_iterator", data := .fields #[.ref ax, .int 0 0] } = H1 at *
  generalize hH2 : H1.push { cls := .type "list", dict := none, data := .seq ([] : List Value).toArray } = H2 at *
  have hD : H1.objs.size = I + 1 := by rw [← hH1, Heap.size_push, hIe]
  have hC : H2.objs.size = I + 2 := by rw [← hH2, Heap.size_push, hD]
  generalize hDe : H1.objs.size = D at *
  generalize hCe : H2.objs.size = C at *
  have n1 : @LT.lt Nat _ L I := hLlt
  have n2 : @LT.lt Nat _ ax I := hax
  have n3 : @Eq Nat D (I + 1) := hD
  have n4 : @Eq Nat C (I + 2) := hC
  have z9 := addr3 n1 n3 n4
  have below : ∀ b, @LT.lt Nat _ b I → b ≠ I ∧ b ≠ D ∧ b ≠ C := z9.1
  have hID : @Ne Nat I D := z9.2.1
  have hIC : @Ne Nat I C := z9.2.2.1
  have hDC : @Ne Nat D C := z9.2.2.2.1
  have hLI : @Ne Nat L I := z9.2.2.2.2.1
  have hLD : @Ne Nat L D := z9.2.2.2.2.2.1
  have hLC : @Ne Nat L C := z9.2.2.2.2.2.2
  have old : ∀ b o, s₁.heap.get? b = some o → h₁.get? b = some o := fun b o e => hsb₁.extBut b o (below b (hIe ▸ Heap.lt_size e)).2.2 (Heap.get?_push_of_some _ (hH2 ▸ Heap.get?_push_of_some _ (hup b o e)))
  have fresh₀ : ∀ a, @LE.le Nat _ I a → h₀.get? a = none := fun a ha => by
    cases e : h₀.get? a with
    | none => rfl
    | some o' => exact absurd (Heap.lt_size (F.keep a o' e)) (by rw [hIe]; exact Nat.not_lt.mpr ha)
  have hD₀ : h₀.get? D = none := fresh₀ _ (n3 ▸ Nat.le_add_right I 1)
  have hC₀ : h₀.get? C = none := fresh₀ _ (n4 ▸ Nat.le_add_right I 2)
  have hacc : h₁.get? D = some (lst []) := hsb₁.extBut _ _ hDC (Heap.get?_push_of_some _ (by rw [← hH2, ← hDe]; exact Heap.get?_push_size _ rfl))
  have hit : h₁.get? I = some { cls := .type "list_iterator", data := .fields #[.ref ax, .int 0 0] } :=
    hsb₁.extBut _ _ hIC (Heap.get?_push_of_some _ (by rw [← hH2]; exact Heap.get?_push_of_some _ (by rw [← hH1, ← hIe]; exact Heap.get?_push_size _ rfl)))
  have offN : ∀ p ∈ news, p.1 ≠ I ∧ p.1 ≠ D ∧ p.1 ≠ C := fun p hp => below _ (hIe ▸ Heap.lt_size (N p hp).1)
  have loop : ∀ s₃ : Shared, s₃ = { s₁ with heap := h₁, toks := s₁.toks + ([] : List (Str × Value)).length } →
      codeAny (model prog w) A (.compLoop (.ListComp elt [⟨.Name x px, iter, [], 0⟩] scope pos) 0 (.ref I) (.ref D) (compEnvC scope cl C env))
        (compPost (model prog w) A E none Q (.ref D) C) s₃ := by
    rintro s₃ rfl
    refine codeAny_compLoop_tests
      (CInv h₀ L m C D news G its.length (fun h' i => h'.IsListIter I ax i) s₁) ?_ (its.length + 1)
      ⟨h₁, _, 0, [], _, rfl, Nat.zero_le _, rfl, rfl, ⟨_, hit, rfl, rfl⟩, F.keeps old, hns₁, ?_, hmono _ _ _ _ (Nat.le_add_right _ _) hG0⟩
    · rintro k s' ⟨h', tk, i, ys, m', rfl, hi, rfl, hyl, hst', F', hn', N', hG⟩
      have hl' : h'.IsList ax its.toArray := ⟨_, (N' _ (.tail _ hm)).1, rfl, nn, rfl⟩
      by_cases hlt : i < its.length
      · refine wpAny_with_toks (Nat.le_refl _) (W.item i _ _ _ hlt ⟨hst', hl'⟩ fun v h₂ tk₂ hPv hst₂ hk₂ htk₂ => ?_)
        refine wpAny_assign_Name (wpAny_storeName_local (lookup_relabel_local hx) (hn'.at' fun o e => hk₂ _ o (by simpa using Ne.symm hIC) e) (fun h₃ hn₃ hs₃ => ?_) (by simp [compEnvC, relabel, hkind]))
        refine wpAny_tests_nil ?_
        simp only [if_true]
        have hit₃ : h₃.IsListIter I ax (i + 1) := hst₂.1.at fun o e => hs₃.extBut _ o hIC e
        obtain ⟨oI, heI, _⟩ := id hit₃
        obtain ⟨oC, heC, hoC⟩ := ns_obj hn₃
        have F₃ : Fr h₀ L h₃ m := (fr_but F' hk₂ hLI hI₀).change hs₃ (Ne.symm hLC) hC₀
        have N₂ : News h₀ L h₂ ((D, lst ys) :: news) := news_but N' hk₂ fun p hp => by
          rcases List.mem_cons.mp hp with rfl | hp
          · exact Ne.symm hID
          · exact (offN p hp).1
        have N₃ : News h₀ L h₃ ((I, oI) :: (C, oC) :: (D, lst ys) :: news) := fun p hp => by
          rcases List.mem_cons.mp hp with rfl | hp
          · exact ⟨heI, Ne.symm hLI, hI₀⟩
          · rcases List.mem_cons.mp hp with rfl | hp
            · exact ⟨heC, Ne.symm hLC, hC₀⟩
            · have z := N₂ p hp
              refine ⟨hs₃.extBut _ _ ?_ z.1, z.2⟩
              rcases List.mem_cons.mp hp with rfl | hp
              · exact hDC
              · exact (offN p hp).2.2
        refine wpAny_with_toks (Nat.le_refl _) (wpAny_mono (turn i ys v I oI C oC D h₃ _ _ _ hlt (by simpa using hPv) hyl (hmono _ _ _ _ (Nat.le_trans htk₂ (Nat.le_succ _)) hG) hoC (by simp) F₃ N₃) (fun y s₄ h₄ => ?_) fun _ _ e _ => e)
        obtain ⟨h₄, tk₄, rfl, F₄, N₄, hG₄⟩ := h₄
        intro htk₄
        have zI := (N₄ (I, oI) List.mem_cons_self).1
        have zC := (N₄ (C, oC) (List.mem_cons_of_mem _ List.mem_cons_self)).1
        have zD := (N₄ (D, lst ys) (List.mem_cons_of_mem _ (List.mem_cons_of_mem _ List.mem_cons_self))).1
        refine append_at (hsz := by rw [List.size_toArray, hyl, PySem.sizeLine_eq]; (first | lia | omega)) zD fun h₅ hs₅ hD₅ => ?_
        have hit₄ : h₄.IsListIter I ax (i + 1) := by obtain ⟨o', q, r⟩ := hit₃; rw [heI] at q; cases q; exact ⟨_, zI, r⟩
        refine ⟨its.length + 1 - (i + 1), dec_lt hlt, h₅, tk₄, i + 1, ys ++ [y], _, rfl, hlt, rfl, by rw [List.length_append, List.length_singleton, hyl], hit₄.at fun o e => hs₅.extBut _ o hID e, F₄.change hs₅ (Ne.symm hLD) hD₀,
          (hoC.ns zC).sameBut hs₅ (Ne.symm hDC), fun p hp => ?_, hG₄ htk₄⟩
        rcases List.mem_cons.mp hp with rfl | hp
        · exact ⟨hD₅.trans (congrArg some (lst_snoc ys y)), Ne.symm hLD, hD₀⟩
        · have z := N₄ p (List.mem_cons_of_mem _ (List.mem_cons_of_mem _ (List.mem_cons_of_mem _ hp)))
          exact ⟨hs₅.extBut _ _ (offN p hp).2.1 z.1, z.2⟩
      · obtain rfl : i = its.length := Nat.le_antisymm hi (Nat.not_lt.mp hlt)
        refine wpAny_with_toks (Nat.le_refl _) (W.done _ _ _ ⟨hst', hl'⟩ fun h₂ tk₂ hk₂ htk₂ => ?_)
        refine ⟨m', hn'.at' fun o e => hk₂ _ o (by simpa using Ne.symm hIC) e, fun h'' hs'' => fin D ys h'' tk₂ hyl (hmono _ _ _ _ htk₂ hG) ((fr_but F' hk₂ hLI hI₀).change hs'' (Ne.symm hLC) hC₀) (fun p hp => ?_) fun p hp => (offN p hp).2.1⟩
        have z := news_but N' hk₂ (fun p hp => by
          rcases List.mem_cons.mp hp with rfl | hp
          · exact Ne.symm hID
          · exact (offN p hp).1) p hp
        refine ⟨hs''.extBut _ _ ?_ z.1, z.2⟩
        rcases List.mem_cons.mp hp with rfl | hp
        · exact hDC
        · exact (offN p hp).2.2
    · intro p hp
      rcases List.mem_cons.mp hp with rfl | hp
      · exact ⟨hacc, Ne.symm hLD, hD₀⟩
      · exact ⟨old _ _ (N p hp).1, (N p hp).2⟩
  have hst₁ : h₁.IsListIter I ax 0 ∧ h₁.IsList ax its.toArray := ⟨⟨_, hit, rfl, rfl⟩, hl.at fun o e => old _ o e⟩
  exact codeAny_compStart_list (loop _ rfl) (W.self 0 _ _ _ hst₁ (loop _ rfl))
theorem lam_any {M : Model} {A : Around} {E : Value → Shared → Prop} {s : Shared} {h₀ : Heap} {L a c P : Addr} {m mg mb : Str → Option Value} {cn : Str} {cs : Scope} {ccd : Value} {cl : List (Str × Addr)} {news : List (Addr × Obj)} {g : Obj → List (Addr × Obj)}
  {p : Program} {loose : List Str} {mean : ExcName → Option Value} {name qual : Str} {params : Arguments} {body : PySem.Expr} {scope : Scope} {ps : Array Value} {pos : Pos} {firstLine : Nat} {clos : List (Str × Addr)} {Q : Value → Shared → Prop}
    (bs : List Addr) (F : Fr h₀ L s.heap m) (N : News h₀ L s.heap news) (T : Top p loose mean mg mb h₀) (C : CodeHd h₀ c P) (hcd : ccd = .ref c) (U : UpdF P (tabObj ps) news g)
    (hps : ps = #[] ∨ ∃ (c' : Addr) (oc : Obj) (vs : Array Value) (t : Tok), ps = #[rawInt pos.line, rawInt pos.col, .ref c'] ∧ (c', oc) ∈ news ∧ (∀ b ∈ bs, c' ≠ b) ∧ oc.data = .fields vs ∧ vs[1]? = some (.str qual t))
    (hbs : ∀ b ∈ bs, ∃ o, (b, o) ∈ news)
    (hcl : closureFor scope (envX cn cs L a ccd cl) = pure clos)
    (h : ∀ f c' oc vs t ctv h' tk, Fr h₀ L h' m →
      News h₀ L h' ((f, kla_obj name qual params body scope clos ((mg "__name__").getD .none) c' ctv) :: (c', oc) :: g (tabObj #[rawInt pos.line, rawInt pos.col, .ref c'])) →
      oc.data = .fields vs → vs[1]? = some (.str qual t) → (∀ b ∈ bs, c' ≠ b) → (∀ b ∈ bs, f ≠ b) → Q (.ref f) { s with heap := h', toks := tk }) :
    wpAny M A (makeFunction name qual params (.expr body) scope (envX cn cs L a ccd cl) [] [] [] pos firstLine) Q E s := by
  rcases hps with rfl | ⟨c', oc, vs, t, rfl, hc, hcb, hd, hv⟩
  · refine kla_nest F N T C hcd U trivial rfl hcl fun f c' oc vs t ctv h' tk F' N' hd hv hlt hcf => ?_
    have hb : ∀ b ∈ bs, @LT.lt Nat _ b c' := fun b hb => by obtain ⟨o, ho⟩ := hbs b hb; exact hlt _ ho
    refine h f c' oc vs t ctv h' tk F' N' hd hv (fun b hb' => Nat.ne_of_gt (hb b hb')) fun b hb' => Nat.ne_of_gt (Nat.lt_trans (hb b hb') hcf)
  · have hP : (P, tabObj #[rawInt pos.line, rawInt pos.col, .ref c']) ∈ news := by
      obtain ⟨pre, post, rfl, _⟩ := U.split
      exact List.mem_append_right _ (.head _)
    have hg : g (tabObj #[rawInt pos.line, rawInt pos.col, .ref c']) = news := by
      obtain ⟨pre, post, rfl, hg, _⟩ := U.split
      exact hg _
    refine kla_hit (c' := c') F N T C hcd hP (by exact ⟨⟩) (by simp [codeAmong, rawInt]) hcl fun f ctv h' tk F' N' hlt => ?_
    refine h f c' oc vs t ctv h' tk F' (fun q hq => ?_) hd hv hcb fun b hb' => by obtain ⟨o, ho⟩ := hbs b hb'; exact Nat.ne_of_gt (hlt _ ho)
    rw [hg] at hq
    rcases List.mem_cons.mp hq with rfl | hq
    · exact N' _ (.head _)
    · rcases List.mem_cons.mp hq with rfl | hq
      · exact N' _ (.tail _ hc)
      · exact N' _ (.tail _ hq)
end

-- part P1
section
noncomputable def Sorted (ks : List Int) : Prop := ∀ i j : Nat, i ≤ j → j < ks.length → ks.getD i 0 ≤ ks.getD j 0
theorem get_ins {α : Type} (l : List α) (k : Nat) (hk : k ≤ l.length) (b : α) (j : Nat) : (l.take k ++ b :: l.drop k)[j]? = if j < k then l[j]? else if j = k then some b else l[j - 1]? := by
  have e9 : (l.take k).length = k := by rw [List.length_take]; exact Nat.min_eq_left hk
  by_cases h1 : j < k
  · rw [if_pos h1, List.getElem?_append_left (e9.symm ▸ h1), List.getElem?_take_of_lt h1]
  · rw [if_neg h1, List.getElem?_append_right (e9.symm ▸ Nat.not_lt.mp h1), e9]
    by_cases h2 : j = k
    · rw [if_pos h2, h2, Nat.sub_self]; rfl
    · obtain ⟨d, rfl⟩ := Nat.exists_eq_add_of_lt (Nat.lt_of_le_of_ne (Nat.not_lt.mp h1) (Ne.symm h2))
      rw [if_neg h2, Nat.add_assoc, Nat.add_sub_cancel_left, List.getElem?_cons_succ, List.getElem?_drop]
      rfl
noncomputable def insK (ks : List Int) (k : Nat) (b : Int) : List Int := ks.take k ++ b :: ks.drop k
theorem insK_len {ks : List Int} {k : Nat} {b : Int} (_hk : k ≤ ks.length) : (insK ks k b).length = ks.length + 1 := by
  unfold insK
  rw [List.length_append, List.length_cons, ← Nat.add_assoc, ← List.length_append, List.take_append_drop]
theorem insK_getD {ks : List Int} {k : Nat} {b : Int} (hk : k ≤ ks.length) (j : Nat) : (insK ks k b).getD j 0 = if j < k then ks.getD j 0 else if j = k then b else ks.getD (j - 1) 0 := by
  simp only [insK, List.getD_eq_getElem?_getD, get_ins _ _ hk]
  split
  · rfl
  · split <;> rfl
theorem ins_sortedN {ks : List Int} {b : Int} {n : Nat} (hs : Sorted ks) (hk : n ≤ ks.length) (h4 : ∀ i : Nat, i < n → ks.getD i 0 ≤ b) (h5 : ∀ i : Nat, n ≤ i → i < ks.length → b < ks.getD i 0) : Sorted (insK ks n b) := by
  intro i j hij hj
  rw [insK_len hk] at hj
  rw [insK_getD hk, insK_getD hk]
  by_cases a1 : j < n
  · rw [if_pos a1, if_pos (Nat.lt_of_le_of_lt hij a1)]
    exact hs i j hij (Nat.lt_of_lt_of_le a1 hk)
  · rw [if_neg a1]
    by_cases a2 : j = n
    · rw [if_pos a2]
      by_cases a3 : i < n
      · rw [if_pos a3]; exact h4 i a3
      · rw [if_neg a3, if_pos (Nat.le_antisymm (a2 ▸ hij) (Nat.not_lt.mp a3))]; exact Int.le_refl _
    · rw [if_neg a2]
      have hnj := Nat.lt_of_le_of_ne (Nat.not_lt.mp a1) (Ne.symm a2)
      cases j with
      | zero => exact absurd hnj (Nat.not_lt_zero _)
      | succ j =>
        have hjn := Nat.le_of_lt_succ hnj
        have hjl := Nat.lt_of_succ_lt_succ hj
        by_cases a3 : i < n
        · rw [if_pos a3]; exact hs i j (Nat.le_trans (Nat.le_of_lt a3) hjn) hjl
        · rw [if_neg a3]
          by_cases a4 : i = n
          · rw [if_pos a4]; exact Int.le_of_lt (h5 j hjn hjl)
          · rw [if_neg a4]
            have hni := Nat.lt_of_le_of_ne (Nat.not_lt.mp a3) (Ne.symm a4)
            cases i with
            | zero => exact absurd hni (Nat.not_lt_zero _)
            | succ i => exact hs i j (Nat.le_of_succ_le_succ hij) hjl
theorem ins_sorted {ks : List Int} {b k : Int} (hs : Sorted ks) (h : BisP ks b k k) : Sorted (insK ks k.toNat b) := by
  obtain ⟨h1, -, h3, h4, h5⟩ := h
  exact ins_sortedN hs (Int.toNat_le.mpr h3) (fun i hi => h4 i (Int.lt_toNat.mp hi)) fun i hi => h5 i (Int.toNat_le.mp hi)
theorem ins_perm {ks l : List Int} {k : Nat} {b : Int} (h : ks.Perm l) : (insK ks k b).Perm (l ++ [b]) := by
  unfold insK
  have q : (b :: (ks.take k ++ ks.drop k)).Perm (ks.take k ++ b :: ks.drop k) := List.perm_middle.symm
  rw [List.take_append_drop] at q
  exact q.symm.trans ((List.Perm.cons b h).trans (List.perm_append_singleton b l).symm)
theorem ins_keys {w : World} {tl : List (Addr × Obj)} {size : Int} {vs : List Value} {ks : List Int} {x : Addr} {b k : Int} (hK : KeysAt w tl size vs ks) (hx : KeyAt w tl size x b) (h : BisP ks b k k) : KeysAt w tl size (kl_ins vs k (.ref x)) (insK ks k.toNat b) := by
  obtain ⟨h1, -, h3, -, -⟩ := h
  obtain ⟨e, f⟩ := hK
  have hk : k.toNat ≤ ks.length := Int.toNat_le.mpr h3
  have hk2 : k.toNat ≤ vs.length := e.symm ▸ hk
  have e1 : kl_ins vs k (.ref x) = vs.take k.toNat ++ .ref x :: vs.drop k.toNat := by
    unfold kl_ins
    rw [if_neg (Int.not_lt.mpr h1), Nat.min_eq_left hk2]
  refine ⟨by rw [kl_ins_length, insK_len hk, e], fun j hj => ?_⟩
  rw [insK_len hk] at hj
  rw [e1, get_ins _ _ hk2, insK_getD hk]
  split
  · exact f j (Nat.lt_of_lt_of_le (by assumption) hk)
  · split
    · exact ⟨x, rfl, hx⟩
    · rename_i a1 a2
      exact f (j - 1) (Nat.sub_one_lt_of_le (Nat.lt_of_le_of_lt (Nat.zero_le _) (Nat.lt_of_le_of_ne (Nat.not_lt.mp a1) (Ne.symm a2))) (Nat.le_of_lt_succ hj))
theorem scan_len : ∀ (l : List Nat) (σ : Scan) (n : Nat), σ.b ≤ n → σ.cs.length ≤ n → (scan σ l).cs.length ≤ n + l.length
  | [], σ, n, _, h2 => h2
  | c :: r, σ, n, h1, h2 => by
    rw [scan, List.length_cons, Nat.add_comm r.length 1, ← Nat.add_assoc]
    split
    · exact scan_len r σ.blank (n + 1) (Nat.succ_le_succ h1) (Nat.le_succ_of_le h2)
    · split
      · exact scan_len r σ.tab (n + 1) (Nat.zero_le _) (Nat.le_trans (tab_len σ) (Nat.max_le.mpr ⟨Nat.le_succ_of_le h2, Nat.succ_le_succ h1⟩))
      · exact Nat.le_trans h2 (Nat.le_trans (Nat.le_succ n) (Nat.le_add_right _ _))
end

-- part S6
section
noncomputable def rowQual : Str := "_law_row.<locals>.<lambda>"
noncomputable def TabOk (ps : Array Value) (tl : List (Addr × Obj)) : Prop := ps = #[] ∨ ∃ (c' : Addr) (oc : Obj) (vs : Array Value) (t : Tok), ps = #[rawInt 140, rawInt 37, .ref c'] ∧ (c', oc) ∈ tl ∧ oc.data = .fields vs ∧ vs[1]? = some (.str rowQual t)
theorem TabOk.mono {ps : Array Value} {a b : List (Addr × Obj)} (h : TabOk ps a) (hs : ∀ p ∈ a, p ∈ b) : TabOk ps b := by
  rcases h with rfl | ⟨c', oc, vs, t, rfl, hm, h1, h2⟩
  · exact .inl rfl
  · exact .inr ⟨c', oc, vs, t, rfl, hs _ hm, h1, h2⟩
noncomputable def TextsAre (Lv : List Value) (ls : List Str) : Prop := Lv.length = ls.length ∧ ∀ j : Nat, j < ls.length → ∃ t, Lv[j]? = some (.str (ls.getD j Str.empty) t)
noncomputable def spaces (few : Int) : Str := Txt.mul (Str.ofString " ") few
noncomputable def levOf (size few : Int) (lt : Str) : Int := levelOf (scan ⟨0, 0, 0, []⟩ ((lt ++ spaces few) ++ Str.ofString "x\t").cps.toList) size
theorem ints_snoc {vs : List Value} {ns : List Int} (h : IntsAre vs ns) (n : Int) (t : Tok) : IntsAre (vs ++ [.int n t]) (ns ++ [n]) :=
  h.append (.cons _ _ .nil)
inductive RowJ (w : World) (row : Addr) (size few : Int) (ls : List Str) (tl0 : List (Addr × Obj)) (m₀ : Str → Option Value) (u0 : List (Addr × Obj)) (i : Nat) (m : Str → Option Value) (nx : List (Addr × Obj)) : Prop
  | mk (vs : List Value) (ks : List Int) (nn : Nat) (ps : Array Value) (tl : List (Addr × Obj)) (f0 : nx = (row, listOf vs.toArray nn) :: (182, tabObj ps) :: tl) (f1 : TabOk ps tl) (f2 : (∀ p ∈ tl0, p ∈ tl)) (f3 : KeysAt w tl size vs ks) (f4 : Sorted ks) (f5 : ks.Perm ((ls.take i).map (levOf size few))) (f6 : OwnOff tl [row, 182]) (f7 : (∀ z, z ≠ Str.ofString "lead" → (∀ p ∈ ([] : List (Str × Value)), z ≠ p.1) → [Str.ofString "white"].contains z = false → m z = m₀ z)) : RowJ w row size few ls tl0 m₀ u0 i m nx
theorem app_len (x y : Str) : (x ++ y).length = x.length + y.length := by
  show (x.cps ++ y.cps).size = _
  rw [Array.size_append]; rfl
theorem app_all (x y : Str) : (x ++ y).cps.all (· < 128) = (x.cps.all (· < 128) && y.cps.all (· < 128)) := by
  show (x.cps ++ y.cps).all _ = _
  rw [Array.all_append]
theorem spaces_ok {few : Int} (h0 : 0 ≤ few) (h1 : few < 4) : (spaces few).length ≤ 3 ∧ (spaces few).cps.all (· < 128) = true := by
  obtain rfl | rfl | rfl | rfl : few = 0 ∨ few = 1 ∨ few = 2 ∨ few = 3 := by (first | lia | omega)
  all_goals decide +kernel
theorem row_texts {lt : Str} {few : Int} (hl : lt.length ≤ 50) (ha : lt.cps.all (· < 128) = true) (h0 : 0 ≤ few) (h1 : few < 4) :
    (lt ++ spaces few).length ≤ 100 ∧ ((lt ++ spaces few) ++ Str.ofString "x\t").cps.size ≤ 100 ∧ ((lt ++ spaces few) ++ Str.ofString "x\t").cps.all (· < 128) = true := by
  obtain ⟨s1, s2⟩ := spaces_ok h0 h1
  have e1 : (Str.ofString "x\t").length = 2 := by decide +kernel
  have e2 : (Str.ofString "x\t").cps.all (· < 128) = true := by decide +kernel
  refine ⟨by rw [app_len]; (first | lia | omega), ?_, by rw [app_all, app_all, ha, s2, e2]; rfl⟩
  show ((lt ++ spaces few) ++ Str.ofString "x\t").length ≤ 100
  rw [app_len, app_len]; (first | lia | omega)
theorem mem_mix {α : Type} {a b c d : α} {T U V : List α} : ∀ p ∈ (a :: b :: c :: d :: (T ++ U)) ++ V, p ∈ a :: c :: d :: b :: ((T ++ V) ++ U) := by
  intro p hp
  simp only [List.mem_cons, List.mem_append, List.cons_append] at hp ⊢
  rcases hp with h | h | h | h | (h | h) | h <;> simp [h]
inductive RowP (ls : List Str) (size few : Int) (tl0 : List (Addr × Obj)) (r : Value) (n' : List (Addr × Obj)) (tk : Nat) : Prop
  | mk (D : Addr) (ys : List Value) (ks : List Int) (nn : Nat) (ps' : Array Value) (tl : List (Addr × Obj)) (f0 : r = .ref D) (f1 : n' = (D, listOf ys.toArray nn) :: (182, tabObj ps') :: tl) (f2 : TabOk ps' tl) (f3 : ∀ p ∈ tl0, p ∈ tl) (f4 : IntsAre ys ks) (f5 : Sorted ks) (f6 : ks.Perm (ls.map (levOf size few))) (f7 : OwnOff tl [D, 182]) (f8 : D ≠ (182 : Nat)) (f9 : ∀ i t, .int i t ∈ ys → t ≠ 0 ∧ t < tk) : RowP ls size few tl0 r n' tk
theorem row_spec (w : World) (ll : Addr) (Lv : List Value) (ls : List Str) (c : Nat) (size few : Int) (tz tf : Tok) (ps : Array Value) (news : List (Addr × Obj)) 
   (hT : TabOk ps news) (hoff : OwnOff news [182]) (hll : ll ≠ (182 : Nat)) (hLv : TextsAre Lv ls) (hls : ls.length ≤ 20) (hlen : ∀ lt ∈ ls, lt.length ≤ 50) (hasc : ∀ lt ∈ ls, lt.cps.all (· < 128) = true) (h0 : 1 ≤ size) (h1 : size ≤ 4) (h2 : 0 ≤ few) (h3 : few < 4) :
    Ctr 9 w 185 [.ref ll, .int size tz, .int few tf] ((182, tabObj ps) :: (ll, listOf Lv.toArray c) :: news) (fun r n' tk => RowP ls size few ((ll, listOf Lv.toArray c) :: news) r n' tk) [] (fun base => CodeHd base 184 182) := by
  w_top off
  k_with_none
  k_with "eval Name" => (k_here; k_dflt (refine' nameX_L ?z0F ?z0v ?_ ?z0a ?z0b; (case z0F => k_asm); (case z0a => rfl); (case z0b => rfl); (case z0v => exact Eq.refl (some _)); k_whole))
  k_with "exec For Name Attribute cons nil" => (k_here; (with_unfolding_all refine' For_invVF ?z1kF ?z1k1 ?z1k2 ?_; (case z1kF => assumption); (case z1k1 => exact rfl); (case z1k2 => exact rfl); k_whole))
  k_with "exec For Name Name cons nil" => (k_here; (with_unfolding_all refine' For_invVF ?z2kF ?z2k1 ?z2k2 ?_; (case z2kF => assumption); (case z2k1 => exact rfl); (case z2k2 => exact rfl); k_whole))
  k_with "call builtin:len" => (k_here; (with_reducible show wpAny _ _ (call (Value.builtin "len") [Value.ref _]) _ _ _); k_dflt (refine' kst_len ?z3k1 ?z3k2 ?z3k3 ?z3k4 ?_; (case z3k1 => k_asm); (case z3k2 => k_mem); (case z3k3 => first | exact IntsAre.length (by assumption) | assumption); (case z3k4 => (first | lia | omega)); k_whole))
  k_with "call ref" => (k_here; k_dflt (refine' Ctr.useS (mulS_spec _ _ _ _ _ ?z4c1 ?z4c2) ?z4k1 ?z4k2 ?z4k3 ?z4k4 ?z4k5 ?z4kK ?z4kb ?z4kd ?z4ku ?_; (case z4k1 => k_asm); (case z4k2 => k_asm); (case z4k3 => k_asm); (case z4k4 => k_asm); (case z4k5 => k_asm); (case z4c1 => (first | lia | omega)); (case z4c2 => (first | lia | omega)); (case z4kK => first | exact rfl | assumption); (case z4kb => first | exact trivial | assumption); (case z4kd => ktr_room); (case z4ku => ktr_units)); (intro _ _ _ _ _); (try dsimp only); (try k_fold); (try k_sweep))
  k_with "call ref" => (k_here; k_dflt (refine' Ctr.useS (concat_spec _ _ _ _ _ _ ?z5c1 ?z5c2) ?z5k1 ?z5k2 ?z5k3 ?z5k4 ?z5k5 ?z5kK ?z5kb ?z5kd ?z5ku ?_; (case z5k1 => k_asm); (case z5k2 => k_asm); (case z5k3 => k_asm); (case z5k4 => k_asm); (case z5k5 => k_asm); (case z5c1 => assumption); (case z5c2 => assumption); (case z5kK => first | exact rfl | assumption); (case z5kb => first | exact trivial | assumption); (case z5kd => ktr_room); (case z5ku => ktr_units)); (intro _ _ _ _ _); (try dsimp only); (try k_fold); (try k_sweep))
  k_with "call ref" => (k_here; k_dflt (refine' Ctr.useW (white_spec _ _ _ _ ?z6c1 ?z6c2) ?z6k1 ?z6k2 ?z6k3 ?z6k4 ?z6k5 ?z6kK ?z6kb ?z6kd ?z6ku ?_; (case z6k1 => k_asm); (case z6k2 => k_asm); (case z6k3 => k_asm); (case z6k4 => k_asm); (case z6k5 => k_asm); (case z6c1 => assumption); (case z6c2 => assumption); (case z6kK => first | exact rfl | assumption); (case z6kb => first | exact trivial | assumption); (case z6kd => ktr_room); (case z6ku => ktr_units)); (intro _ _ _ _ _ _ hOwQ FQ NQ); (try simp only [List.cons_append] at NQ); (try simp only [List.map_cons] at hOwQ); (revert hOwQ FQ NQ; intro _ _ _); (try dsimp only); (try k_fold); (try k_sweep))
  k_with "call ref" => (k_here; k_dflt (refine' Ctr.useL (level_spec _ _ _ _ _ _ ?z7c1 ?z7c2 ?z7c3 ?z7c4) ?z7k1 ?z7k2 ?z7k3 ?z7k4 ?z7k5 ?z7kK ?z7kb ?z7kd ?z7ku ?_; (case z7k1 => k_asm); (case z7k2 => k_asm); (case z7k3 => k_asm); (case z7k4 => k_asm); (case z7k5 => k_asm); (case z7c1 => assumption); (case z7c2 => assumption); (case z7c3 => assumption); (case z7c4 => assumption); (case z7kK => first | exact rfl | assumption); (case z7kb => first | exact trivial | assumption); (case z7kd => ktr_room); (case z7ku => ktr_units)); (intro _ _ _ _ _ _ _); (try dsimp only); (try k_fold); (try k_sweep))
  k_with "eval ListComp" => (k_here; k_dflt (refine' listComp_T ?z8y0 ?z8y1 ?z8y2 ?z8y3 ?z8y4 ?z8y5 ?_; (case z8y0 => k_asm); (case z8y1 => rfl); (case z8y2 => decide); (case z8y3 => rfl); (case z8y4 => decide); (case z8y5 => rfl); k_whole))
  unfold Ctr
  k_fill
  intro loose mean mg mb dp un gd cn cs a₉ ccd cl outer A₀ base h₀ L₉ m₉ s Q E B₉ F₉ X₉ N₉ T₉ hk hb₉ hd₉ hu₉ hret
  refine wpAny_call ?_
  k_dflt (refine' code_defC ?k1 ?k2 ?k3 ?k4 ?k5 ?kA ?kF ?kK ?k6 ?k7 ?k8 ?k9 ?kB ?kD ?_ ?c2 ?c3 ?c4; (case kA => exact rfl); (case kF => exact rfl); (case kK => assumption); (case k1 => k_asm); (case k2 => k_asm); (case k3 => k_asm); (case k4 => k_asm); (case k5 => k_asm); (case k6 => k_is); (case k7 => k_is); (case k8 => ktr_room); (case k9 => exact BindsTo.of_eq rfl); (case kB => exact rfl); (case kD => decide +kernel); (case c2 => exact rfl); (case c3 => exact rfl); (case c4 => exact rfl); k_whole; intro g' L' h' tk' cells' FG' F' N' Y' B' X' T' l1; (try k_lt l1); k_cells Y'; (try simp only [List.cons_append, List.nil_append] at N'); (try dsimp only); (try k_lift B'); (try k_fold))
  k_with_none
  k_with "eval Name" => (k_here; k_dflt (refine' nameX_L ?z0F ?z0v ?_ ?z0a ?z0b; (case z0F => k_asm); (case z0a => rfl); (case z0b => rfl); (case z0v => exact Eq.refl (some _)); k_whole))
  k_with "exec For Name Attribute cons nil" => (k_here; (with_unfolding_all refine' For_invVF ?z1kF ?z1k1 ?z1k2 ?_; (case z1kF => assumption); (case z1k1 => exact rfl); (case z1k2 => exact rfl); k_whole))
  k_with "exec For Name Name cons nil" => (k_here; (with_unfolding_all refine' For_invVF ?z2kF ?z2k1 ?z2k2 ?_; (case z2kF => assumption); (case z2k1 => exact rfl); (case z2k2 => exact rfl); k_whole))
  k_with "call builtin:len" => (k_here; (with_reducible show wpAny _ _ (call (Value.builtin "len") [Value.ref _]) _ _ _); k_dflt (refine' kst_len ?z3k1 ?z3k2 ?z3k3 ?z3k4 ?_; (case z3k1 => k_asm); (case z3k2 => k_mem); (case z3k3 => first | exact IntsAre.length (by assumption) | assumption); (case z3k4 => (first | lia | omega)); k_whole))
  k_with "call ref" => (k_here; k_dflt (refine' Ctr.useS (mulS_spec _ _ _ _ _ ?z4c1 ?z4c2) ?z4k1 ?z4k2 ?z4k3 ?z4k4 ?z4k5 ?z4kK ?z4kb ?z4kd ?z4ku ?_; (case z4k1 => k_asm); (case z4k2 => k_asm); (case z4k3 => k_asm); (case z4k4 => k_asm); (case z4k5 => k_asm); (case z4c1 => (first | lia | omega)); (case z4c2 => (first | lia | omega)); (case z4kK => first | exact rfl | assumption); (case z4kb => first | exact trivial | assumption); (case z4kd => ktr_room); (case z4ku => ktr_units)); (intro _ _ _ _ _); (try dsimp only); (try k_fold); (try k_sweep))
  k_with "call ref" => (k_here; k_dflt (refine' Ctr.useS (concat_spec _ _ _ _ _ _ ?z5c1 ?z5c2) ?z5k1 ?z5k2 ?z5k3 ?z5k4 ?z5k5 ?z5kK ?z5kb ?z5kd ?z5ku ?_; (case z5k1 => k_asm); (case z5k2 => k_asm); (case z5k3 => k_asm); (case z5k4 => k_asm); (case z5k5 => k_asm); (case z5c1 => assumption); (case z5c2 => assumption); (case z5kK => first | exact rfl | assumption); (case z5kb => first | exact trivial | assumption); (case z5kd => ktr_room); (case z5ku => ktr_units)); (intro _ _ _ _ _); (try dsimp only); (try k_fold); (try k_sweep))
  k_with "call ref" => (k_here; k_dflt (refine' Ctr.useW (white_spec _ _ _ _ ?z6c1 ?z6c2) ?z6k1 ?z6k2 ?z6k3 ?z6k4 ?z6k5 ?z6kK ?z6kb ?z6kd ?z6ku ?_; (case z6k1 => k_asm); (case z6k2 => k_asm); (case z6k3 => k_asm); (case z6k4 => k_asm); (case z6k5 => k_asm); (case z6c1 => assumption); (case z6c2 => assumption); (case z6kK => first | exact rfl | assumption); (case z6kb => first | exact trivial | assumption); (case z6kd => ktr_room); (case z6ku => ktr_units)); (intro _ _ _ _ _ _ hOwQ FQ NQ); (try simp only [List.cons_append] at NQ); (try simp only [List.map_cons] at hOwQ); (revert hOwQ FQ NQ; intro _ _ _); (try dsimp only); (try k_fold); (try k_sweep))
  k_with "call ref" => (k_here; k_dflt (refine' Ctr.useL (level_spec _ _ _ _ _ _ ?z7c1 ?z7c2 ?z7c3 ?z7c4) ?z7k1 ?z7k2 ?z7k3 ?z7k4 ?z7k5 ?z7kK ?z7kb ?z7kd ?z7ku ?_; (case z7k1 => k_asm); (case z7k2 => k_asm); (case z7k3 => k_asm); (case z7k4 => k_asm); (case z7k5 => k_asm); (case z7c1 => assumption); (case z7c2 => assumption); (case z7c3 => assumption); (case z7c4 => assumption); (case z7kK => first | exact rfl | assumption); (case z7kb => first | exact trivial | assumption); (case z7kd => ktr_room); (case z7ku => ktr_units)); (intro _ _ _ _ _ _ _); (try dsimp only); (try k_fold); (try k_sweep))
  k_with "eval ListComp" => (k_here; k_dflt (refine' listComp_T ?z8y0 ?z8y1 ?z8y2 ?z8y3 ?z8y4 ?z8y5 ?_; (case z8y0 => k_asm); (case z8y1 => rfl); (case z8y2 => decide); (case z8y3 => rfl); (case z8y4 => decide); (case z8y5 => rfl); k_whole))
  (repeat' ((fail_if_success (with_reducible show wpAny _ _ (PySem.pyIter _) _ _ _)); (fail_if_success (with_reducible show wpAny _ _ (PySem.exec (PySem.Stmt.While _ _ _ _) _) _ _ _)); first | ((fail_if_success (fail_if_success (with_reducible show wpAny _ _ _ _ _ (PySem.Shared.mk _ (PySem.Shared.gens (PySem.Shared.mk _ _ _ _ _)) _ _ _)))); dsimp only) | (k_unfold; (try dsimp only)) | (k_end; wrow_close) | walk1 | (dsimp only; walk1) | (leave1; walk_say "STEP leave1"; try dsimp only) | fail "no step"))
  rename_i oc d1 row _ l1r _ F0 N0
  replace N0 : News g' L' _ ((row, listOf ([] : List Value).toArray 0) :: (182, tabObj ps) :: (L' + 1, oc) :: (ll, listOf Lv.toArray c) :: news) := kst_newsOf N0 (by kst_inAny)
  with_unfolding_all refine' iter_listG (RowJ w row size few ls ((L' + 1, oc) :: (ll, listOf Lv.toArray c) :: news)) (by rfl) ?kl ?kF ?kN ?kj ?_ ?_
  case kF => assumption
  case kN => assumption
  case kl => k_mem
  case kj =>
    refine ⟨[], [], 0, ps, (L' + 1, oc) :: (ll, listOf Lv.toArray c) :: news, rfl, hT.mono fun p hp => .tail _ (.tail _ hp), fun p hp => hp, ⟨rfl, fun j hj => absurd hj (Nat.not_lt_zero _)⟩, fun i j _ hj => absurd hj (Nat.not_lt_zero _), .refl _, ?_, fun _ _ _ _ => rfl⟩
    intro p hp b hb
    simp only [List.mem_cons, List.not_mem_nil, or_false] at hb
    rcases List.mem_cons.mp hp with rfl | hp
    · rcases hb with rfl | rfl
      · exact Nat.ne_of_lt l1r.1
      · exact (show @Ne Nat (L' + 1) 182 by have := l1; (first | lia | omega))
    · rcases List.mem_cons.mp hp with rfl | hp
      · rcases hb with rfl | rfl
        · exact Nat.ne_of_lt l1r.2.2.1
        · exact hll
      · rcases hb with rfl | rfl
        · exact Nat.ne_of_lt (kst_ltOf l1r.2.2.2 p hp)
        · exact hoff p hp _ (.head _)
  focus
    rintro i v m₁ news₁ h tk own I hv ⟨vs, ks, nn, ps', tl, rfl, hT', hsub, hK, hS, hP, hO, hm⟩ hoffI hown hIo hIn F9 N9
    have hvi : i < Lv.length := (List.getElem?_eq_some_iff.mp hv).1
    obtain ⟨tt, e9⟩ := hLv.2 i (by rw [← hLv.1]; exact hvi)
    obtain rfl : v = .str (ls.getD i Str.empty) tt := by rw [hv] at e9; exact Option.some.inj e9
    clear e9
    have hmem : ls.getD i Str.empty ∈ ls := by
      have hi' : i < ls.length := by rw [← hLv.1]; exact hvi
      rw [List.getD_eq_getElem?_getD, List.getElem?_eq_getElem hi']
      exact List.getElem_mem hi'
    have w1 := hlen _ hmem
    have w2 := hasc _ hmem
    generalize hlt : ls.getD i Str.empty = lt at *
    obtain ⟨w3, w4, w5⟩ := row_texts w1 w2 h2 h3
    have w6 : lt.length ≤ 100 := by (first | lia | omega)
    have w7 : (spaces few).length ≤ 100 := by have := (spaces_ok h2 h3).1; (first | lia | omega)
    have w8 : (Str.ofString "x\t").length ≤ 100 := by decide +kernel
    unfold spaces at w3 w4 w5 w7
    replace F9 := kst_fr (ps := []) (x := Str.ofString "lead") (fun _ h => nomatch h) hm F9
    dsimp only [kstB] at F9
    have hO9 : OwnOff (tl ++ own) [row, 182] := by
      intro p hp b hb
      rcases List.mem_append.mp hp with hp | hp
      · exact hO p hp b hb
      · simp only [List.mem_cons, List.not_mem_nil, or_false] at hb
        rcases hown p hp with e | e
        · rw [e]
          rcases hb with rfl | rfl
          · exact Ne.symm (hoffI _ (.head _))
          · exact Ne.symm (hoffI _ (.tail _ (.head _)))
        · rw [e]
          exact hO (ll, listOf Lv.toArray c) (hsub _ (.tail _ (.head _))) b (by simpa using hb)
    obtain ⟨oI, hIo⟩ := hIo
    simp only [List.cons_append, List.nil_append] at N9
    generalize hT9 : tl ++ own = T9 at N9 hO9
    have kMark9 := kstMark
    show wpAny _ _ _ _ _ _
    (try k_fold)
    (repeat' ((fail_if_success (with_reducible show wpAny _ _ (PySem.pyIter _) _ _ _)); (fail_if_success (with_reducible show wpAny _ _ (PySem.exec (PySem.Stmt.While _ _ _ _) _) _ _ _)); first | ((fail_if_success (fail_if_success (with_reducible show wpAny _ _ _ _ _ (PySem.Shared.mk _ (PySem.Shared.gens (PySem.Shared.mk _ _ _ _ _)) _ _ _)))); dsimp only) | (k_unfold; (try dsimp only)) | (k_end; wrow_close) | walk1 | (dsimp only; walk1) | (leave1; walk_say "STEP leave1"; try dsimp only) | fail "no step"))
    rename_i x9 own9 hW9 hfr9 hOw9 h8 F8 N8
    have hO8 : OwnOff (T9 ++ own9) [row, 182] := by
      intro p hp b hb
      rcases List.mem_append.mp hp with hp | hp
      · exact hO9 p hp b hb
      · exact hOw9 p hp b (by simp only [List.mem_cons, List.not_mem_nil, or_false] at hb ⊢; rcases hb with rfl | rfl <;> simp)
    have hr182 : (@Ne Nat row 182) := by have := l1r; (first | lia | omega)
    have htlT : ∀ p ∈ tl, p ∈ T9 ++ own9 := fun p hp => List.mem_append_left _ (hT9 ▸ List.mem_append_left _ hp)
    k_dflt (refine' kla_eval ?d0 ?_)
    case d0 => exact rfl
    k_dflt (refine' lam_any (c := 184) (P := 182) [row, 182, I] ?F ?N ?T ?C ?cd ?U ?hps ?hbs ?cl ?_)
    case F => k_asm
    case N => k_asm
    case T => k_asm
    case C => kn_code
    case cd => exact rfl
    case U => exact UpdF.tail hr182 (UpdF.head fun p hp => hO8 p hp _ (by simp))
    case hps =>
      refine hT'.imp id ?_
      rintro ⟨c1, oc1, vs1, t1, e1, hm1, hd1, hv1⟩
      refine ⟨c1, oc1, vs1, t1, e1, .tail _ (.tail _ (htlT _ hm1)), fun b hb => ?_, hd1, hv1⟩
      simp only [List.mem_cons, List.not_mem_nil, or_false] at hb
      exact hb.elim (fun e => e ▸ hO _ hm1 _ (.head _)) fun hb => hb.elim (fun e => e ▸ hO _ hm1 _ (.tail _ (.head _))) fun e => e ▸ hoffI _ (.tail _ (.tail _ hm1))
    case hbs =>
      intro b hb
      simp only [List.mem_cons, List.not_mem_nil, or_false] at hb
      rcases hb with rfl | rfl | rfl
      · exact ⟨_, .head _⟩
      · exact ⟨_, .tail _ (.head _)⟩
      · exact ⟨oI, .tail _ (.tail _ (List.mem_append_left _ (hT9 ▸ List.mem_append_right _ hIo)))⟩
    case cl => exact rfl
    rintro f c' oc' vs' t' ctv h7 tk7 F7 N7 hd7 hv7 hc7 hf7
    (try dsimp only at N7)
    show wpAny _ _ _ _ _ _
    (try k_fold)
    (repeat' ((fail_if_success (with_reducible show wpAny _ _ (PySem.pyIter _) _ _ _)); (fail_if_success (with_reducible show wpAny _ _ (PySem.exec (PySem.Stmt.While _ _ _ _) _) _ _ _)); first | ((fail_if_success (fail_if_success (with_reducible show wpAny _ _ _ _ _ (PySem.Shared.mk _ (PySem.Shared.gens (PySem.Shared.mk _ _ _ _ _)) _ _ _)))); dsimp only) | (k_unfold; (try dsimp only)) | (k_end; wrow_close) | walk1 | (dsimp only; walk1) | (leave1; walk_say "STEP leave1"; try dsimp only) | fail "no step"))
    have hR7 : OwnOff ((f, kla_obj "<lambda>" (rowQual) oneArgs oneBody oneScope [("size", L' + 1)] ((mg "__name__").getD .none) c' ctv) :: (c', oc') :: (182, tabObj #[rawInt 140, rawInt 37, .ref c']) :: (T9 ++ own9)) [row] := by
      intro p hp b hb
      cases List.mem_singleton.mp hb
      rcases List.mem_cons.mp hp with rfl | hp
      · exact hf7 _ (.head _)
      · rcases List.mem_cons.mp hp with rfl | hp
        · exact hc7 _ (.head _)
        · rcases List.mem_cons.mp hp with rfl | hp
          · exact Ne.symm hr182
          · exact hO8 p hp _ (.head _)
    have hxk : ∀ tl', (∀ p ∈ own9, p ∈ tl') → KeyAt w tl' size x9 (levOf size few lt) := fun tl' hs' => ⟨_, hW9.mono hs', by
      have := scan_len ((lt ++ spaces few) ++ Str.ofString "x\t").cps.toList ⟨0, 0, 0, []⟩ 0 (Nat.le_refl _) (Nat.le_refl _)
      have w4' : ((lt ++ spaces few) ++ Str.ofString "x\t").cps.size ≤ 100 := w4
      rw [Array.length_toList] at this
      exact Nat.le_trans this (by (first | lia | omega)), rfl⟩
    k_dflt (refine' Ctr.useN (insort_spec w f row x9 vs ks nn (levOf size few lt) size ((f, kla_obj "<lambda>" (rowQual) oneArgs oneBody oneScope [("size", L' + 1)] ((mg "__name__").getD .none) c' ctv) :: (c', oc') :: (182, tabObj #[rawInt 140, rawInt 37, .ref c']) :: (T9 ++ own9)) ?c1 ?c2 ?c3 h0 h1 ?c4 hS hR7) ?k1 ?k2 ?k3 ?k4 ?k5 ?kK ?kb ?kd ?ku ?_)
    case c1 => exact hK.mono fun p hp => by simp only [List.mem_cons]; exact .inr (.inr (.inr (htlT p hp)))
    case c2 => exact hxk _ fun p hp => .tail _ (.tail _ (.tail _ (List.mem_append_right _ hp)))
    case c3 => exact ⟨rowQual, c', L' + 1, oc', oc, vs', t', tz, ctv, _, .head _, .tail _ (.head _), hd7, hv7, .tail _ (.tail _ (.tail _ (htlT _ (hsub _ (.head _))))), d1⟩
    case c4 => rw [hP.length_eq, List.length_map, List.length_take]; (first | lia | omega)
    case k1 => k_asm
    case k2 => k_asm
    case k3 => k_asm
    case k4 => exact kst_newsOf N7 (by kst_inAny)
    case k5 => k_asm
    case kK => first | exact rfl | assumption
    case kb => exact trivial
    case kd => ktr_room
    case ku => ktr_units
    intro h6 tk6 k6 c6 hB6 F6 N6
    (try dsimp only)
    (try k_fold)
    (repeat' ((fail_if_success (with_reducible show wpAny _ _ (PySem.pyIter _) _ _ _)); (fail_if_success (with_reducible show wpAny _ _ (PySem.exec (PySem.Stmt.While _ _ _ _) _) _ _ _)); first | ((fail_if_success (fail_if_success (with_reducible show wpAny _ _ _ _ _ (PySem.Shared.mk _ (PySem.Shared.gens (PySem.Shared.mk _ _ _ _ _)) _ _ _)))); dsimp only) | (k_unfold; (try dsimp only)) | (k_end; wrow_close) | walk1 | (dsimp only; walk1) | (leave1; walk_say "STEP leave1"; try dsimp only) | fail "no step"))
    dsimp only [GPost]
    refine ⟨h6, tk6, _, (row, listOf (kl_ins vs k6 (.ref x9)).toArray c6) :: (182, tabObj #[rawInt 140, rawInt 37, .ref c']) :: (f, kla_obj "<lambda>" (rowQual) oneArgs oneBody oneScope [("size", L' + 1)] ((mg "__name__").getD .none) c' ctv) :: (c', oc') :: (tl ++ own9), rfl, F6, ?_, ?_, ?_⟩
    · refine kst_newsOf N6 fun p hp => ?_
      rw [← hT9]
      exact mem_mix p hp
    · intro p hp hb
      have hb := List.mem_singleton.mp hb
      have hI3 : I ∈ [row, 182, I] := by simp
      rcases List.mem_cons.mp hp with rfl | hp
      · exact hoffI _ (.head _) hb
      · rcases List.mem_cons.mp hp with rfl | hp
        · exact hoffI _ (.tail _ (.head _)) hb
        · rcases List.mem_cons.mp hp with rfl | hp
          · exact hf7 _ hI3 hb
          · rcases List.mem_cons.mp hp with rfl | hp
            · exact hc7 _ hI3 hb
            · rcases List.mem_append.mp hp with hp | hp
              · exact hoffI _ (.tail _ (.tail _ hp)) hb
              · refine hOw9 p hp I ?_ hb
                refine .tail _ (.tail _ (List.mem_map.mpr ⟨(I, oI), ?_, rfl⟩))
                exact hT9 ▸ List.mem_append_right _ hIo
    · refine ⟨_, insK ks k6.toNat (levOf size few lt), c6, _, _, rfl, .inr ⟨c', oc', vs', t', rfl, .tail _ (.head _), hd7, hv7⟩, fun p hp => .tail _ (.tail _ (List.mem_append_left _ (hsub p hp))),
        ins_keys (hK.mono fun p hp => .tail _ (.tail _ (List.mem_append_left _ hp))) (hxk _ fun p hp => .tail _ (.tail _ (List.mem_append_right _ hp))) hB6, ins_sorted hS hB6, ?_, ?_, ?_⟩
      · have e1 : ls.take (i + 1) = ls.take i ++ [lt] := by
          have hi' : i < ls.length := by rw [← hLv.1]; exact hvi
          rw [List.take_add_one, List.getElem?_eq_getElem hi', ← hlt, List.getD_eq_getElem?_getD, List.getElem?_eq_getElem hi']
          rfl
        rw [e1, List.map_append]
        exact ins_perm hP
      · intro p hp b hb
        rcases List.mem_cons.mp hp with rfl | hp
        · exact hf7 b (List.mem_append_left [I] hb)
        · rcases List.mem_cons.mp hp with rfl | hp
          · exact hc7 b (List.mem_append_left [I] hb)
          · rcases List.mem_append.mp hp with hp | hp
            · exact hO p hp b hb
            · exact hO8 p (List.mem_append_right _ hp) b hb
      · kst_same
  rintro m₁ news₁ h tk ⟨vs, ks, nn, ps', tl, rfl, hT', hsub, hK, hS, hP, hO, hm⟩ F₁ N₁
  replace F₁ := kst_frOut (ps := []) (x := Str.ofString "lead") (fun _ h => nomatch h) hm F₁
  dsimp only [kstB] at F₁
  have hca : (L' + 1, oc) ∈ tl := hsub _ (.head _)
  (repeat' ((fail_if_success (with_reducible show wpAny _ _ (PySem.pyIter _) _ _ _)); (fail_if_success (with_reducible show wpAny _ _ (PySem.exec (PySem.Stmt.While _ _ _ _) _) _ _ _)); first | ((fail_if_success (fail_if_success (with_reducible show wpAny _ _ _ _ _ (PySem.Shared.mk _ (PySem.Shared.gens (PySem.Shared.mk _ _ _ _ _)) _ _ _)))); dsimp only) | (k_unfold; (try dsimp only)) | (k_end; wrow_close) | walk1 | (dsimp only; walk1) | (leave1; walk_say "STEP leave1"; try dsimp only) | fail "no step"))
  have hvl := hK.1
  have hl20 : ks.length ≤ 20 := by rw [hP.length_eq, List.length_map, List.length_take]; (first | lia | omega)
  refine ⟨row, vs, nn, _, fun i ys t => IntsAre ys (ks.take i) ∧ ∀ k u, Value.int k u ∈ ys → u ≠ 0 ∧ u < t, rfl, rfl, F₁, N₁, .head _, by (first | lia | omega), ?_, ⟨.nil, fun _ _ h => nomatch h⟩, ?_, ?_⟩
  · rintro i ys t t' hle ⟨g1, g2⟩
    exact ⟨g1, fun k u hk => ⟨(g2 k u hk).1, Nat.lt_of_lt_of_le (g2 k u hk).2 hle⟩⟩
  · intro i ys v I oI C oC D h tk E' m₂ hi hv hyl hG hoC hmx F₂ N₂
    obtain ⟨x9, e9, σ9, hW9, hl9, hk9⟩ := hK.2 i (by (first | lia | omega))
    obtain rfl : v = .ref x9 := by rw [hv] at e9; exact Option.some.inj e9
    clear e9
    have hW9' := hW9
    obtain ⟨dx, D1, D2, xt, k0, k1, k2, k3, k4, k5, k6, k7, sim, vs2, tb, n1, n2, n3, n4, hi9⟩ := hW9'
    unfold whiteEs at n2
    obtain ⟨T9, hT9⟩ : ∃ T9, T9 = (I, oI) :: (C, oC) :: (D, LCg.lst ys) :: (row, listOf vs.toArray nn) :: (182, tabObj ps') :: tl := ⟨_, rfl⟩
    rw [← hT9] at N₂
    have hin : ∀ p ∈ tl, p ∈ T9 := fun p hp => by rw [hT9]; simp [hp]
    replace n1 := hin _ n1
    replace n2 := hin _ n2
    replace n3 := hin _ n3
    replace n4 := hin _ n4
    have hW8 := hW9.mono hin
    have hC9 : (C, oC) ∈ T9 := by rw [hT9]; simp
    have hca9 := hin _ hca
    clear hW9 hin
    show wpAny _ _ _ _ _ _
    (try k_fold)
    (repeat' ((fail_if_success (with_reducible show wpAny _ _ (PySem.pyIter _) _ _ _)); (fail_if_success (with_reducible show wpAny _ _ (PySem.exec (PySem.Stmt.While _ _ _ _) _) _ _ _)); first | ((fail_if_success (fail_if_success (with_reducible show wpAny _ _ _ _ _ (PySem.Shared.mk _ (PySem.Shared.gens (PySem.Shared.mk _ _ _ _ _)) _ _ _)))); dsimp only) | (k_unfold; (try dsimp only)) | (k_end; wrow_close) | walk1 | (dsimp only; walk1) | (leave1; walk_say "STEP leave1"; try dsimp only) | fail "no step"))
    refine ⟨_, _, rfl, by k_asm, ?_, fun hle9 => ⟨?_, ?_⟩⟩
    · rw [← hT9]
      k_asm
    · have e1 : ks.take (i + 1) = ks.take i ++ [ks.getD i 0] := by
        have hi' : i < ks.length := by (first | lia | omega)
        rw [List.take_add_one, List.getElem?_eq_getElem hi', List.getD_eq_getElem?_getD, List.getElem?_eq_getElem hi']
        rfl
      rw [e1, hk9]
      exact ints_snoc hG.1 _ _
    · intro k u hk
      rcases List.mem_append.mp hk with hk | hk
      · have q := hG.2 k u hk
        exact ⟨q.1, Nat.lt_of_lt_of_le q.2 hle9⟩
      · cases List.mem_singleton.mp hk
        exact ⟨by assumption, by assumption⟩
  · intro D ys h tk hyl hG F₂ N₂ hD
    (try dsimp only)
    (repeat' ((fail_if_success (with_reducible show wpAny _ _ (PySem.pyIter _) _ _ _)); (fail_if_success (with_reducible show wpAny _ _ (PySem.exec (PySem.Stmt.While _ _ _ _) _) _ _ _)); first | ((fail_if_success (fail_if_success (with_reducible show wpAny _ _ _ _ _ (PySem.Shared.mk _ (PySem.Shared.gens (PySem.Shared.mk _ _ _ _ _)) _ _ _)))); dsimp only) | (k_unfold; (try dsimp only)) | (k_end; wrow_close) | walk1 | (dsimp only; walk1) | (leave1; walk_say "STEP leave1"; try dsimp only) | fail "no step"))
    refine hret _ _ _ _ ⟨D, ys, ks, _, ps', tl, rfl, rfl, hT', fun p hp => hsub p (.tail _ hp), ?_, hS, ?_, ?_, ?_, hG.2⟩ (by k_asm) (kst_newsOf (l := (D, LCg.lst ys) :: (row, listOf vs.toArray nn) :: (182, tabObj ps') :: tl) (by k_asm) fun p hp => by
      rcases List.mem_cons.mp hp with rfl | hp
      · exact .head _
      · exact .tail _ (.tail _ hp))
    · have q := hG.1
      rw [hvl, List.take_length] at q
      exact q
    · rw [hLv.1, List.take_length] at hP
      exact hP
    · intro p hp b hb
      rcases List.mem_cons.mp hb with rfl | hb
      · exact hD p (.tail _ (.tail _ hp))
      · exact hO p hp b (.tail _ hb)
    · exact Ne.symm (hD _ (.tail _ (.head _)))
end

-- part L3
section
section
variable {prog : Program} {w : World} {A : Around} {E : Value → Shared → Prop} {s : Shared} {env : Env} {h₀ : Heap} {x : Str} {body : List Stmt} {Q : Flow → Shared → Prop}
/-- a range; the ledger may turn and grow -/
theorem iter_rangeG {r : Addr} {a b c : Int} {t u v : Tok} {n : Nat} {m₀ : Str → Option Value} {news : List (Addr × Obj)} (J : Nat → (Str → Option Value) → List (Addr × Obj) → Prop)
    (hh : A.handled = none) (hr : IsRange s.heap r a b c t u v) (hsm : Builtin.Range.small a b c = true) (hn : Builtin.Range.rangeSize a b c = (n : Int)) (Fm : Fr h₀ env.locals s.heap m₀) (N : News h₀ env.locals s.heap news) (hj : J 0 m₀ news)
    (turn : ∀ i tv m₁ news₁ h tk own I, i < n → J i m₁ news₁ → (∀ p ∈ news₁, p.1 ≠ I) → (∀ p ∈ own, p.1 = I) → (∃ o, (I, o) ∈ own) → (∀ p ∈ news, p.1 < I) → Fr h₀ env.locals h (fun y => if y = x then some (.int (a + i * c) tv) else m₁ y) → News h₀ env.locals h (news₁ ++ own) →
      wpAny (model prog w) A (execs body env) (GPost h₀ env.locals [I] own (J (i + 1)) { s with heap := h, toks := tk } Q) E { s with heap := h, toks := tk })
    (done : ∀ m₁ news₁ h tk, J n m₁ news₁ → Fr h₀ env.locals h m₁ → News h₀ env.locals h news₁ → Q .next { s with heap := h, toks := tk }) :
    wpAny (model prog w) A (pyIter (.ref r)) (fun it s₂ => LoopAtV prog w A h₀ env x body Q E it s₂) E s := by
  refine wpAny_pyIter_range hr hsm ?_
  refine loop_grow J (Walks.range hh s.heap.objs.size a c n) (fun i h st => ⟨_, st⟩) (.head _) (next_is_new Fm) ?_ ?_ ?_ ?_ (Fm.push _) (fun p hp => ⟨Heap.get?_push_of_some _ (N p hp).1, (N p hp).2⟩) hj ?_ done
  · intro hm
    exact absurd Fm.ns.lt ((List.mem_singleton.mp hm) ▸ Nat.lt_irrefl _)
  · intro b' hb
    rw [List.mem_singleton.mp hb]
    exact next_is_new Fm
  · intro p hp hI
    exact absurd (Heap.lt_size (N p hp).1) ((List.mem_singleton.mp hI) ▸ Nat.lt_irrefl _)
  · show IsRangeIter _ _ _ _ _
    rw [hn]
    simpa using Heap.get?_push_size _ rfl
  · rintro i v m₁ news₁ h tk own hi ⟨tv, rfl⟩ hJ hoff hown hIo F₁ N₁
    exact turn i tv m₁ news₁ h tk own _ hi hJ (fun p hp e => hoff p hp (List.mem_singleton.mpr e)) (fun p hp => List.mem_singleton.mp (hown p hp)) hIo (fun p hp => Heap.lt_size (N p hp).1) F₁ N₁
/-- the keys of a dict of ints; the ledger may turn and grow, the dict stands -/
theorem iter_dictG {d : Addr} {o : Obj} {kvs : List (Int × Value)} {m₀ : Str → Option Value} {news : List (Addr × Obj)} (J : Nat → (Str → Option Value) → List (Addr × Obj) → Prop)
    (hh : A.handled = none) (lo : (d == sysModules) = false) (hm : (d, o) ∈ news) (hd : o.IsDictOf (PySem.intKind prog w) kvs) (Fm : Fr h₀ env.locals s.heap m₀) (N : News h₀ env.locals s.heap news) (hj : J 0 m₀ news)
    (turn : ∀ i k v tv m₁ news₁ h tk own I, kvs[i]? = some (k, v) → J i m₁ news₁ → (∀ p ∈ news₁, p.1 ≠ I) → (∀ p ∈ own, p.1 = I ∨ p.1 = d) → (∃ o, (I, o) ∈ own) → (∀ p ∈ news, p.1 < I) → Fr h₀ env.locals h (fun y => if y = x then some (.int k tv) else m₁ y) → News h₀ env.locals h (news₁ ++ own) →
      wpAny (model prog w) A (execs body env) (GPost h₀ env.locals [I] own (J (i + 1)) { s with heap := h, toks := tk } Q) E { s with heap := h, toks := tk })
    (done : ∀ m₁ news₁ h tk, J kvs.length m₁ news₁ → Fr h₀ env.locals h m₁ → News h₀ env.locals h news₁ → Q .next { s with heap := h, toks := tk }) :
    wpAny (model prog w) A (pyIter (.ref d)) (fun it s₂ => LoopAtV prog w A h₀ env x body Q E it s₂) E s := by
  obtain ⟨ep, hat⟩ := (Heap.dictOf_iff.mpr ⟨o, (N _ hm).1, hd⟩ : s.heap.DictOf (PySem.intKind prog w) d kvs).dictAt
  refine wpAny_pyIter_dict lo hat ?_
  have hlt : d < s.heap.objs.size := Heap.lt_size (N _ hm).1
  have W := Walks.dictKeys (prog := prog) (w := w) (knd := PySem.intKind prog w) hh s.heap.objs.size d (Nat.ne_of_lt hlt) kvs ep
  refine loop_grow J W (fun i h st => by obtain ⟨o', e, _⟩ := st.1; exact ⟨o', e⟩) (.head _) (next_is_new Fm) ?_ ?_ ?_ ⟨⟨_, Heap.get?_push_size _ rfl, rfl, rfl⟩, hat.keep fun b o e => Heap.get?_push_of_some _ e⟩ (Fm.push _) (fun p hp => ⟨Heap.get?_push_of_some _ (N p hp).1, (N p hp).2⟩) hj ?_ done
  · intro hm'
    rcases List.mem_cons.mp hm' with e | hm'
    · exact absurd Fm.ns.lt (e ▸ Nat.lt_irrefl _)
    · exact (N _ hm).2.1 (List.mem_singleton.mp hm').symm
  · intro b hb
    rw [List.mem_singleton.mp hb]
    exact next_is_new Fm
  · intro p hp hI
    exact absurd (Heap.lt_size (N p hp).1) ((List.mem_singleton.mp hI) ▸ Nat.lt_irrefl _)
  · rintro i v m₁ news₁ h tk own hi ⟨k, vv, hv, hk⟩ hJ hoff hown hIo F₁ N₁
    obtain ⟨tv, rfl⟩ := Value.isInt_shape hk
    refine turn i k vv tv m₁ news₁ h tk own _ hv hJ (fun p hp e => hoff p hp (List.mem_singleton.mpr e)) (fun p hp => ?_) hIo (fun p hp => Heap.lt_size (N p hp).1) F₁ N₁
    rcases List.mem_cons.mp (hown p hp) with e | e
    · exact .inl e
    · exact .inr (List.mem_singleton.mp e)
end
noncomputable def DO (w : World) (o : Obj) (c : List (Int × Int)) : Prop := ∃ kvs, o.IsDictOf (PySem.intKind PySem.Challenge.rw_sw0054_01.row.prog w) kvs ∧ PyProof.V.FlatPairs PyData.int kvs (kdfD c)
end

-- part L4
section
open LCg in
inductive SrcD (prog : Program) (w : World) (A : Around) (h₀ : Heap) (L : Addr) (m : Str → Option Value) (env : Env) (elt : PySem.Expr) (x : Str) (scope : Scope) (cl : List (Str × Addr)) (Q : Value → Shared → Prop) (xv : Value) (s₁ : Shared) : Prop
  | mk (d : Addr) (o : Obj) (kvs : List (Int × Value)) (news : List (Addr × Obj)) (G : Nat → List Value → Nat → Prop) (f0 : xv = .ref d) (f1 : A.handled = none) (f2 : Fr h₀ L s₁.heap m) (f3 : News h₀ L s₁.heap news) (f4 : (d == sysModules) = false) (f5 : (d, o) ∈ news) (f6 : o.IsDictOf (PySem.intKind prog w) kvs) (f7 : kvs.length ≤ 100000) (f8 : (∀ i ys t t', t ≤ t' → G i ys t → G i ys t')) (f9 : G 0 [] s₁.toks) (f10 : (∀ i ys k v tv I oI C oC D h tk (E' : Value → Shared → Prop) m₂, kvs[i]? = some (k, v) → ys.length = i → G i ys tk → NsObj oC m₂ → m₂ x = some (.int k tv) → Fr h₀ L h m → News h₀ L h ((I, oI) :: (C, oC) :: (D, lst ys) :: news) → wpAny (model prog w) A (eval elt (compEnvC scope cl C env)) (BlkEnd h₀ L m s₁ ((I, oI) :: (C, oC) :: (D, lst ys) :: news) tk fun y tk' => G (i + 1) (ys ++ [y]) tk') E' { s₁ with heap := h, toks := tk })) (f11 : (∀ D ys h tk, ys.length = kvs.length → G kvs.length ys tk → Fr h₀ L h m → News h₀ L h ((D, lst ys) :: news) → (∀ p ∈ news, p.1 ≠ D) → Q (.ref D) { s₁ with heap := h, toks := tk })) : SrcD prog w A h₀ L m env elt x scope cl Q xv s₁
open LCg in
/-- a block over a dict of the ledger with ints for keys; its elements leave the ledger as it is, and what they answer is told with the tokens -/
theorem dictComp_T {prog : Program} {w : World} {A : Around} {E : Value → Shared → Prop} {s : Shared} {h₀ : Heap} {L : Addr} {m : Str → Option Value} {env : Env}
    {elt iter : PySem.Expr} {x : Str} {px : Pos} {scope : Scope} {cl : List (Str × Addr)} {pos : Pos} {Q : Value → Shared → Prop} (_F₀ : Fr h₀ L s.heap m)
    (hclos : closureFor scope env = pure cl) (hcell : ∀ y ∈ scope.names, y.2 ≠ .cell) (hkind : scope.kind = .function)
    (hnames : ∀ y ∈ scope.names, y.2 = .local → scope.names.lookup y.1 = some .local) (hx : scope.names.lookup x = some .local)
    (h : wpAny (model prog w) A (eval iter env) (SrcD prog w A h₀ L m env elt x scope cl Q) E s)
    (hs : ∀ x, foldedSetIterable iter env x = pure x := by intro _; rfl) :
    wpAny (model prog w) A (eval (.ListComp elt [⟨.Name x px, iter, [], 0⟩] scope pos) env) Q E s := by
  rw [eval_ListComp]
  refine wpAny_comprehension_free (use := none) rfl hs hclos hkind hnames (wpAny_mono h (fun xv s₁ h₁ => ?_) fun _ _ e => e)
  obtain ⟨ax, o, kvs, news, G, rfl, hh, F, N, lo, hm, hd, hsz, hmono, hG0, turn, fin⟩ := h₁
  obtain ⟨ep, hat⟩ := (Heap.dictOf_iff.mpr ⟨o, (N _ hm).1, hd⟩ : s₁.heap.DictOf (PySem.intKind prog w) ax kvs).dictAt
  have hdo : ∀ h' : Heap, h'.get? ax = some o → h'.DictAt (PySem.intKind prog w) ax kvs ep := by
    obtain ⟨o', es, e', r⟩ := hat
    have q := (N _ hm).1
    rw [e'] at q
    cases q
    exact fun h' e => ⟨_, es, e, r⟩
  have hax : ax < s₁.heap.objs.size := Heap.lt_size (N _ hm).1
  have hLlt : L < s₁.heap.objs.size := F.ns.lt
  have hLax : L ≠ ax := Ne.symm (N _ hm).2.1
  refine wpAny_pyIter_dict lo hat ?_
  have hI₀ := next_is_new F
  generalize hIe : s₁.heap.objs.size = I at *
  have hup : ∀ b o, s₁.heap.get? b = some o → (s₁.heap.push { cls := .type "dict_keyiterator", data := .fields #[.ref ax, .int 0 0, .int kvs.length 0, .int ep 0] }).get? b = some o := fun b o e => Heap.get?_push_of_some _ e
  have W := Walks.dictKeys (prog := prog) (w := w) (A := A) (knd := PySem.intKind prog w) hh I ax (Nat.ne_of_lt hax) kvs ep
  refine wpAny_newObj_type (wpAny_newFunctionEnv hcell (by intro y hy; simp at hy) (fun h₁ hns₁ hsb₁ => ?_) hkind)
  dsimp only at hns₁ hsb₁ ⊢
  generalize hH1 : s₁.heap.push { cls := .type "dict_keyiterator", data := .fields #[.ref ax, .int 0 0, .int kvs.length 0, .int ep 0] } = H1 at *
  generalize hH2 : H1.push { cls := .type "list", dict := none, data := .seq ([] : List Value).toArray } = H2 at *
  have hD : H1.objs.size = I + 1 := by rw [← hH1, Heap.size_push, hIe]
  have hC : H2.objs.size = I + 2 := by rw [← hH2, Heap.size_push, hD]
  generalize hDe : H1.objs.size = D at *
  generalize hCe : H2.objs.size = C at *
  have n1 : @LT.lt Nat _ L I := hLlt
  have n2 : @LT.lt Nat _ ax I := hax
  have n3 : @Eq Nat D (I + 1) := hD
  have n4 : @Eq Nat C (I + 2) := hC
  have z9 := addr3 n1 n3 n4
  have below : ∀ b, @LT.lt Nat _ b I → b ≠ I ∧ b ≠ D ∧ b ≠ C := z9.1
  have hID : @Ne Nat I D := z9.2.1
  have hIC : @Ne Nat I C := z9.2.2.1
  have hDC : @Ne Nat D C := z9.2.2.2.1
  have hLI : @Ne Nat L I := z9.2.2.2.2.1
  have hLD : @Ne Nat L D := z9.2.2.2.2.2.1
  have hLC : @Ne Nat L C := z9.2.2.2.2.2.2
  have old : ∀ b o, s₁.heap.get? b = some o → h₁.get? b = some o := fun b o e => hsb₁.extBut b o (below b (hIe ▸ Heap.lt_size e)).2.2 (Heap.get?_push_of_some _ (hH2 ▸ Heap.get?_push_of_some _ (hup b o e)))
  have fresh₀ : ∀ a, @LE.le Nat _ I a → h₀.get? a = none := fun a ha => by
    cases e : h₀.get? a with
    | none => rfl
    | some o' => exact absurd (Heap.lt_size (F.keep a o' e)) (by rw [hIe]; exact Nat.not_lt.mpr ha)
  have hD₀ : h₀.get? D = none := fresh₀ _ (n3 ▸ Nat.le_add_right I 1)
  have hC₀ : h₀.get? C = none := fresh₀ _ (n4 ▸ Nat.le_add_right I 2)
  have hacc : h₁.get? D = some (lst []) := hsb₁.extBut _ _ hDC (Heap.get?_push_of_some _ (by rw [← hH2, ← hDe]; exact Heap.get?_push_size _ rfl))
  have hit : h₁.get? I = some { cls := .type "dict_keyiterator", data := .fields #[.ref ax, .int 0 0, .int kvs.length 0, .int ep 0] } :=
    hsb₁.extBut _ _ hIC (Heap.get?_push_of_some _ (by rw [← hH2]; exact Heap.get?_push_of_some _ (by rw [← hH1, ← hIe]; exact Heap.get?_push_size _ rfl)))
  have offN : ∀ p ∈ news, p.1 ≠ I ∧ p.1 ≠ D ∧ p.1 ≠ C := fun p hp => below _ (hIe ▸ Heap.lt_size (N p hp).1)
  have loop : ∀ s₃ : Shared, s₃ = { s₁ with heap := h₁, toks := s₁.toks + ([] : List (Str × Value)).length } →
      codeAny (model prog w) A (.compLoop (.ListComp elt [⟨.Name x px, iter, [], 0⟩] scope pos) 0 (.ref I) (.ref D) (compEnvC scope cl C env))
        (compPost (model prog w) A E none Q (.ref D) C) s₃ := by
    rintro s₃ rfl
    refine codeAny_compLoop_tests
      (CInv h₀ L m C D news G kvs.length (fun h' i => h'.IsKeyIter I ax i kvs.length ep) s₁) ?_ (kvs.length + 1)
      ⟨h₁, _, 0, [], _, rfl, Nat.zero_le _, rfl, rfl, ⟨_, hit, rfl, rfl⟩, F.keeps old, hns₁, ?_, hmono _ _ _ _ (Nat.le_add_right _ _) hG0⟩
    · rintro k s' ⟨h', tk, i, ys, m', rfl, hi, rfl, hyl, hst', F', hn', N', hG⟩
      have hl' := hdo h' (N' _ (.tail _ hm)).1
      by_cases hlt : i < kvs.length
      · refine wpAny_with_toks (Nat.le_refl _) (W.item i _ _ _ hlt ⟨hst', hl'⟩ fun v h₂ tk₂ hPv hst₂ hk₂ htk₂ => ?_)
        obtain ⟨k, vv, hkv, hik⟩ := hPv
        obtain ⟨tv, rfl⟩ := Value.isInt_shape hik
        refine wpAny_assign_Name (wpAny_storeName_local (lookup_relabel_local hx) (hn'.at' fun o e => hk₂ _ o (by simpa using Ne.symm hIC) e) (fun h₃ hn₃ hs₃ => ?_) (by simp [compEnvC, relabel, hkind]))
        refine wpAny_tests_nil ?_
        simp only [if_true]
        have hit₃ : h₃.IsKeyIter I ax (i + 1) kvs.length ep := hst₂.1.at fun o e => hs₃.extBut _ o hIC e
        obtain ⟨oI, heI, _⟩ := id hit₃
        obtain ⟨oC, heC, hoC⟩ := ns_obj hn₃
        have F₃ : Fr h₀ L h₃ m := (fr_but F' hk₂ hLI hI₀).change hs₃ (Ne.symm hLC) hC₀
        have N₂ : News h₀ L h₂ ((D, lst ys) :: news) := news_but N' hk₂ fun p hp => by
          rcases List.mem_cons.mp hp with rfl | hp
          · exact Ne.symm hID
          · exact (offN p hp).1
        have N₃ : News h₀ L h₃ ((I, oI) :: (C, oC) :: (D, lst ys) :: news) := fun p hp => by
          rcases List.mem_cons.mp hp with rfl | hp
          · exact ⟨heI, Ne.symm hLI, hI₀⟩
          · rcases List.mem_cons.mp hp with rfl | hp
            · exact ⟨heC, Ne.symm hLC, hC₀⟩
            · have z := N₂ p hp
              refine ⟨hs₃.extBut _ _ ?_ z.1, z.2⟩
              rcases List.mem_cons.mp hp with rfl | hp
              · exact hDC
              · exact (offN p hp).2.2
        refine wpAny_with_toks (Nat.le_refl _) (wpAny_mono (turn i ys k vv tv I oI C oC D h₃ _ _ _ hkv hyl (hmono _ _ _ _ (Nat.le_trans htk₂ (Nat.le_succ _)) hG) hoC (by simp) F₃ N₃) (fun y s₄ h₄ => ?_) fun _ _ e _ => e)
        obtain ⟨h₄, tk₄, rfl, F₄, N₄, hG₄⟩ := h₄
        intro htk₄
        have zI := (N₄ (I, oI) List.mem_cons_self).1
        have zC := (N₄ (C, oC) (List.mem_cons_of_mem _ List.mem_cons_self)).1
        have zD := (N₄ (D, lst ys) (List.mem_cons_of_mem _ (List.mem_cons_of_mem _ List.mem_cons_self))).1
        refine append_at (hsz := by rw [List.size_toArray, hyl, PySem.sizeLine_eq]; (first | lia | omega)) zD fun h₅ hs₅ hD₅ => ?_
        have hit₄ : h₄.IsKeyIter I ax (i + 1) kvs.length ep := by obtain ⟨o', q, r⟩ := hit₃; rw [heI] at q; cases q; exact ⟨_, zI, r⟩
        refine ⟨kvs.length + 1 - (i + 1), dec_lt hlt, h₅, tk₄, i + 1, ys ++ [y], _, rfl, hlt, rfl, by rw [List.length_append, List.length_singleton, hyl], hit₄.at fun o e => hs₅.extBut _ o hID e, F₄.change hs₅ (Ne.symm hLD) hD₀,
          (hoC.ns zC).sameBut hs₅ (Ne.symm hDC), fun p hp => ?_, hG₄ htk₄⟩
        rcases List.mem_cons.mp hp with rfl | hp
        · exact ⟨hD₅.trans (congrArg some (lst_snoc ys y)), Ne.symm hLD, hD₀⟩
        · have z := N₄ p (List.mem_cons_of_mem _ (List.mem_cons_of_mem _ (List.mem_cons_of_mem _ hp)))
          exact ⟨hs₅.extBut _ _ (offN p hp).2.1 z.1, z.2⟩
      · obtain rfl : i = kvs.length := Nat.le_antisymm hi (Nat.not_lt.mp hlt)
        refine wpAny_with_toks (Nat.le_refl _) (W.done _ _ _ ⟨hst', hl'⟩ fun h₂ tk₂ hk₂ htk₂ => ?_)
        refine ⟨m', hn'.at' fun o e => hk₂ _ o (by simpa using Ne.symm hIC) e, fun h'' hs'' => fin D ys h'' tk₂ hyl (hmono _ _ _ _ htk₂ hG) ((fr_but F' hk₂ hLI hI₀).change hs'' (Ne.symm hLC) hC₀) (fun p hp => ?_) fun p hp => (offN p hp).2.1⟩
        have z := news_but N' hk₂ (fun p hp => by
          rcases List.mem_cons.mp hp with rfl | hp
          · exact Ne.symm hID
          · exact (offN p hp).1) p hp
        refine ⟨hs''.extBut _ _ ?_ z.1, z.2⟩
        rcases List.mem_cons.mp hp with rfl | hp
        · exact hDC
        · exact (offN p hp).2.2
    · intro p hp
      rcases List.mem_cons.mp hp with rfl | hp
      · exact ⟨hacc, Ne.symm hLD, hD₀⟩
      · exact ⟨old _ _ (N p hp).1, (N p hp).2⟩
  have hst₁ : h₁.IsKeyIter I ax 0 kvs.length ep ∧ h₁.DictAt (PySem.intKind prog w) ax kvs ep := ⟨⟨_, hit, rfl, rfl⟩, hdo _ (old _ _ (N _ hm).1)⟩
  exact codeAny_compStart_list (loop _ rfl) (W.self 0 _ _ _ hst₁ (loop _ rfl))
noncomputable def Dicts (w : World) (dl base : List (Addr × Obj)) : Prop := (∀ p ∈ dl, (p.1 == sysModules) = false ∧ DO w p.2 []) ∧ (dl.map (·.1)).Nodup ∧ (∀ p ∈ dl, ∀ q ∈ base, q.1 ≠ p.1)
theorem Dicts.nil {w : World} {base : List (Addr × Obj)} : Dicts w [] base := ⟨(fun _ h => nomatch h), List.nodup_nil, (fun _ h => nomatch h)⟩
theorem Dicts.snoc {w : World} {dl base : List (Addr × Obj)} {d : Addr} {o : Obj} (h : Dicts w dl base) (lo : (d == sysModules) = false) (ho : DO w o []) (h1 : ∀ p ∈ dl, p.1 ≠ d) (h2 : ∀ p ∈ base, p.1 ≠ d) : Dicts w (dl ++ [(d, o)]) base := by
  refine ⟨fun p hp => ?_, ?_, fun p hp q hq => ?_⟩
  · rcases List.mem_append.mp hp with hp | hp
    · exact h.1 p hp
    · rw [List.mem_singleton.mp hp]; exact ⟨lo, ho⟩
  · rw [List.map_append, List.nodup_append]
    refine ⟨h.2.1, by simp, fun a ha b hb => ?_⟩
    obtain ⟨p, hp, rfl⟩ := List.mem_map.mp ha
    obtain ⟨q, hq, rfl⟩ := List.mem_map.mp hb
    rw [List.mem_singleton.mp hq]
    exact h1 p hp
  · rcases List.mem_append.mp hp with hp | hp
    · exact h.2.2 p hp q hq
    · rw [List.mem_singleton.mp hp]; exact h2 q hq
open LCg in
theorem compDicts {w : World} {A : Around} {h₀ : Heap} {L : Addr} {m : Str → Option Value} {env : Env} {x : Str} {pos : Pos} {scope : Scope} {cl : List (Str × Addr)} {s : Shared} {S : List (Addr × Obj) → Prop} {P : Nat → Value → Prop} {Fin : List Value → List (Addr × Obj) → Prop}
    (hbig : h₀.NoLimit) (hS : ∀ nw nw', (∀ p ∈ nw, p ∈ nw') → S nw → S nw') {base : List (Addr × Obj)} (hb : S base) :
    ∀ (k i : Nat) (dl : List (Addr × Obj)), Dicts w dl base → (∀ dl', Dicts w dl' base → dl'.length = dl.length + k → Fin (dl'.map fun p => .ref p.1) (dl' ++ base)) →
      CompRest PySem.Challenge.rw_sw0054_01.row.prog w A h₀ L m env (.Dict [] [] pos) x scope cl s S P Fin k i (dl.map fun p => .ref p.1) (dl ++ base)
  | 0, i, dl, hd, fin => fin dl hd rfl
  | k + 1, i, dl, hd, fin => by
    intro v I oI C oC D m₂ h tk E' hP hC hx F N off ne
    refine newDict_K F N hbig fun d h' o F' N' hlt lo _ _ hi fi => ?_
    have hne : ∀ p ∈ dl ++ base, p.1 ≠ d := fun p hp => Nat.ne_of_lt (hlt p (.tail _ (.tail _ (.tail _ hp))))
    have hd' : Dicts w (dl ++ [(d, o)]) base := hd.snoc lo ⟨_, hi, fi⟩ (fun p hp => hne p (List.mem_append_left _ hp)) fun p hp => hne p (List.mem_append_right _ hp)
    refine CompEnd.intro F' N' ((dl ++ [(d, o)]) ++ base) (fun p hp => ?_) (Off3.of fun p hp => ?_) (hS base _ (fun p hp => List.mem_append_right _ hp) hb) ?_
    · simp only [List.mem_cons, List.mem_append, List.not_mem_nil, or_false] at hp ⊢
      rcases hp with h | h | h | (h | h) | h <;> simp [h]
    · simp only [List.mem_append, List.mem_singleton] at hp
      rcases hp with (hp | rfl) | hp
      · exact off.mem p (List.mem_append_left _ hp)
      · exact ⟨Nat.ne_of_gt (hlt _ (.head _)), Nat.ne_of_gt (hlt _ (.tail _ (.head _))), Nat.ne_of_gt (hlt _ (.tail _ (.tail _ (.head _))))⟩
      · exact off.mem p (List.mem_append_right _ hp)
    · have e : (dl.map fun p => (Value.ref p.1)) ++ [Value.ref d] = (dl ++ [(d, o)]).map fun p => Value.ref p.1 := by simp
      rw [e]
      exact compDicts hbig hS hb k (i + 1) _ hd' fun dl' h1 h2 => fin dl' h1 (by rw [h2]; simp; (first | lia | omega))
end

-- part L6
section
open LCg in
theorem newEnv_C {M : Model} {A : Around} {E : Value → Shared → Prop} {s : Shared} {scope : Scope} {env : Env} {g : Addr} {cl : List (Str × Addr)} {qual : Str} {x y z : Str} {kd : NameKind} {bi : Addr} {Q : Env → Shared → Prop}
    (hnm : scope.names = [(z, .local), (x, .cell), (y, kd)]) (hkd : kd ≠ .cell)
    (h : Q { scope, locals := s.heap.objs.size, globals := g, cells := (x, (s.heap.push { cls := .type "dict", data := .dict #[] }).objs.size) :: cl, qual, func := none, code := env.code, frame := env.frame, builtins := env.builtins } { s with heap := (s.heap.push { cls := .type "dict", data := .dict #[] }).push { cls := .type "cell", data := .cell none } }) :
    wpAny M A (newFunctionEnv scope g cl [] qual none .none (some env) bi) Q E s := by
  have e1 : (kd == NameKind.cell) = false := by simpa using hkd
  have e2 : (NameKind.local == NameKind.cell) = false := rfl
  have e3 : (NameKind.cell == NameKind.cell) = true := rfl
  simp only [newFunctionEnv, Option.isSome_some, if_true]
  refine wpAny_bind (wpAny_alloc ?_)
  simp only [hnm, List.forIn_cons, List.forIn_nil, e1, e2, e3, Bool.false_eq_true, if_false, if_true, pure_bind, bind_assoc]
  refine wpAny_bind (wpAny_alloc ?_)
  exact wpAny_pure h
open LCg in
inductive SrcC (prog : Program) (w : World) (A : Around) (h₀ : Heap) (L : Addr) (m : Str → Option Value) (env : Env) (elt : PySem.Expr) (x : Str) (scope : Scope) (cl : List (Str × Addr)) (Q : Value → Shared → Prop) (xv : Value) (s₁ : Shared) : Prop
  | mk (ax : Addr) (its : List Value) (nn : Nat) (news : List (Addr × Obj)) (G : Nat → List Value → Nat → Prop) (f0 : xv = .ref ax) (f1 : A.handled = none) (f2 : Fr h₀ L s₁.heap m) (f3 : News h₀ L s₁.heap news) (f4 : (ax, listOf its.toArray nn) ∈ news) (f5 : its.length ≤ 1000) (f6 : (∀ i ys t t', t ≤ t' → G i ys t → G i ys t')) (f7 : G 0 [] s₁.toks) (f8 : (∀ i ys v I oI C oC D K oK h tk (E' : Value → Shared → Prop), i < its.length → its[i]? = some v → ys.length = i → G i ys tk → oK.data = .cell (some v) → Fr h₀ L h m → News h₀ L h ((K, oK) :: (I, oI) :: (C, oC) :: (D, lst ys) :: news) → wpAny (model prog w) A (eval elt (compEnvC scope ((x, K) :: cl) C env)) (BlkEnd h₀ L m s₁ ((K, oK) :: (I, oI) :: (C, oC) :: (D, lst ys) :: news) tk fun y tk' => G (i + 1) (ys ++ [y]) tk') E' { s₁ with heap := h, toks := tk })) (f9 : (∀ D ys h tk, ys.length = its.length → G its.length ys tk → Fr h₀ L h m → News h₀ L h ((D, lst ys) :: news) → (∀ p ∈ news, p.1 ≠ D) → Q (.ref D) { s₁ with heap := h, toks := tk })) : SrcC prog w A h₀ L m env elt x scope cl Q xv s₁
open LCg in
/-- a block over a list of the ledger; its elements leave the ledger as it is, and what they answer is told with the tokens -/
theorem listComp_C {prog : Program} {w : World} {A : Around} {E : Value → Shared → Prop} {s : Shared} {h₀ : Heap} {L : Addr} {m : Str → Option Value} {env : Env}
    {elt iter : PySem.Expr} {x : Str} {px : Pos} {scope : Scope} {cl : List (Str × Addr)} {pos : Pos} {Q : Value → Shared → Prop} (_F₀ : Fr h₀ L s.heap m)
    {z y : Str} {kd : NameKind} (hclos : closureFor scope env = pure cl) (hnm : scope.names = [(z, .local), (x, .cell), (y, kd)]) (hkd : kd ≠ .cell) (hkind : scope.kind = .function)
    (hnames : ∀ y ∈ scope.names, y.2 = .local → scope.names.lookup y.1 = some .local) (hx : ∀ cl C, (compEnvC scope cl C env).kindOf x = some .cell)
    (h : wpAny (model prog w) A (eval iter env) (SrcC prog w A h₀ L m env elt x scope cl Q) E s)
    (hs : ∀ x, foldedSetIterable iter env x = pure x := by intro _; rfl) :
    wpAny (model prog w) A (eval (.ListComp elt [⟨.Name x px, iter, [], 0⟩] scope pos) env) Q E s := by
  rw [eval_ListComp]
  refine wpAny_comprehension_free (use := none) rfl hs hclos hkind hnames (wpAny_mono h (fun xv s₁ h₁ => ?_) fun _ _ e => e)
  obtain ⟨ax, its, nn, news, G, rfl, hh, F, N, hm, hsz, hmono, hG0, turn, fin⟩ := h₁
  have hl : s₁.heap.IsList ax its.toArray := ⟨_, (N _ hm).1, rfl, nn, rfl⟩
  have hax : ax < s₁.heap.objs.size := Heap.lt_size (N _ hm).1
  have hLlt : L < s₁.heap.objs.size := F.ns.lt
  have hLax : L ≠ ax := Ne.symm (N _ hm).2.1
  refine wpAny_pyIter_list hl ?_
  have hI₀ := next_is_new F
  generalize hIe : s₁.heap.objs.size = I at *
  have hup : ∀ b o, s₁.heap.get? b = some o → (s₁.heap.push { cls := .type "list_iterator", data := .fields #[.ref ax, .int 0 0] }).get? b = some o := fun b o e => Heap.get?_push_of_some _ e
  have W := Walks.list (prog := prog) (w := w) (A := A) hh I ax (Nat.ne_of_lt hax) its.toArray
  rw [List.size_toArray] at W
  refine wpAny_newObj_type (newEnv_C hnm hkd ?_)
  dsimp only
  generalize hH1 : s₁.heap.push { cls := .type "list_iterator", data := .fields #[.ref ax, .int 0 0] } = H1 at *
  generalize hH2 : H1.push { cls := .type "list", dict := none, data := .seq ([] : List Value).toArray } = H2 at *
  have hD : H1.objs.size = I + 1 := by rw [← hH1, Heap.size_push, hIe]
  have hC : H2.objs.size = I + 2 := by rw [← hH2, Heap.size_push, hD]
  generalize hH3 : H2.push { cls := .type "dict", data := .dict #[] } = H3 at *
  have hK : H3.objs.size = I + 3 := by rw [← hH3, Heap.size_push, hC]
  generalize hDe : H1.objs.size = D at *
  generalize hCe : H2.objs.size = C at *
  generalize hKe : H3.objs.size = K at *
  generalize hh1 : H3.push { cls := .type "cell", data := .cell none } = h₁ at *
  have n1 : @LT.lt Nat _ L I := hLlt
  have n2 : @LT.lt Nat _ ax I := hax
  have n3 : @Eq Nat D (I + 1) := hD
  have n4 : @Eq Nat C (I + 2) := hC
  have n5 : @Eq Nat K (I + 3) := hK
  have z9 := addr4 n1 n3 n4 n5
  have below : ∀ b, @LT.lt Nat _ b I → b ≠ I ∧ b ≠ D ∧ b ≠ C ∧ b ≠ K := z9.1
  have hID : @Ne Nat I D := z9.2.1
  have hIC : @Ne Nat I C := z9.2.2.1
  have hIK : @Ne Nat I K := z9.2.2.2.1
  have hDC : @Ne Nat D C := z9.2.2.2.2.1
  have hDK : @Ne Nat D K := z9.2.2.2.2.2.1
  have hCK : @Ne Nat C K := z9.2.2.2.2.2.2.1
  have hLI : @Ne Nat L I := z9.2.2.2.2.2.2.2.1
  have hLD : @Ne Nat L D := z9.2.2.2.2.2.2.2.2.1
  have hLC : @Ne Nat L C := z9.2.2.2.2.2.2.2.2.2.1
  have hLK : @Ne Nat L K := z9.2.2.2.2.2.2.2.2.2.2
  have old : ∀ b o, s₁.heap.get? b = some o → h₁.get? b = some o := fun b o e => by
    rw [← hh1, ← hH3, ← hH2]
    exact Heap.get?_push_of_some _ (Heap.get?_push_of_some _ (Heap.get?_push_of_some _ (hup b o e)))
  have fresh₀ : ∀ a, @LE.le Nat _ I a → h₀.get? a = none := fun a ha => by
    cases e : h₀.get? a with
    | none => rfl
    | some o' => exact absurd (Heap.lt_size (F.keep a o' e)) (by rw [hIe]; exact Nat.not_lt.mpr ha)
  have hD₀ : h₀.get? D = none := fresh₀ _ (n3 ▸ Nat.le_add_right I 1)
  have hC₀ : h₀.get? C = none := fresh₀ _ (n4 ▸ Nat.le_add_right I 2)
  have hK₀ : h₀.get? K = none := fresh₀ _ (n5 ▸ Nat.le_add_right I 3)
  have hacc : h₁.get? D = some (lst []) := by
    rw [← hh1, ← hH3, ← hH2, ← hDe]
    exact Heap.get?_push_of_some _ (Heap.get?_push_of_some _ (Heap.get?_push_size _ rfl))
  have hcel : h₁.get? K = some { cls := .type "cell", data := .cell none } := by
    rw [← hh1, ← hKe]; exact Heap.get?_push_size _ rfl
  have hns₁ : h₁.Ns C (fun _ => none) := by
    rw [← hh1, ← hH3, ← hCe]
    exact (Heap.Ns.new H2 (.type "dict")).keeps fun b o e => Heap.get?_push_of_some _ e
  have hit : h₁.get? I = some { cls := .type "list_iterator", data := .fields #[.ref ax, .int 0 0] } :=
by
    rw [← hh1, ← hH3, ← hH2, ← hH1, ← hIe]
    exact Heap.get?_push_of_some _ (Heap.get?_push_of_some _ (Heap.get?_push_of_some _ (Heap.get?_push_size _ rfl)))
  have offN : ∀ p ∈ news, p.1 ≠ I ∧ p.1 ≠ D ∧ p.1 ≠ C ∧ p.1 ≠ K := fun p hp => below _ (hIe ▸ Heap.lt_size (N p hp).1)
  have loop : ∀ s₃ : Shared, s₃ = { s₁ with heap := h₁ } →
      codeAny (model prog w) A (.compLoop (.ListComp elt [⟨.Name x px, iter, [], 0⟩] scope pos) 0 (.ref I) (.ref D) (compEnvC scope ((x, K) :: cl) C env))
        (compPost (model prog w) A E none Q (.ref D) C) s₃ := by
    rintro s₃ rfl
    refine codeAny_compLoop_tests
      (CInv h₀ L m C D news G its.length (fun h' i => h'.IsListIter I ax i ∧ ∃ v₀, h'.IsCell K v₀) s₁) ?_ (its.length + 1)
      ⟨h₁, _, 0, [], _, rfl, Nat.zero_le _, rfl, rfl, ⟨⟨_, hit, rfl, rfl⟩, none, _, hcel, rfl⟩, F.keeps old, hns₁, ?_, hG0⟩
    · rintro k s' ⟨h', tk, i, ys, m', rfl, hi, rfl, hyl, ⟨hst', v₀, hc'⟩, F', hn', N', hG⟩
      have hl' : h'.IsList ax its.toArray := ⟨_, (N' _ (.tail _ hm)).1, rfl, nn, rfl⟩
      by_cases hlt : i < its.length
      · refine wpAny_with_toks (Nat.le_refl _) (W.item i _ _ _ hlt ⟨hst', hl'⟩ fun v h₂ tk₂ hPv hst₂ hk₂ htk₂ => ?_)
        obtain ⟨oK₀, hK₁, hK₂⟩ := hc'
        refine wpAny_assign_Name (wpAny_storeName_cell (env := compEnvC scope ((x, K) :: cl) C env) (c := K) (v₀ := v₀) hkind (hx _ _) (by simp [compEnvC]) ⟨oK₀, hk₂ K _ (by simpa using Ne.symm hIK) hK₁, hK₂⟩ fun h₃ hcell₃ hs₃ => ?_)
        refine wpAny_tests_nil ?_
        simp only [if_true]
        have hit₃ : h₃.IsListIter I ax (i + 1) := hst₂.1.at fun o e => hs₃.extBut _ o hIK e
        obtain ⟨oI, heI, _⟩ := id hit₃
        obtain ⟨oK, heK, hoK⟩ := hcell₃
        obtain ⟨oC, heC, hoC⟩ := ns_obj ((hn'.at' fun o e => hk₂ _ o (by simpa using Ne.symm hIC) e).sameBut hs₃ hCK)
        have F₃ : Fr h₀ L h₃ m := (fr_but F' hk₂ hLI hI₀).change hs₃ (Ne.symm hLK) hK₀
        have N₂ : News h₀ L h₂ ((D, lst ys) :: news) := news_but N' hk₂ fun p hp => by
          rcases List.mem_cons.mp hp with rfl | hp
          · exact Ne.symm hID
          · exact (offN p hp).1
        have N₃ : News h₀ L h₃ ((K, oK) :: (I, oI) :: (C, oC) :: (D, lst ys) :: news) := fun p hp => by
          rcases List.mem_cons.mp hp with rfl | hp
          · exact ⟨heK, Ne.symm hLK, hK₀⟩
          rcases List.mem_cons.mp hp with rfl | hp
          · exact ⟨heI, Ne.symm hLI, hI₀⟩
          · rcases List.mem_cons.mp hp with rfl | hp
            · exact ⟨heC, Ne.symm hLC, hC₀⟩
            · have z := N₂ p hp
              refine ⟨hs₃.extBut _ _ ?_ z.1, z.2⟩
              rcases List.mem_cons.mp hp with rfl | hp
              · exact hDK
              · exact (offN p hp).2.2.2
        refine wpAny_with_toks (Nat.le_refl _) (wpAny_mono (turn i ys v I oI C oC D K oK h₃ _ _ hlt (by simpa using hPv) hyl (hmono _ _ _ _ htk₂ hG) hoK F₃ N₃) (fun y s₄ h₄ => ?_) fun _ _ e _ => e)
        obtain ⟨h₄, tk₄, rfl, F₄, N₄, hG₄⟩ := h₄
        intro htk₄
        have zK := (N₄ (K, oK) (.head _)).1
        have zI := (N₄ (I, oI) (.tail _ (.head _))).1
        have zC := (N₄ (C, oC) (.tail _ (.tail _ (.head _)))).1
        have zD := (N₄ (D, lst ys) (.tail _ (.tail _ (.tail _ (.head _))))).1
        refine append_at (hsz := by rw [List.size_toArray, hyl, PySem.sizeLine_eq]; (first | lia | omega)) zD fun h₅ hs₅ hD₅ => ?_
        have hit₄ : h₄.IsListIter I ax (i + 1) := by obtain ⟨o', q, r⟩ := hit₃; rw [heI] at q; cases q; exact ⟨_, zI, r⟩
        refine ⟨its.length + 1 - (i + 1), dec_lt hlt, h₅, tk₄, i + 1, ys ++ [y], _, rfl, hlt, rfl, by rw [List.length_append, List.length_singleton, hyl], ⟨hit₄.at fun o e => hs₅.extBut _ o hID e, _, oK, hs₅.extBut _ _ (Ne.symm hDK) zK, hoK⟩, F₄.change hs₅ (Ne.symm hLD) hD₀,
          (hoC.ns zC).sameBut hs₅ (Ne.symm hDC), fun p hp => ?_, hG₄ htk₄⟩
        rcases List.mem_cons.mp hp with rfl | hp
        · exact ⟨hD₅.trans (congrArg some (lst_snoc ys y)), Ne.symm hLD, hD₀⟩
        · have z := N₄ p (.tail _ (.tail _ (.tail _ (.tail _ hp))))
          exact ⟨hs₅.extBut _ _ (offN p hp).2.1 z.1, z.2⟩
      · obtain rfl : i = its.length := Nat.le_antisymm hi (Nat.not_lt.mp hlt)
        refine wpAny_with_toks (Nat.le_refl _) (W.done _ _ _ ⟨hst', hl'⟩ fun h₂ tk₂ hk₂ htk₂ => ?_)
        refine ⟨m', hn'.at' fun o e => hk₂ _ o (by simpa using Ne.symm hIC) e, fun h'' hs'' => fin D ys h'' tk₂ hyl (hmono _ _ _ _ htk₂ hG) ((fr_but F' hk₂ hLI hI₀).change hs'' (Ne.symm hLC) hC₀) (fun p hp => ?_) fun p hp => (offN p hp).2.1⟩
        have z := news_but N' hk₂ (fun p hp => by
          rcases List.mem_cons.mp hp with rfl | hp
          · exact Ne.symm hID
          · exact (offN p hp).1) p hp
        refine ⟨hs''.extBut _ _ ?_ z.1, z.2⟩
        rcases List.mem_cons.mp hp with rfl | hp
        · exact hDC
        · exact (offN p hp).2.2.1
    · intro p hp
      rcases List.mem_cons.mp hp with rfl | hp
      · exact ⟨hacc, Ne.symm hLD, hD₀⟩
      · exact ⟨old _ _ (N p hp).1, (N p hp).2⟩
  have hst₁ : h₁.IsListIter I ax 0 ∧ h₁.IsList ax its.toArray := ⟨⟨_, hit, rfl, rfl⟩, hl.at fun o e => old _ o e⟩
  exact codeAny_compStart_list (loop _ rfl) (W.self 0 _ _ _ hst₁ (loop _ rfl))
end

-- part P2
section
noncomputable def wsum (c : List (Int × Int)) (φ : Nat → Int) : Int := (c.map fun p => p.2 * φ p.1.toNat).sum
noncomputable def stepT (φ : Nat → Int) (m : Nat) : Nat → Int
  | 0 => 0
  | s + 1 => stepT φ m s + if m / 2 ^ s % 2 = 0 then φ (m + 2 ^ s) else 0
noncomputable def waysR : List Nat → Nat → (Nat → Int) → Int
  | [], 0, φ => φ 0
  | [], _ + 1, _ => 0
  | _ :: cs, 0, φ => waysR cs 0 φ
  | c :: cs, g + 1, φ => waysR cs (g + 1) φ + waysR cs g fun m => stepT φ m c
noncomputable def MaskOk (c : List (Int × Int)) : Prop := (c.map (·.1)).Nodup ∧ ∀ p ∈ c, 0 ≤ p.1 ∧ p.1 < 64
theorem nodup_le : ∀ (n : Nat) (l : List Int), l.Nodup → (∀ x ∈ l, 0 ≤ x ∧ x < n) → l.length ≤ n
  | 0, [], _, _ => Nat.le_refl _
  | 0, a :: _, _, h => absurd (h a (.head _)).2 (Int.not_lt.mpr (h a (.head _)).1)
  | n + 1, l, hd, h => by
    have h2 := nodup_le n (l.erase (n : Int)) (hd.erase _) (fun x hx =>
      have h3 := h x (List.mem_of_mem_erase hx)
      ⟨h3.1, Int.lt_iff_le_and_ne.mpr ⟨Int.le_of_lt_add_one h3.2, fun e => absurd (e ▸ hx) (hd.not_mem_erase)⟩⟩)
    rw [List.length_erase] at h2
    split at h2
    · exact Nat.le_add_of_sub_le h2
    · exact Nat.le_succ_of_le h2
theorem MaskOk.len {c : List (Int × Int)} (h : MaskOk c) : c.length ≤ 64 :=
  List.length_map (as := c) Prod.fst ▸ nodup_le 64 _ h.1 (fun x hx => by obtain ⟨p, hp, rfl⟩ := List.mem_map.mp hx; exact h.2 p hp)
theorem wsum_nil (φ : Nat → Int) : wsum [] φ = 0 := rfl
theorem wsum_cons (p : Int × Int) (c : List (Int × Int)) (φ : Nat → Int) : wsum (p :: c) φ = p.2 * φ p.1.toNat + wsum c φ := by simp [wsum]
theorem wsum_append (a b : List (Int × Int)) (φ : Nat → Int) : wsum (a ++ b) φ = wsum a φ + wsum b φ := by simp [wsum]
theorem look_cons (i v : Int) (c : List (Int × Int)) (k d : Int) : kdfLook ((i, v) :: c) k d = if i = k then v else kdfLook c k d := by
  unfold kdfLook
  rw [List.find?_cons]
  by_cases h : i = k <;> simp [h]
theorem map_same : ∀ (c : List (Int × Int)) (k v : Int), k ∉ c.map (·.1) → c.map (fun p => if decide (p.1 = k) then (p.1, v) else p) = c
  | [], _, _, _ => rfl
  | p :: c, k, v, h => by
    rw [List.map_cons, List.mem_cons, not_or] at h
    rw [List.map_cons, map_same c k v h.2, if_neg (by simpa using fun e => h.1 (e.symm))]
theorem put_sum_has : ∀ (c : List (Int × Int)) (k v : Int) (φ : Nat → Int), (c.map (·.1)).Nodup → k ∈ c.map (·.1) → wsum (c.map fun p => if decide (p.1 = k) then (p.1, kdfLook c k 0 + v) else p) φ = wsum c φ + v * φ k.toNat
  | [], _, _, _, _, h => nomatch h
  | (i, u) :: c, k, v, φ, hd, h => by
    rw [List.map_cons, List.nodup_cons] at hd
    by_cases e : i = k
    · subst e
      rw [List.map_cons, map_same c i _ hd.1, if_pos (by simp), wsum_cons, wsum_cons, look_cons, if_pos rfl]
      dsimp only
      rw [Int.add_mul]; (first | lia | omega)
    · rw [List.map_cons, if_neg (by simpa using e), wsum_cons, wsum_cons, look_cons, if_neg e, put_sum_has c k v φ hd.2 (by
        rcases List.mem_cons.mp h with q | q
        · exact absurd q.symm e
        · exact q)]
      (first | lia | omega)
theorem look_none : ∀ (c : List (Int × Int)) (k d : Int), k ∉ c.map (·.1) → kdfLook c k d = d
  | [], _, _, _ => rfl
  | (i, v) :: c, k, d, h => by
    rw [List.map_cons, List.mem_cons, not_or] at h
    rw [look_cons, if_neg (fun e => h.1 e.symm), look_none c k d h.2]
theorem has_iff (c : List (Int × Int)) (k : Int) : kdfHas c k = true ↔ k ∈ c.map (·.1) := by
  unfold kdfHas
  rw [List.any_eq_true, List.mem_map]
  exact ⟨fun ⟨p, hp, e⟩ => ⟨p, hp, by simpa using e⟩, fun ⟨p, hp, e⟩ => ⟨p, hp, by simpa using e⟩⟩
theorem put_eq (c : List (Int × Int)) (k v : Int) : kdfPut c k v = if kdfHas c k = true then c.map (fun p => if decide (p.1 = k) then (p.1, v) else p) else c ++ [(k, v)] := rfl
theorem put_sum {c : List (Int × Int)} (h : MaskOk c) (k v : Int) (φ : Nat → Int) : wsum (kdfPut c k (kdfLook c k 0 + v)) φ = wsum c φ + v * φ k.toNat := by
  rw [put_eq]
  by_cases e : k ∈ c.map (·.1)
  · rw [if_pos ((has_iff c k).mpr e)]
    exact put_sum_has c k v φ h.1 e
  · rw [if_neg (fun q => e ((has_iff c k).mp q)), wsum_append, look_none c k 0 e, wsum_cons, wsum_nil]
    simp
theorem put_ok {c : List (Int × Int)} (h : MaskOk c) {k : Int} (h0 : 0 ≤ k) (h1 : k < 64) (v : Int) : MaskOk (kdfPut c k v) := by
  rw [put_eq]
  by_cases e : k ∈ c.map (·.1)
  · rw [if_pos ((has_iff c k).mpr e)]
    have e2 : (c.map fun p => if decide (p.1 = k) then (p.1, v) else p).map (·.1) = c.map (·.1) := by
      rw [List.map_map]
      refine List.map_congr_left fun p _ => ?_
      by_cases q : p.1 = k <;> simp [q]
    refine ⟨e2 ▸ h.1, fun p hp => ?_⟩
    have : p.1 ∈ c.map (·.1) := e2 ▸ List.mem_map.mpr ⟨p, hp, rfl⟩
    obtain ⟨q, hq, e3⟩ := List.mem_map.mp this
    exact e3 ▸ h.2 q hq
  · rw [if_neg (fun q => e ((has_iff c k).mp q))]
    refine ⟨?_, fun p hp => ?_⟩
    · rw [List.map_append, List.nodup_append]
      refine ⟨h.1, by simp, fun a ha b hb => ?_⟩
      rw [List.map_singleton, List.mem_singleton] at hb
      subst hb
      exact fun q => e (q ▸ ha)
    · rcases List.mem_append.mp hp with hp | hp
      · exact h.2 p hp
      · rw [List.mem_singleton.mp hp]; exact ⟨h0, h1⟩
theorem look_at : ∀ (c : List (Int × Int)) (k v : Int), (c.map (·.1)).Nodup → (k, v) ∈ c → kdfLook c k 0 = v
  | [], _, _, _, h => nomatch h
  | (i, u) :: c, k, v, hd, h => by
    rw [List.map_cons, List.nodup_cons] at hd
    rw [look_cons]
    rcases List.mem_cons.mp h with q | q
    · cases q; simp
    · rw [if_neg (show ¬ i = k from fun e => hd.1 (by subst e; exact List.mem_map.mpr ⟨_, q, rfl⟩)), look_at c k v hd.2 q]
theorem wsum_take {c : List (Int × Int)} {i : Nat} {k v : Int} (h : c[i]? = some (k, v)) (φ : Nat → Int) : wsum (c.take (i + 1)) φ = wsum (c.take i) φ + v * φ k.toNat := by
  obtain ⟨hi, e⟩ := List.getElem?_eq_some_iff.mp h
  rw [List.take_add_one, h, wsum_append]
  simp [wsum]
theorem mask_turn : ∀ m < 64, ∀ s < 6, m / 2 ^ s % 2 = 0 → m + 2 ^ s < 64 := by decide +kernel
theorem mask_int {m : Int} (h0 : 0 ≤ m) (s : Nat) : m.fdiv (2 ^ s) % 2 = 0 ↔ m.toNat / 2 ^ s % 2 = 0 := by
  obtain ⟨n, rfl⟩ := Int.eq_ofNat_of_zero_le h0
  have e : (2 : Int) ^ s = ((2 ^ s : Nat) : Int) := (Int.natCast_pow 2 s).symm
  rw [Int.toNat_natCast, e, Int.fdiv_eq_ediv_of_nonneg _ (Int.natCast_nonneg _)]
  exact ⟨fun h => Int.ofNat.inj h, fun h => congrArg Int.ofNat h⟩
theorem waysR_over : ∀ (cs : List Nat) (g : Nat) (φ : Nat → Int), cs.length < g → waysR cs g φ = 0
  | [], 0, _, h => absurd h (Nat.lt_irrefl _)
  | [], _ + 1, _, _ => rfl
  | _ :: _, 0, _, h => absurd h (Nat.not_lt_zero _)
  | c :: cs, g + 1, φ, h => by
    have h' : cs.length < g := by simpa using h
    rw [waysR, waysR_over cs (g + 1) φ (by (first | lia | omega)), waysR_over cs g _ h']; rfl
end

-- part S11
section
theorem list4 {dl : List (Addr × Obj)} (h : dl.length = 4) : ∃ a1 o1 a2 o2 a3 o3 a4 o4, dl = [(a1, o1), (a2, o2), (a3, o3), (a4, o4)] :=
  have ⟨p1, p2, p3, p4, e⟩ := four h
  ⟨p1.1, p1.2, p2.1, p2.2, p3.1, p3.2, p4.1, p4.2, e⟩
@[elab_as_elim] theorem list4G {l : List (Addr × Obj)} {P : List (Addr × Obj) → Prop} (a0 : Addr) (o0 : Obj) (h : l.length = 4) (k : ∀ (ds : Nat → Addr) (os : Nat → Obj), ds 0 = a0 → os 0 = o0 → P [(ds 1, os 1), (ds 2, os 2), (ds 3, os 3), (ds 4, os 4)]) : P l := by
  obtain ⟨a1, o1, a2, o2, a3, o3, a4, o4, rfl⟩ := list4 h
  exact k (fun n => if n = 0 then a0 else if n = 1 then a1 else if n = 2 then a2 else if n = 3 then a3 else a4) (fun n => if n = 0 then o0 else if n = 1 then o1 else if n = 2 then o2 else if n = 3 then o3 else o4) rfl rfl
open LCg in
theorem srcAt_mono {h₀ : Heap} {ax : Addr} {its : Array Value} : ∀ nw nw' : List (Addr × Obj), (∀ p ∈ nw, p ∈ nw') → SrcAt h₀ ax its nw → SrcAt h₀ ax its nw' :=
  fun _ _ hs h => h.imp id fun ⟨o, hm, r⟩ => ⟨o, hs _ hm, r⟩
theorem fn5 {α : Type} (a b c d e : α) : ∃ f : Nat → α, f 0 = a ∧ f 1 = b ∧ f 2 = c ∧ f 3 = d ∧ f 4 = e :=
  ⟨fun n => if n = 0 then a else if n = 1 then b else if n = 2 then c else if n = 3 then d else e, rfl, rfl, rfl, rfl, rfl⟩
theorem inj5 {α : Type} {f : Nat → α} (h01 : f 0 ≠ f 1) (h02 : f 0 ≠ f 2) (h03 : f 0 ≠ f 3) (h04 : f 0 ≠ f 4) (h12 : f 1 ≠ f 2) (h13 : f 1 ≠ f 3) (h14 : f 1 ≠ f 4) (h23 : f 2 ≠ f 3) (h24 : f 2 ≠ f 4) (h34 : f 3 ≠ f 4) : ∀ i j : Nat, i < 5 → j < 5 → f i = f j → i = j := by
  intro i j hi hj e
  rcases lt5 hi with rfl | rfl | rfl | rfl | rfl <;> rcases lt5 hj with rfl | rfl | rfl | rfl | rfl <;> first | rfl | exact absurd e (by assumption) | exact absurd e.symm (by assumption)
noncomputable def wayL (ds : Nat → Addr) (os : Nat → Obj) (tl : List (Addr × Obj)) : List (Addr × Obj) := (List.range 5).map (fun j => (ds j, os j)) ++ tl
noncomputable def DsOk (ds : Nat → Addr) (tl : List (Addr × Obj)) : Prop := (∀ i j, i < 5 → j < 5 → ds i = ds j → i = j) ∧ (∀ j, j < 5 → (ds j == sysModules) = false) ∧ ∀ p ∈ tl, ∀ j, j < 5 → p.1 ≠ ds j
theorem wayL_mem {ds : Nat → Addr} {os : Nat → Obj} {tl : List (Addr × Obj)} {j : Nat} (h : j < 5) : (ds j, os j) ∈ wayL ds os tl :=
  List.mem_append_left _ (List.mem_map.mpr ⟨j, List.mem_range.mpr h, rfl⟩)
theorem wayL_tl {ds : Nat → Addr} {os : Nat → Obj} {tl : List (Addr × Obj)} {p : Addr × Obj} (h : p ∈ tl) : p ∈ wayL ds os tl := List.mem_append_right _ h
noncomputable def upd5 (os : Nat → Obj) (j : Nat) (o : Obj) : Nat → Obj := fun i => if i = j then o else os i
theorem wayL_upd {ds : Nat → Addr} {os : Nat → Obj} {tl : List (Addr × Obj)} {j : Nat} (h : DsOk ds tl) (hj : j < 5) : UpdF (ds j) (os j) (wayL ds os tl) (fun o' => wayL ds (upd5 os j o') tl) := by
  have key : ∀ (n : Nat) (js : List Nat), js = (List.range' 0 n) → True := fun _ _ _ => trivial
  have go : ∀ js : List Nat, j ∈ js → js.Nodup → (∀ i ∈ js, i < 5) → UpdF (ds j) (os j) (js.map (fun i => (ds i, os i)) ++ tl) (fun o' => js.map (fun i => (ds i, upd5 os j o' i)) ++ tl) := by
    intro js
    induction js with
    | nil => intro h; cases h
    | cons i js ih =>
      intro hm hn hl
      rw [List.nodup_cons] at hn
      by_cases e : i = j
      · subst e
        have e2 : (fun o' => (i :: js).map (fun k => (ds k, upd5 os i o' k)) ++ tl) = fun o' => (ds i, o') :: (js.map (fun k => (ds k, os k)) ++ tl) := by
          funext o'
          rw [List.map_cons, List.cons_append]
          congr 2
          · simp [upd5]
          · refine List.map_congr_left fun k hk => ?_
            have : k ≠ i := fun e => hn.1 (e ▸ hk)
            simp [upd5, this]
        rw [e2]
        refine UpdF.head fun p hp => ?_
        rcases List.mem_append.mp hp with hp | hp
        · obtain ⟨k, hk, rfl⟩ := List.mem_map.mp hp
          exact fun e => hn.1 (h.1 k i (hl k (.tail _ hk)) hj e ▸ hk)
        · exact h.2.2 p hp i hj
      · have e2 : (fun o' => (i :: js).map (fun k => (ds k, upd5 os j o' k)) ++ tl) = fun o' => (ds i, os i) :: (js.map (fun k => (ds k, upd5 os j o' k)) ++ tl) := by
          funext o'
          rw [List.map_cons, List.cons_append]
          congr 2
          simp [upd5, e]
        rw [e2]
        refine UpdF.tail (fun q => e (h.1 i j (hl i (.head _)) hj q)) (ih ?_ hn.2 fun k hk => hl k (.tail _ hk))
        rcases List.mem_cons.mp hm with q | q
        · exact absurd q.symm e
        · exact q
  exact go (List.range 5) (List.mem_range.mpr hj) List.nodup_range fun i hi => List.mem_range.mp hi
noncomputable def Held (w : World) (o : Obj) (V : (Nat → Int) → Int) : Prop := ∃ c, DO w o c ∧ MaskOk c ∧ ∀ φ, wsum c φ = V φ
theorem flat_at : ∀ (c : List (Int × Int)) {kvs : List (Int × Value)}, PyProof.V.FlatPairs PyData.int kvs (kdfD c) → kvs.length = c.length ∧ ∀ (i : Nat) k v, kvs[i]? = some (k, v) → ∃ n t, v = .int n t ∧ c[i]? = some (k, n)
  | [], kvs, h => by
    cases h
    exact ⟨rfl, fun i k v h => by simp at h⟩
  | p :: c, kvs, h => by
    have h' : PyProof.V.FlatPairs PyData.int kvs ((PyData.int p.1, PyData.int p.2) :: kdfD c) := h
    generalize hD : (PyData.int p.1, PyData.int p.2) :: kdfD c = D at h'
    cases h' with
    | nil => cases hD
    | cons hf hr =>
      injection hD with e1 e2
      injection e1 with e3 e4
      injection e3 with e5
      subst e2 e4 e5
      obtain ⟨t, ht⟩ := PyProof.V.Flat.int_inv hf
      obtain ⟨hl, ha⟩ := flat_at c hr
      refine ⟨by simp [hl], fun i k v hi => ?_⟩
      cases i with
      | zero =>
        simp only [List.getElem?_cons_zero, Option.some.injEq, Prod.mk.injEq] at hi
        obtain ⟨rfl, rfl⟩ := hi
        exact ⟨p.2, t, ht, rfl⟩
      | succ i => exact ha i k v (by simpa using hi)
inductive WayJ (w : World) (ds : Nat → Addr) (tl : List (Addr × Obj)) (ps : List (Str × Value)) (V : Nat → Nat → (Nat → Int) → Int) (i : Nat) (m : Str → Option Value) (nx : List (Addr × Obj)) : Prop
  | mk (f0 : (∀ p ∈ ps, m p.1 = some p.2)) (os : Nat → Obj) (f1 : nx = wayL ds os tl) (f2 : ∀ j, j < 5 → Held w (os j) (V i j)) : WayJ w ds tl ps V i m nx
inductive WayU (w : World) (ds : Nat → Addr) (tl : List (Addr × Obj)) (ps : List (Str × Value)) (os : Nat → Obj) (g : Nat) (V : Nat → (Nat → Int) → Int) (i : Nat) (m : Str → Option Value) (nx : List (Addr × Obj)) : Prop
  | mk (f0 : (∀ p ∈ ps, m p.1 = some p.2)) (o' : Obj) (f1 : nx = wayL ds (upd5 os (g + 1) o') tl) (f2 : Held w o' (V i)) : WayU w ds tl ps os g V i m nx
abbrev wps1 (S cl : Addr) : List (Str × Value) := [(Str.ofString "ways", .ref S), (Str.ofString "columns", .ref cl)]
abbrev wps2 (S cl : Addr) (k : Int) (tk : Tok) : List (Str × Value) := (Str.ofString "k", .int k tk) :: wps1 S cl
abbrev wps3 (S cl : Addr) (k : Int) (tk : Tok) (g : Int) (tg : Tok) : List (Str × Value) := (Str.ofString "given", .int g tg) :: wps2 S cl k tk
abbrev wps4 (S cl : Addr) (k : Int) (tk : Tok) (g : Int) (tg : Tok) (x : Int) (tx : Tok) : List (Str × Value) := (Str.ofString "taken", .int x tx) :: wps3 S cl k tk g tg
theorem wayL_app {ds : Nat → Addr} {os : Nat → Obj} {tl own : List (Addr × Obj)} : wayL ds os tl ++ own = wayL ds os (tl ++ own) := List.append_assoc _ _ _
theorem wayL_off {ds : Nat → Addr} {os os' : Nat → Obj} {tl : List (Addr × Obj)} {I : Addr} (h : ∀ p ∈ wayL ds os tl, p.1 ≠ I) : ∀ p ∈ wayL ds os' tl, p.1 ∉ [I] := by
  intro p hp hI
  have hI := List.mem_singleton.mp hI
  rcases List.mem_append.mp hp with hp | hp
  · obtain ⟨j, hj, rfl⟩ := List.mem_map.mp hp
    exact h _ (wayL_mem (List.mem_range.mp hj)) hI
  · exact h _ (wayL_tl hp) hI
theorem DsOk.app {ds : Nat → Addr} {os : Nat → Obj} {tl own : List (Addr × Obj)} {I : Addr} (h : DsOk ds tl) (ho : ∀ p ∈ wayL ds os tl, p.1 ≠ I) (hw : ∀ p ∈ own, p.1 = I) : DsOk ds (tl ++ own) := by
  refine ⟨h.1, h.2.1, fun p hp j hj => ?_⟩
  rcases List.mem_append.mp hp with hp | hp
  · exact h.2.2 p hp j hj
  · rw [hw p hp]; exact Ne.symm (ho _ (wayL_mem hj))
theorem wl_at {ds : Nat → Addr} {wl : List Value} (h : wl = (List.range 5).map fun j => Value.ref (ds j)) {i : Int} {j : Nat} (hj : j < 5) (e : i.toNat = j) : wl[i.toNat]? = some (.ref (ds j)) := by
  rw [e, h, List.getElem?_map, List.getElem?_range hj]; rfl
theorem range_down {k : Nat} (hk : k < 4) : Builtin.Range.small (k : Int) (-1) (-1) = true ∧ Builtin.Range.rangeSize (k : Int) (-1) (-1) = ((k + 1 : Nat) : Int) := by
  have h : ∀ k : Nat, k < 4 → Builtin.Range.small (k : Int) (-1) (-1) = true ∧ Builtin.Range.rangeSize (k : Int) (-1) (-1) = ((k + 1 : Nat) : Int) := by decide
  exact h k hk
theorem own_split {h₀ h : Heap} {L : Addr} {l own : List (Addr × Obj)} {I d : Addr} {o : Obj} (N : News h₀ L h (l ++ own)) (hd : (d, o) ∈ l) (hown : ∀ p ∈ own, p.1 = I ∨ p.1 = d) :
    ∃ own' : List (Addr × Obj), (∀ p ∈ own', p.1 = I ∧ p ∈ own) ∧ ∀ p ∈ own, p ∈ own' ∨ p = (d, o) := by
  refine ⟨own.filter fun p => decide ((p.1 : Nat) = I), fun p hp => ?_, fun p hp => ?_⟩
  · obtain ⟨h1, h2⟩ := List.mem_filter.mp hp
    exact ⟨of_decide_eq_true h2, h1⟩
  · rcases hown p hp with e | e
    · exact .inl (List.mem_filter.mpr ⟨hp, decide_eq_true e⟩)
    · refine .inr ?_
      have q1 := (N _ (List.mem_append_left _ hd)).1
      have q2 := (N _ (List.mem_append_right _ hp)).1
      rw [e, q1] at q2
      obtain ⟨a, b⟩ := p
      cases q2
      cases e
      rfl
theorem stepT_succ (φ : Nat → Int) (m s : Nat) : stepT φ m (s + 1) = stepT φ m s + if m / 2 ^ s % 2 = 0 then φ (m + 2 ^ s) else 0 := rfl
theorem upd5_idem (os : Nat → Obj) (j : Nat) (a b : Obj) : upd5 (upd5 os j a) j b = upd5 os j b := by
  funext i; simp only [upd5]; split <;> rfl
theorem mask_int2 {m : Int} (h0 : 0 ≤ m) (s : Nat) : (m.fdiv (2 ^ (s : Int).toNat)).fmod 2 = 0 ↔ m.toNat / 2 ^ s % 2 = 0 := by
  rw [Int.toNat_natCast, Int.fmod_eq_emod_of_nonneg _ (by decide), mask_int h0]
theorem seat_held {w : World} {o' : Obj} {kvs' : List (Int × Value)} {c4 cg : List (Int × Int)} {mk n : Int} {s4 : Nat} {B : (Nat → Int) → Int} (hm4 : MaskOk c4) (hv4 : ∀ φ, wsum c4 φ = B φ + n * stepT φ mk.toNat s4) (h0 : 0 ≤ mk) (h1 : mk < 64) (hs : s4 < 6)
    (hc : (mk.fdiv (2 ^ (s4 : Int).toNat)).fmod 2 = 0) (hl : kdfLook cg mk 0 = n) (hd : o'.IsDictOf (PySem.intKind PySem.Challenge.rw_sw0054_01.row.prog w) kvs')
    (hf : PyProof.V.FlatPairs PyData.int kvs' (kdfD (kdfPut c4 (mk + 2 ^ (s4 : Int).toNat) (kdfLook c4 (mk + 2 ^ (s4 : Int).toNat) 0 + kdfLook cg mk 0)))) : Held w o' (fun φ => B φ + n * stepT φ mk.toNat (s4 + 1)) := by
  obtain ⟨k, rfl⟩ := Int.eq_ofNat_of_zero_le h0
  have hc' := (mask_int2 h0 s4).mp hc
  have ht := mask_turn k (Int.ofNat_lt.mp h1) s4 hs hc'
  have e1 : ((k : Int) + (2 : Int) ^ (s4 : Int).toNat) = ((k + 2 ^ s4 : Nat) : Int) := by rw [Int.toNat_natCast, Int.natCast_add, Int.natCast_pow]; rfl
  rw [e1] at hf
  refine ⟨_, ⟨_, hd, hf⟩, put_ok hm4 (Int.natCast_nonneg _) (Int.ofNat_lt.mpr ht) _, fun φ => ?_⟩
  rw [put_sum hm4, hv4, hl, Int.toNat_natCast]; dsimp only; rw [Int.toNat_natCast, stepT_succ, if_pos (show k / 2 ^ s4 % 2 = 0 from hc'), Int.mul_add, Int.add_assoc]

theorem seat_skip {w : World} {o4 : Obj} {kv4 : List (Int × Value)} {c4 : List (Int × Int)} {mk n : Int} {s4 : Nat} {B : (Nat → Int) → Int} (hm4 : MaskOk c4) (hv4 : ∀ φ, wsum c4 φ = B φ + n * stepT φ mk.toNat s4) (h0 : 0 ≤ mk)
    (hc : (mk.fdiv (2 ^ (s4 : Int).toNat)).fmod 2 ≠ 0) (hd : o4.IsDictOf (PySem.intKind PySem.Challenge.rw_sw0054_01.row.prog w) kv4) (hf : PyProof.V.FlatPairs PyData.int kv4 (kdfD c4)) : Held w o4 (fun φ => B φ + n * stepT φ mk.toNat (s4 + 1)) := by
  have hc' := fun q => hc ((mask_int2 h0 s4).mpr q)
  exact ⟨_, ⟨_, hd, hf⟩, hm4, fun φ => by rw [hv4]; dsimp only; rw [stepT_succ, if_neg hc']; simp⟩
theorem range_up {c : Nat} (hc : c ≤ 6) : Builtin.Range.small 0 (c : Int) 1 = true ∧ Builtin.Range.rangeSize 0 (c : Int) 1 = (c : Int) := by
  have h : ∀ c : Nat, c < 7 → Builtin.Range.small 0 (c : Int) 1 = true ∧ Builtin.Range.rangeSize 0 (c : Int) 1 = (c : Int) := by decide
  exact h c (Nat.lt_succ_of_le hc)
theorem item_DO {prog : Program} {w : World} {A : Around} {E : Value → Shared → Prop} {s : Shared} {h₀ : Heap} {L d : Addr} {news : List (Addr × Obj)} {o : Obj} {kvs : List (Int × Value)} {c : List (Int × Int)} {k : Int} {tk : Tok} {Q : Value → Shared → Prop}
    (N : News h₀ L s.heap news) (hm : (d, o) ∈ news) (lo : (d == sysModules) = false) (hd : o.IsDictOf (PySem.intKind prog w) kvs) (hf : PyProof.V.FlatPairs PyData.int kvs (kdfD c)) (hk : kdfHas c k = true)
    (h : ∀ t, Q (.int (kdfLook c k 0) t) { s with toks := s.toks + 1 }) :
    wpAny (model prog w) A (getItem (.ref d) (.int k tk)) Q E s := by
  have T : IntTab prog w s.heap d (kdfD c) := TabAt.ofObj lo (N _ hm).1 hd hf
  obtain ⟨lo, kvs, hd, hf⟩ := T
  obtain ⟨v, hv, hfl⟩ := hf.of_lookup PyProof.V.same_int (kdfD_item hk)
  obtain ⟨t, rfl⟩ := PyProof.V.Flat.int_inv hfl
  exact wpAny_getItem_of (intKind_is _ _ _ _) hd.mapOf hv (h t)
theorem ways_spec (w : World) (colA : Addr) (c0 c1 c2 c3 : Nat) (t0 t1 t2 t3 : Tok) (nn : Nat) (news : List (Addr × Obj)) (hc : ∀ i, i < 4 → [c0, c1, c2, c3].getD i 0 ≤ 6) :
    Ctr 1 w 173 [.ref colA] ((colA, listOf [Value.int c0 t0, .int c1 t1, .int c2 t2, .int c3 t3].toArray nn) :: news) (fun r n' _ => ∃ (D : Addr) (ys : List Value) (nd : Nat), r = .ref D ∧ n' = (D, listOf ys.toArray nd) :: news ∧ IntsAre ys ((List.range 5).map fun j => waysR [c3, c2, c1, c0] j fun _ => 1) ∧ ∀ p ∈ news, p.1 ≠ D) := by
  w_top off
  k_with_none
  k_with "eval Name" => (k_here; k_dflt (refine' nameX_L ?z0F ?z0v ?_ ?z0a ?z0b; (case z0F => k_asm); (case z0a => rfl); (case z0b => rfl); (case z0v => exact Eq.refl (some _)); k_whole))
  k_with "exec For Name Attribute cons nil" => (k_here; (with_unfolding_all refine' For_invVF ?z1kF ?z1k1 ?z1k2 ?_; (case z1kF => assumption); (case z1k1 => exact rfl); (case z1k2 => exact rfl); k_whole))
  k_with "exec For Name Name cons nil" => (k_here; (with_unfolding_all refine' For_invVF ?z2kF ?z2k1 ?z2k2 ?_; (case z2kF => assumption); (case z2k1 => exact rfl); (case z2k2 => exact rfl); k_whole))
  k_with "call builtin:len" => (k_here; (with_reducible show wpAny _ _ (call (Value.builtin "len") [Value.ref _]) _ _ _); k_dflt (refine' kst_len ?z3k1 ?z3k2 ?z3k3 ?z3k4 ?_; (case z3k1 => k_asm); (case z3k2 => k_mem); (case z3k3 => first | exact IntsAre.length (by assumption) | assumption); (case z3k4 => (first | lia | omega)); k_whole))
  k_with "getItem ref int" => (k_here; k_dflt (refine' item_DO ?z4N ?z4m ?z4lo ?z4d ?z4f ?z4k ?_; (case z4N => k_asm); (case z4m => assumption); (case z4lo => assumption); (case z4d => assumption); (case z4f => assumption); (case z4k => assumption); k_whole); intro _)
  k_with "setItem ref int int" => (k_here; k_dflt (refine' kdf_setItem ?z5F ?z5N ?z5U ?z5d ?z5f ?z5c ?_; (case z5F => k_asm); (case z5N => k_asm); (case z5U => exact wayL_upd (by assumption) (by first | assumption | (first | lia | omega))); (case z5d => (simp only [upd5, if_pos]; assumption)); (case z5f => assumption); (case z5c => (first | lia | omega)); k_whole); intro _ _ _ _ _ _ _)
  k_with "exec For Name Subscript cons nil" => (k_here; (rename Fr _ _ _ _ => lF'); (with_unfolding_all refine' For_invVF lF' ?z6k1 ?z6k2 ?_; (case z6k1 => exact rfl); (case z6k2 => exact rfl); k_whole))
  k_with "exec For" => (k_here; (rename Fr _ _ _ _ => lF'); (with_unfolding_all refine' For_invVF lF' ?z7k1 ?z7k2 ?_; (case z7k1 => exact rfl); (case z7k2 => exact rfl); k_whole))
  k_with "subscriptTail Name Name ref int" => (k_here; k_dflt (refine' item_list ?z8N ?z8m ?z8a ?z8b ?z8c ?_; (case z8N => k_asm); (case z8m => assumption); (case z8a => first | exact n0 _ | exact n10 _ | (first | lia | omega)); (case z8b => first | exact nlt (by assumption) (by decide) | exact n1lt (by assumption) (by decide) | (first | lia | omega)); (case z8c => assumption); k_whole))
  k_with "subscriptTail Name BinOp ref int" => (k_here; k_dflt (refine' item_list ?z9N ?z9m ?z9a ?z9b ?z9c ?_; (case z9N => k_asm); (case z9m => assumption); (case z9a => first | exact n0 _ | exact n10 _ | (first | lia | omega)); (case z9b => first | exact nlt (by assumption) (by decide) | exact n1lt (by assumption) (by decide) | (first | lia | omega)); (case z9c => assumption); k_whole))
  k_with "eval ListComp" => (k_here; k_dflt (refine' dictComp_T ?z10y0 ?z10y1 ?z10y2 ?z10y3 ?z10y4 ?z10y5 ?_; (case z10y0 => k_asm); (case z10y1 => rfl); (case z10y2 => decide); (case z10y3 => rfl); (case z10y4 => decide); (case z10y5 => rfl); k_whole))
  unfold Ctr
  k_fill
  intro loose mean mg mb dp un gd cn cs a₉ ccd cl outer A₀ base h₀ L₉ m₉ s Q E B₉ F₉ X₉ N₉ T₉ hk hb₉ hd₉ hu₉ hret
  refine wpAny_call ?_
  k_dflt cell_enter
  rename Heap => hA
  k_with_none
  k_with "eval Name" => (k_here; k_dflt (refine' nameX_L ?z0F ?z0v ?_ ?z0a ?z0b; (case z0F => k_asm); (case z0a => rfl); (case z0b => rfl); (case z0v => exact Eq.refl (some _)); k_whole))
  k_with "exec For Name Attribute cons nil" => (k_here; (with_unfolding_all refine' For_invVF ?z1kF ?z1k1 ?z1k2 ?_; (case z1kF => assumption); (case z1k1 => exact rfl); (case z1k2 => exact rfl); k_whole))
  k_with "exec For Name Name cons nil" => (k_here; (with_unfolding_all refine' For_invVF ?z2kF ?z2k1 ?z2k2 ?_; (case z2kF => assumption); (case z2k1 => exact rfl); (case z2k2 => exact rfl); k_whole))
  k_with "call builtin:len" => (k_here; (with_reducible show wpAny _ _ (call (Value.builtin "len") [Value.ref _]) _ _ _); k_dflt (refine' kst_len ?z3k1 ?z3k2 ?z3k3 ?z3k4 ?_; (case z3k1 => k_asm); (case z3k2 => k_mem); (case z3k3 => first | exact IntsAre.length (by assumption) | assumption); (case z3k4 => (first | lia | omega)); k_whole))
  k_with "getItem ref int" => (k_here; k_dflt (refine' item_DO ?z4N ?z4m ?z4lo ?z4d ?z4f ?z4k ?_; (case z4N => k_asm); (case z4m => assumption); (case z4lo => assumption); (case z4d => assumption); (case z4f => assumption); (case z4k => assumption); k_whole); intro _)
  k_with "setItem ref int int" => (k_here; k_dflt (refine' kdf_setItem ?z5F ?z5N ?z5U ?z5d ?z5f ?z5c ?_; (case z5F => k_asm); (case z5N => k_asm); (case z5U => exact wayL_upd (by assumption) (by first | assumption | (first | lia | omega))); (case z5d => (simp only [upd5, if_pos]; assumption)); (case z5f => assumption); (case z5c => (first | lia | omega)); k_whole); intro _ _ _ _ _ _ _)
  k_with "exec For Name Subscript cons nil" => (k_here; (rename Fr _ _ _ _ => lF'); (with_unfolding_all refine' For_invVF lF' ?z6k1 ?z6k2 ?_; (case z6k1 => exact rfl); (case z6k2 => exact rfl); k_whole))
  k_with "exec For" => (k_here; (rename Fr _ _ _ _ => lF'); (with_unfolding_all refine' For_invVF lF' ?z7k1 ?z7k2 ?_; (case z7k1 => exact rfl); (case z7k2 => exact rfl); k_whole))
  k_with "subscriptTail Name Name ref int" => (k_here; k_dflt (refine' item_list ?z8N ?z8m ?z8a ?z8b ?z8c ?_; (case z8N => k_asm); (case z8m => assumption); (case z8a => first | exact n0 _ | exact n10 _ | (first | lia | omega)); (case z8b => first | exact nlt (by assumption) (by decide) | exact n1lt (by assumption) (by decide) | (first | lia | omega)); (case z8c => assumption); k_whole))
  k_with "subscriptTail Name BinOp ref int" => (k_here; k_dflt (refine' item_list ?z9N ?z9m ?z9a ?z9b ?z9c ?_; (case z9N => k_asm); (case z9m => assumption); (case z9a => first | exact n0 _ | exact n10 _ | (first | lia | omega)); (case z9b => first | exact nlt (by assumption) (by decide) | exact n1lt (by assumption) (by decide) | (first | lia | omega)); (case z9c => assumption); k_whole))
  k_with "eval ListComp" => (k_here; k_dflt (refine' dictComp_T ?z10y0 ?z10y1 ?z10y2 ?z10y3 ?z10y4 ?z10y5 ?_; (case z10y0 => k_asm); (case z10y1 => rfl); (case z10y2 => decide); (case z10y3 => rfl); (case z10y4 => decide); (case z10y5 => rfl); k_whole))
  (repeat' ((fail_if_success (with_reducible show wpAny _ _ (PySem.pyIter _) _ _ _)); (fail_if_success (with_reducible show LCg.CompSrc _ _ _ _ _ _ _ _ _ _ _ _ _ _)); (fail_if_success (with_reducible show wpAny _ _ (PySem.eval (PySem.Expr.ListComp _ _ _ _) _) _ _ _)); first | (k_unfold; (try dsimp only)) | (k_end; wrow_close) | walk1 | (dsimp only; walk1) | (leave1; walk_say "STEP leave1"; try dsimp only) | fail "no step"))
  k_here
  refine LCg.ListComp_U (F₀ := by k_asm) (by rfl) (by decide) (by rfl) (by decide) (by rfl) ?_
  (repeat' ((fail_if_success (with_reducible show wpAny _ _ (PySem.pyIter _) _ _ _)); (fail_if_success (with_reducible show LCg.CompSrc _ _ _ _ _ _ _ _ _ _ _ _ _ _)); (fail_if_success (with_reducible show wpAny _ _ (PySem.eval (PySem.Expr.ListComp _ _ _ _) _) _ _ _)); first | (k_unfold; (try dsimp only)) | (k_end; wrow_close) | walk1 | (dsimp only; walk1) | (leave1; walk_say "STEP leave1"; try dsimp only) | fail "no step"))
  refine' LCg.CompSrc.ledger ?a ?b ?c ?d ?e ?_
  case a => rfl
  case b => k_asm
  case c => k_asm
  case d => k_mem
  case e => size_fits
  intro g'
  refine compDicts (Top.nolimit (by k_asm)) srcAt_mono (.inr ⟨_, by k_mem, rfl, _, rfl⟩) 4 0 [] Dicts.nil ?_
  intro dl' hD9 hL9
  (rename Obj => oz)
  revert hD9
  refine list4G hA.objs.size oz hL9 ?_
  clear hL9 dl'
  intro ds os eds eos hD9
  (try simp only [List.map_cons, List.map_nil, List.cons_append, List.nil_append])
  (repeat' ((fail_if_success (with_reducible show wpAny _ _ (PySem.pyIter _) _ _ _)); (fail_if_success (with_reducible show wpAny _ _ (PySem.exec (PySem.Stmt.While _ _ _ _) _) _ _ _)); first | ((fail_if_success (fail_if_success (with_reducible show wpAny _ _ _ _ _ (PySem.Shared.mk _ (PySem.Shared.gens (PySem.Shared.mk _ _ _ _ _)) _ _ _)))); dsimp only) | (k_unfold; (try dsimp only)) | (k_end; wrow_close) | walk1 | (dsimp only; walk1) | (leave1; walk_say "STEP leave1"; try dsimp only) | fail "no step"))
  rename_i lo0 hd0 hf0 ap0 hl0 l0 _ hl1 D1 _ _ hoD S _ hl2 h3 F3 N3 h4 tk4 t4 u4 v4 R4 F4 N4 k4
  generalize hd00 : hA.objs.size = d0 at *
  subst eds eos
  obtain ⟨wl, hwl⟩ : ∃ wl, wl = (List.range 5).map fun j => Value.ref (ds j) := ⟨_, rfl⟩
  obtain ⟨cvs, hcvs⟩ : ∃ cvs, cvs = [Value.int c0 t0, .int c1 t1, .int c2 t2, .int c3 t3] := ⟨_, rfl⟩
  have hci : IntsAre cvs ([c0, c1, c2, c3].map fun n : Nat => (n : Int)) := hcvs ▸ .cons _ _ (.cons _ _ (.cons _ _ (.cons _ _ .nil)))
  have N5 : News _ _ _ (wayL ds os ((S, listOf wl.toArray 0) :: (colA, listOf cvs.toArray nn) :: news)) := kst_newsOf N4 (by
    subst hwl hcvs
    show ∀ p ∈ (ds 0, os 0) :: (ds 1, os 1) :: (ds 2, os 2) :: (ds 3, os 3) :: (ds 4, os 4) :: (S, listOf #[Value.ref (ds 0), .ref (ds 1), .ref (ds 2), .ref (ds 3), .ref (ds 4)] 0) :: (colA, listOf #[Value.int c0 t0, .int c1 t1, .int c2 t2, .int c3 t3] nn) :: news, _
    kst_inAny)
  have hOk : DsOk ds ((S, listOf wl.toArray 0) :: (colA, listOf cvs.toArray nn) :: news) := by
    obtain ⟨q1, q2, q3⟩ := hD9
    simp only [List.map_cons, List.map_nil, List.nodup_cons, List.mem_cons, List.not_mem_nil, or_false, not_or, List.nodup_nil, and_true, not_false_eq_true] at q2
    have n0 := fun p hp => q3 p hp (ds 0, os 0) (.tail _ (.head _))
    have n1 := n0 _ (.head _)
    have n2 := n0 _ (.tail _ (.head _))
    have n3 := n0 _ (.tail _ (.tail _ (.head _)))
    have n4 := n0 _ (.tail _ (.tail _ (.tail _ (.head _))))
    refine ⟨inj5 n1 n2 n3 n4 q2.1.1 q2.1.2.1 q2.1.2.2 q2.2.1.1 q2.2.1.2 q2.2.2, fun j hj => ?_, fun p hp j hj => ?_⟩
    · obtain rfl | rfl | rfl | rfl | rfl : j = 0 ∨ j = 1 ∨ j = 2 ∨ j = 3 ∨ j = 4 := lt5 (by first | assumption | (first | lia | omega))
      · exact lo0
      · exact (q1 _ (.head _)).1
      · exact (q1 _ (.tail _ (.head _))).1
      · exact (q1 _ (.tail _ (.tail _ (.head _)))).1
      · exact (q1 _ (.tail _ (.tail _ (.tail _ (.head _))))).1
    · rcases List.mem_cons.mp hp with rfl | hp
      · have hj' : j = 0 ∨ j = 1 ∨ j = 2 ∨ j = 3 ∨ j = 4 := lt5 (by first | assumption | (first | lia | omega))
        obtain ⟨_, s1, s2, s3, s4, _, s0, _⟩ := hl2
        rcases hj' with rfl | rfl | rfl | rfl | rfl
        · exact Nat.ne_of_gt s0
        · exact Nat.ne_of_gt s1
        · exact Nat.ne_of_gt s2
        · exact Nat.ne_of_gt s3
        · exact Nat.ne_of_gt s4
      · rw [← hcvs] at ap0
        obtain rfl | rfl | rfl | rfl | rfl : j = 0 ∨ j = 1 ∨ j = 2 ∨ j = 3 ∨ j = 4 := lt5 (by first | assumption | (first | lia | omega))
        · exact ap0 p hp
        all_goals rw [hcvs] at hp
        · exact q3 _ (.head _) p (.tail _ (.tail _ hp))
        · exact q3 _ (.tail _ (.head _)) p (.tail _ (.tail _ hp))
        · exact q3 _ (.tail _ (.tail _ (.head _))) p (.tail _ (.tail _ hp))
        · exact q3 _ (.tail _ (.tail _ (.tail _ (.head _)))) p (.tail _ (.tail _ hp))
  have hDO : ∀ j, j < 5 → Held w (os j) (fun φ => waysR [] j φ) := by
    obtain ⟨q1, q2, q3⟩ := hD9
    intro j hj
    obtain rfl | rfl | rfl | rfl | rfl : j = 0 ∨ j = 1 ∨ j = 2 ∨ j = 3 ∨ j = 4 := lt5 (by first | assumption | (first | lia | omega))
    · exact ⟨[(0, 1)], ⟨_, hd0, hf0⟩, ⟨by decide, by decide⟩, fun φ => by simp [wsum, waysR]⟩
    · exact ⟨[], (q1 _ (.head _)).2, ⟨by decide, by decide⟩, fun φ => rfl⟩
    · exact ⟨[], (q1 _ (.tail _ (.head _))).2, ⟨by decide, by decide⟩, fun φ => rfl⟩
    · exact ⟨[], (q1 _ (.tail _ (.tail _ (.head _)))).2, ⟨by decide, by decide⟩, fun φ => rfl⟩
    · exact ⟨[], (q1 _ (.tail _ (.tail _ (.tail _ (.head _))))).2, ⟨by decide, by decide⟩, fun φ => rfl⟩
  have hWm : (S, listOf wl.toArray 0) ∈ (S, listOf wl.toArray 0) :: (colA, listOf cvs.toArray nn) :: news := .head _
  have hCm : (colA, listOf cvs.toArray nn) ∈ (S, listOf wl.toArray 0) :: (colA, listOf cvs.toArray nn) :: news := .tail _ (.head _)
  have hNm : ∀ p ∈ news, p ∈ (S, listOf wl.toArray 0) :: (colA, listOf cvs.toArray nn) :: news := fun p hp => .tail _ (.tail _ hp)
  generalize (S, listOf wl.toArray 0) :: (colA, listOf cvs.toArray nn) :: news = tl0 at N5 hOk hWm hCm hNm
  obtain ⟨cols, hcols⟩ : ∃ cols, cols = [c0, c1, c2, c3] := ⟨_, rfl⟩
  rw [← hcols] at hc hci
  have hcl : cols.length = 4 := by rw [hcols]; rfl
  clear N4 N3 F3 k4
  with_unfolding_all refine' iter_rangeG (n := 4) (WayJ w ds tl0 (wps1 S colA) (fun i j φ => waysR (cols.take i).reverse j φ)) (by rfl) R4 ?sm ?rn F4 N5 ?kj ?_ ?_
  case sm => decide
  case rn => rfl
  case kj => exact ⟨by kst_all, os, rfl, by simpa using hDO⟩
  focus
    rintro k tv m₁ news₁ h tk own I hk ⟨hp1, os1, rfl, hH1⟩ hoffI hown hIo hIn F5 N5
    replace F5 := kst_fr (ps := wps1 S colA) (m₀ := m₁) (stored := []) (x := Str.ofString "k") hp1 (fun _ _ _ _ => rfl) F5
    dsimp only [kstB, wps1] at F5
    have ek : (0 : Int) + (k : Int) * 1 = (k : Int) := by rw [Int.mul_one, Int.zero_add]
    rw [ek] at F5
    rw [wayL_app] at N5
    have hOk1 := hOk.app hoffI hown
    have hWm1 : (S, listOf wl.toArray 0) ∈ tl0 ++ own := List.mem_append_left _ hWm
    have hCm1 : (colA, listOf cvs.toArray nn) ∈ tl0 ++ own := List.mem_append_left _ hCm
    generalize hT1 : tl0 ++ own = tl1 at N5 hOk1 hWm1 hCm1
    obtain ⟨pre, hpre⟩ : ∃ pre, pre = (cols.take k).reverse := ⟨_, rfl⟩
    obtain ⟨c, hcc⟩ : ∃ c, c = cols.getD k 0 := ⟨_, rfl⟩
    have hc6 : c ≤ 6 := hcc ▸ hc k hk
    obtain ⟨tc, hct⟩ := intsAt (k := k) hci (by simpa [hcl] using hk)
    have hck : cvs[(k : Int).toNat]? = some (.int (c : Int) tc) := by
      have e9 : (cols.map fun n : Nat => (n : Int)).getD k 0 = (c : Int) := by
        rw [hcc]; simp [List.getD_eq_getElem?_getD, List.getElem?_map, List.getElem?_eq_getElem (hcl ▸ hk : k < cols.length)]
      rw [e9] at hct
      simpa using hct
    (try dsimp only at hH1)
    rw [← hpre] at hH1
    have hpl : pre.length = k := by rw [hpre, List.length_reverse, List.length_take, hcl]; exact Nat.min_eq_left (Nat.le_of_lt hk)
    show wpAny _ _ _ _ _ _
    (try k_fold)
    (repeat' ((fail_if_success (with_reducible show wpAny _ _ (PySem.pyIter _) _ _ _)); (fail_if_success (with_reducible show wpAny _ _ (PySem.exec (PySem.Stmt.While _ _ _ _) _) _ _ _)); first | ((fail_if_success (fail_if_success (with_reducible show wpAny _ _ _ _ _ (PySem.Shared.mk _ (PySem.Shared.gens (PySem.Shared.mk _ _ _ _ _)) _ _ _)))); dsimp only) | (k_unfold; (try dsimp only)) | (k_end; wrow_close) | walk1 | (dsimp only; walk1) | (leave1; walk_say "STEP leave1"; try dsimp only) | fail "no step"))
    rename_i h5 tk5 t5 u5 v5 R5 F6 N6 _
    with_unfolding_all refine' iter_rangeG (n := k + 1) (WayJ w ds tl1 (wps2 S colA k tv) (fun i j φ => if k + 2 ≤ j + i then waysR (c :: pre) j φ else waysR pre j φ)) (by rfl) R5 (range_down hk).1 (range_down hk).2 F6 N6 ?kj ?_ ?_
    case kj => exact ⟨by kst_all, os1, rfl, fun j hj => by
      obtain ⟨c9, q1, q2, q3⟩ := hH1 j hj
      refine ⟨c9, q1, q2, fun φ => ?_⟩
      rw [q3]
      (try dsimp only)
      split
      · rw [waysR_over _ _ _ (by rw [hpl]; (first | lia | omega)), waysR_over _ _ _ (by simp [hpl]; (first | lia | omega))]
      · rfl⟩
    focus
      clear F6 N6
      rintro i tg m₂ news₂ h6 tk6 own2 I2 hi ⟨hp2, os2, rfl, hH2⟩ hoffI2 hown2 hIo2 hIn2 F7 N7
      replace F7 := kst_fr (ps := wps2 S colA k tv) (m₀ := m₂) (stored := []) (x := Str.ofString "given") hp2 (fun _ _ _ _ => rfl) F7
      dsimp only [kstB, wps2, wps1] at F7
      obtain ⟨g, hg⟩ : ∃ g, k = g + i := ⟨k - i, (Nat.sub_add_cancel (Nat.le_of_lt_succ hi)).symm⟩
      have eg : (k : Int) + (i : Int) * (-1) = (g : Int) := by (first | lia | omega)
      rw [eg] at F7
      rw [wayL_app] at N7
      have hOk2 := hOk1.app hoffI2 hown2
      have hWm2 : (S, listOf wl.toArray 0) ∈ tl1 ++ own2 := List.mem_append_left _ hWm1
      have hCm2 : (colA, listOf cvs.toArray nn) ∈ tl1 ++ own2 := List.mem_append_left _ hCm1
      generalize hT2 : tl1 ++ own2 = tl2 at N7 hOk2 hWm2 hCm2
      have hW2 : (S, listOf wl.toArray 0) ∈ wayL ds os2 tl2 := wayL_tl hWm2
      have hg4 : g < 4 := Nat.lt_of_le_of_lt (hg ▸ Nat.le_add_right g i) hk
      have hg5 : g < 5 := Nat.lt_succ_of_lt hg4
      have hg15 : g + 1 < 5 := Nat.succ_lt_succ hg4
      have hwg : wl[(g : Int).toNat]? = some (.ref (ds g)) := wl_at hwl hg5 (Int.toNat_natCast g)
      show wpAny _ _ _ _ _ _
      (try k_fold)
      (repeat' ((fail_if_success (with_reducible show wpAny _ _ (PySem.pyIter _) _ _ _)); (fail_if_success (with_reducible show wpAny _ _ (PySem.exec (PySem.Stmt.While _ _ _ _) _) _ _ _)); first | ((fail_if_success (fail_if_success (with_reducible show wpAny _ _ _ _ _ (PySem.Shared.mk _ (PySem.Shared.gens (PySem.Shared.mk _ _ _ _ _)) _ _ _)))); dsimp only) | (k_unfold; (try dsimp only)) | (k_end; wrow_close) | walk1 | (dsimp only; walk1) | (leave1; walk_say "STEP leave1"; try dsimp only) | fail "no step"))
      obtain ⟨cg, ⟨kvs, hdg, hfg⟩, hmg, hsg⟩ := hH2 g hg5
      obtain ⟨hkl, hka⟩ := flat_at cg hfg
      have vg : ∀ φ, wsum cg φ = waysR pre g φ := fun φ => by
        rw [hsg]; dsimp only; rw [if_neg (by (first | lia | omega))]
      have vg1 : Held w (os2 (g + 1)) (waysR pre (g + 1)) := by
        obtain ⟨c9, q1, q2, q3⟩ := hH2 (g + 1) hg15
        exact ⟨c9, q1, q2, fun φ => by rw [q3]; dsimp only; rw [if_neg (by (first | lia | omega))]⟩
      (rename Fr _ _ _ _ => F8)
      with_unfolding_all refine' iter_dictG (WayU w ds tl2 (wps3 S colA k tv g tg) os2 g (fun i φ => waysR pre (g + 1) φ + wsum (cg.take i) fun m => stepT φ m c)) (by rfl) (hOk2.2.1 g hg5) (wayL_mem hg5) hdg F8 N7 ?kj ?_ ?_
      case kj =>
        refine ⟨by kst_all, os2 (g + 1), ?_, ?_⟩
        · congr 1; funext z; simp only [upd5]; split <;> simp [*]
        · obtain ⟨c9, q1, q2, q3⟩ := vg1
          exact ⟨c9, q1, q2, fun φ => by rw [q3]; simp [wsum]⟩
      focus
        rintro it mk mv tx m₃ news₃ h8 tk8 own3 I3 hit ⟨hp3, o3, rfl, hH3⟩ hoffI3 hown3 hIo3 hIn3 F9 N9
        obtain ⟨n, tn, rfl, hcg⟩ := hka it mk mv hit
        have hmk := hmg.2 (mk, n) (List.mem_of_getElem? hcg)
        have hhas : kdfHas cg mk = true := (has_iff cg mk).mpr (List.mem_map.mpr ⟨_, List.mem_of_getElem? hcg, rfl⟩)
        have hlook : kdfLook cg mk 0 = n := look_at cg mk n hmg.1 (List.mem_of_getElem? hcg)
        have hgm : (ds g, os2 g) ∈ wayL ds (upd5 os2 (g + 1) o3) tl2 := by
          have := wayL_mem (ds := ds) (os := upd5 os2 (g + 1) o3) (tl := tl2) (j := g) hg5
          simpa [upd5] using this
        obtain ⟨own4, ho4, ho5⟩ := own_split N9 hgm hown3
        replace N9 : News _ _ _ (wayL ds (upd5 os2 (g + 1) o3) (tl2 ++ own4)) := kst_newsOf N9 (fun p hp => by
          rw [← wayL_app] at hp
          rcases List.mem_append.mp hp with hp | hp
          · exact List.mem_append_left _ hp
          · exact List.mem_append_right _ (ho4 p hp).2)
        have hOk3 := hOk2.app hoffI3 (fun p hp => (ho4 p hp).1)
        have hWm3 : (S, listOf wl.toArray 0) ∈ tl2 ++ own4 := List.mem_append_left _ hWm2
        have hCm3 : (colA, listOf cvs.toArray nn) ∈ tl2 ++ own4 := List.mem_append_left _ hCm2
        generalize hT3 : tl2 ++ own4 = tl3 at N9 hOk3 hWm3 hCm3
        have hC3 : (colA, listOf cvs.toArray nn) ∈ wayL ds (upd5 os2 (g + 1) o3) tl3 := wayL_tl hCm3
        replace F9 := kst_fr (ps := wps3 S colA k tv g tg) (m₀ := m₃) (stored := []) (x := Str.ofString "taken") hp3 (fun _ _ _ _ => rfl) F9
        dsimp only [kstB, wps3, wps2, wps1] at F9
        show wpAny _ _ _ _ _ _
        (try k_fold)
        (repeat' ((fail_if_success (with_reducible show wpAny _ _ (PySem.pyIter _) _ _ _)); (fail_if_success (with_reducible show wpAny _ _ (PySem.exec (PySem.Stmt.While _ _ _ _) _) _ _ _)); first | ((fail_if_success (fail_if_success (with_reducible show wpAny _ _ _ _ _ (PySem.Shared.mk _ (PySem.Shared.gens (PySem.Shared.mk _ _ _ _ _)) _ _ _)))); dsimp only) | (k_unfold; (try dsimp only)) | (k_end; wrow_close) | walk1 | (dsimp only; walk1) | (leave1; walk_say "STEP leave1"; try dsimp only) | fail "no step"))
        rename_i h10 tk10 t10 u10 v10 R10 F10 N10 _
        with_unfolding_all refine' iter_rangeG (n := c) (WayU w ds tl3 (wps4 S colA k tv g tg mk tx) os2 g (fun s φ => (waysR pre (g + 1) φ + wsum (cg.take it) fun m => stepT φ m c) + n * stepT φ mk.toNat s)) (by rfl) R10 (range_up hc6).1 (range_up hc6).2 F10 N10 ?kj ?_ ?_
        case kj =>
          refine ⟨by kst_all, o3, rfl, ?_⟩
          obtain ⟨c9, q1, q2, q3⟩ := hH3
          exact ⟨c9, q1, q2, fun φ => by rw [q3]; simp [stepT]⟩
        focus
          clear F10 N10
          rintro s4 ts m₄ news₄ h11 tk11 own6 I4 hs4 ⟨hp4, o4, rfl, hH4⟩ hoffI4 hown4 hIo4 hIn4 F11 N11
          replace F11 := kst_fr (ps := wps4 S colA k tv g tg mk tx) (m₀ := m₄) (stored := []) (x := Str.ofString "seat") hp4 (fun _ _ _ _ => rfl) F11
          dsimp only [kstB, wps4, wps3, wps2, wps1] at F11
          have es : (0 : Int) + (s4 : Int) * 1 = (s4 : Int) := by rw [Int.mul_one, Int.zero_add]
          rw [es] at F11
          rw [wayL_app] at N11
          have hOk4 := hOk3.app hoffI4 hown4
          have hWm4 : (S, listOf wl.toArray 0) ∈ tl3 ++ own6 := List.mem_append_left _ hWm3
          generalize hT4 : tl3 ++ own6 = tl4 at N11 hOk4 hWm4
          have hW4 : (S, listOf wl.toArray 0) ∈ wayL ds (upd5 os2 (g + 1) o4) tl4 := wayL_tl hWm4
          have hG4 : (ds g, os2 g) ∈ wayL ds (upd5 os2 (g + 1) o4) tl4 := by
            have := wayL_mem (ds := ds) (os := upd5 os2 (g + 1) o4) (tl := tl4) (j := g) hg5
            simpa [upd5] using this
          have hG5 : (ds (g + 1), o4) ∈ wayL ds (upd5 os2 (g + 1) o4) tl4 := by
            have := wayL_mem (ds := ds) (os := upd5 os2 (g + 1) o4) (tl := tl4) (j := g + 1) hg15
            simpa [upd5] using this
          obtain ⟨c4, ⟨kv4, hd4, hf4⟩, hm4, hv4⟩ := hH4
          have hlo1 := hOk4.2.1 g hg5
          have hlo2 := hOk4.2.1 (g + 1) hg15
          have hwg1 : wl[((g : Int) + 1).toNat]? = some (.ref (ds (g + 1))) := wl_at hwl hg15 rfl
          have hcl4 := hm4.len
          show wpAny _ _ _ _ _ _
          (try k_fold)
          (repeat' ((fail_if_success (with_reducible show wpAny _ _ (PySem.pyIter _) _ _ _)); (fail_if_success (with_reducible show wpAny _ _ (PySem.exec (PySem.Stmt.While _ _ _ _) _) _ _ _)); first | ((fail_if_success (fail_if_success (with_reducible show wpAny _ _ _ _ _ (PySem.Shared.mk _ (PySem.Shared.gens (PySem.Shared.mk _ _ _ _ _)) _ _ _)))); dsimp only) | (k_unfold; (try dsimp only)) | (k_end; wrow_close) | walk1 | (dsimp only; walk1) | (leave1; walk_say "STEP leave1"; try dsimp only) | fail "no step"))
          focus
            dsimp only [GPost]
            (rename PyProof.V.FlatPairs _ _ _ => hf12); (rename Obj.IsDictOf _ _ _ => hd12); (rename News _ _ _ _ => N12); (rename Fr _ _ _ _ => F12)
            rw [upd5_idem] at N12
            refine ⟨_, _, _, _, rfl, F12, ?_, wayL_off hoffI4, by kst_all, _, rfl, seat_held hm4 hv4 hmk.1 hmk.2 (Nat.lt_of_lt_of_le hs4 hc6) (by assumption) hlook hd12 hf12⟩
            rw [wayL_app, hT4]
            exact N12
          focus
            dsimp only [GPost]
            (rename News _ _ _ _ => N12); (rename Fr _ _ _ _ => F12)
            refine ⟨_, _, _, _, rfl, F12, ?_, wayL_off hoffI4, by kst_all, _, rfl, seat_skip hm4 hv4 hmk.1 (by assumption) hd4 hf4⟩
            rw [wayL_app, hT4]
            exact N12
        rintro m₄ news₄ h11 tk11 ⟨hp4, o4, rfl, hH4⟩ F11 N11
        replace F11 := kst_frOut (ps := wps4 S colA k tv g tg mk tx) (m₀ := m₄) (stored := []) (x := Str.ofString "seat") hp4 (fun _ _ _ _ => rfl) F11
        dsimp only [kstB, wps4, wps3, wps2, wps1] at F11
        (try dsimp only)
        (repeat' ((fail_if_success (with_reducible show wpAny _ _ (PySem.pyIter _) _ _ _)); (fail_if_success (with_reducible show wpAny _ _ (PySem.exec (PySem.Stmt.While _ _ _ _) _) _ _ _)); first | ((fail_if_success (fail_if_success (with_reducible show wpAny _ _ _ _ _ (PySem.Shared.mk _ (PySem.Shared.gens (PySem.Shared.mk _ _ _ _ _)) _ _ _)))); dsimp only) | (k_unfold; (try dsimp only)) | (k_end; wrow_close) | walk1 | (dsimp only; walk1) | (leave1; walk_say "STEP leave1"; try dsimp only) | fail "no step"))
        dsimp only [GPost]
        (rename News _ _ _ _ => N12); (rename Fr _ _ _ _ => F12)
        refine ⟨_, _, _, _, rfl, F12, kst_newsOf N12 (fun p hp => ?_), wayL_off hoffI3, by kst_all, o4, rfl, ?_⟩
        · rcases List.mem_append.mp hp with hp | hp
          · rw [← hT3, ← wayL_app]; exact List.mem_append_left _ hp
          · rcases ho5 p hp with hp | rfl
            · rw [← hT3, ← wayL_app]; exact List.mem_append_right _ hp
            · have := wayL_mem (ds := ds) (os := upd5 os2 (g + 1) o4) (tl := tl3) (j := g) hg5
              simpa [upd5] using this
        · obtain ⟨c9, q1, q2, q3⟩ := hH4
          refine ⟨c9, q1, q2, fun φ => ?_⟩
          rw [q3]; dsimp only; rw [wsum_take hcg fun m => stepT φ m c]; exact Int.add_assoc _ _ _
      rintro m₃ news₃ h8 tk8 ⟨hp3, o3, rfl, hH3⟩ F9 N9
      replace F9 := kst_frOut (ps := wps3 S colA k tv g tg) (m₀ := m₃) (stored := []) (x := Str.ofString "taken") hp3 (fun _ _ _ _ => rfl) F9
      dsimp only [kstB, wps3, wps2, wps1] at F9
      (try dsimp only)
      (repeat' ((fail_if_success (with_reducible show wpAny _ _ (PySem.pyIter _) _ _ _)); (fail_if_success (with_reducible show wpAny _ _ (PySem.exec (PySem.Stmt.While _ _ _ _) _) _ _ _)); first | ((fail_if_success (fail_if_success (with_reducible show wpAny _ _ _ _ _ (PySem.Shared.mk _ (PySem.Shared.gens (PySem.Shared.mk _ _ _ _ _)) _ _ _)))); dsimp only) | (k_unfold; (try dsimp only)) | (k_end; wrow_close) | walk1 | (dsimp only; walk1) | (leave1; walk_say "STEP leave1"; try dsimp only) | fail "no step"))
      dsimp only [GPost]
      (rename News _ _ _ _ => N12); (rename Fr _ _ _ _ => F12)
      refine ⟨_, _, _, wayL ds (upd5 os2 (g + 1) o3) tl1, rfl, F12, ?_, wayL_off hoffI2, by kst_all, upd5 os2 (g + 1) o3, rfl, ?_⟩
      · rw [wayL_app, hT2]; exact N12
      · intro j hj
        (try dsimp only)
        by_cases ej : j = g + 1
        · subst ej
          obtain ⟨c9, q1, q2, q3⟩ := hH3
          simp only [upd5, if_pos]
          refine ⟨c9, q1, q2, fun φ => ?_⟩
          rw [q3, hkl]
          (try dsimp only)
          rw [List.take_length, vg, if_pos (by (first | lia | omega))]
          rfl
        · obtain ⟨c9, q1, q2, q3⟩ := hH2 j hj
          simp only [upd5, if_neg ej]
          refine ⟨c9, q1, q2, fun φ => ?_⟩
          rw [q3]
          (try dsimp only)
          by_cases hq : k + 2 ≤ j + i
          · rw [if_pos hq, if_pos (by (first | lia | omega))]
          · rw [if_neg hq, if_neg (by (first | lia | omega))]
    rintro m₂ news₂ h6 tk6 ⟨hp2, os2, rfl, hH2⟩ F7 N7
    replace F7 := kst_frOut (ps := wps2 S colA k tv) (m₀ := m₂) (stored := []) (x := Str.ofString "given") hp2 (fun _ _ _ _ => rfl) F7
    dsimp only [kstB, wps2, wps1] at F7
    (try dsimp only)
    (repeat' ((fail_if_success (with_reducible show wpAny _ _ (PySem.pyIter _) _ _ _)); (fail_if_success (with_reducible show wpAny _ _ (PySem.exec (PySem.Stmt.While _ _ _ _) _) _ _ _)); first | ((fail_if_success (fail_if_success (with_reducible show wpAny _ _ _ _ _ (PySem.Shared.mk _ (PySem.Shared.gens (PySem.Shared.mk _ _ _ _ _)) _ _ _)))); dsimp only) | (k_unfold; (try dsimp only)) | (k_end; wrow_close) | walk1 | (dsimp only; walk1) | (leave1; walk_say "STEP leave1"; try dsimp only) | fail "no step"))
    dsimp only [GPost]
    (rename News _ _ _ _ => N12); (rename Fr _ _ _ _ => F12)
    refine ⟨_, _, _, wayL ds os2 tl0, rfl, F12, ?_, wayL_off hoffI, by kst_all, os2, rfl, ?_⟩
    · rw [wayL_app, hT1]; exact N12
    · intro j hj
      have e9 : (cols.take (k + 1)).reverse = c :: pre := by
        have hk' : k < cols.length := hcl ▸ hk
        rw [List.take_add_one, List.getElem?_eq_getElem hk', List.reverse_append, hpre, hcc, List.getD_eq_getElem?_getD, List.getElem?_eq_getElem hk']
        rfl
      obtain ⟨c9, q1, q2, q3⟩ := hH2 j hj
      refine ⟨c9, q1, q2, fun φ => ?_⟩
      rw [q3]
      (try dsimp only)
      rw [e9]
      split
      · rfl
      · obtain rfl : j = 0 := by (first | lia | omega)
        rfl
  rintro m₁ news₁ h tk ⟨hp1, os1, rfl, hH1⟩ F5 N5
  replace F5 := kst_frOut (ps := wps1 S colA) (m₀ := m₁) (stored := []) (x := Str.ofString "k") hp1 (fun _ _ _ _ => rfl) F5
  dsimp only [kstB, wps1] at F5
  (try dsimp only at hH1)
  rw [List.take_of_length_le (by (first | lia | omega))] at hH1
  (try dsimp only)
  (repeat' ((fail_if_success (with_reducible show wpAny _ _ (PySem.pyIter _) _ _ _)); (fail_if_success (with_reducible show wpAny _ _ (PySem.exec (PySem.Stmt.While _ _ _ _) _) _ _ _)); first | ((fail_if_success (fail_if_success (with_reducible show wpAny _ _ _ _ _ (PySem.Shared.mk _ (PySem.Shared.gens (PySem.Shared.mk _ _ _ _ _)) _ _ _)))); dsimp only) | (k_unfold; (try dsimp only)) | (k_end; wrow_close) | walk1 | (dsimp only; walk1) | (leave1; walk_say "STEP leave1"; try dsimp only) | fail "no step"))
  refine listComp_C (by k_asm) (by rfl) (by rfl) (by decide) (by rfl) (by decide) (fun _ _ => rfl) ?_
  (repeat' ((fail_if_success (with_reducible show wpAny _ _ (PySem.pyIter _) _ _ _)); (fail_if_success (with_reducible show wpAny _ _ (PySem.exec (PySem.Stmt.While _ _ _ _) _) _ _ _)); first | ((fail_if_success (fail_if_success (with_reducible show wpAny _ _ _ _ _ (PySem.Shared.mk _ (PySem.Shared.gens (PySem.Shared.mk _ _ _ _ _)) _ _ _)))); dsimp only) | (k_unfold; (try dsimp only)) | (k_end; wrow_close) | walk1 | (dsimp only; walk1) | (leave1; walk_say "STEP leave1"; try dsimp only) | fail "no step"))
  (rename News _ _ _ _ => N12); (rename Fr _ _ _ _ => F12)
  refine ⟨S, wl, 0, wayL ds os1 tl0, fun i ys _ => IntsAre ys ((List.range i).map fun j => waysR cols.reverse j fun _ => 1), rfl, rfl, F12, N12, wayL_tl hWm, by rw [hwl]; simp, fun _ _ _ _ _ h => h, .nil, ?_, ?_⟩
  · intro i ys v I oI C oC D K oK h tk E' hi hv hyl hG hoK F13 N13
    have hi5 : i < 5 := by rw [hwl] at hi; simpa using hi
    obtain rfl : v = .ref (ds i) := by
      have := wl_at hwl (i := (i : Int)) hi5 (by simp)
      rw [Int.toNat_natCast] at this
      exact Option.some.inj (hv.symm.trans this)
    obtain ⟨c9, ⟨kv9, hd9, hf9⟩, hm9, hv9⟩ := hH1 i hi5
    have hmem9 : (ds i, os1 i) ∈ (K, oK) :: (I, oI) :: (C, oC) :: (D, LCg.lst ys) :: wayL ds os1 tl0 := by simp [wayL_mem hi5]
    show wpAny _ _ _ _ _ _
    (try k_fold)
    (repeat' ((fail_if_success (with_reducible show wpAny _ _ (PySem.pyIter _) _ _ _)); (fail_if_success (with_reducible show wpAny _ _ (PySem.exec (PySem.Stmt.While _ _ _ _) _) _ _ _)); first | ((fail_if_success (fail_if_success (with_reducible show wpAny _ _ _ _ _ (PySem.Shared.mk _ (PySem.Shared.gens (PySem.Shared.mk _ _ _ _ _)) _ _ _)))); dsimp only) | (k_unfold; (try dsimp only)) | (k_end; wrow_close) | walk1 | (dsimp only; walk1) | (leave1; walk_say "STEP leave1"; try dsimp only) | fail "no step"))
    (rename News _ _ _ _ => N14); (rename Fr _ _ _ _ => F14)
    have hlo9 := hOk.2.1 i hi5
    obtain ⟨hkl9, hka9⟩ := flat_at c9 hf9
    have hcl9 := hm9.len
    refine ⟨ds i, os1 i, kv9, _, fun i ys _ => IntsAre ys ((c9.take i).map fun p : Int × Int => p.2), rfl, rfl, F14, N14, hlo9, hmem9, hd9, by (first | lia | omega), fun _ _ _ _ _ h => h, .nil, ?_, ?_⟩
    · intro i2 ys2 k2 v2 tv2 I2 oI2 C2 oC2 D2 h2 tk2 E2 m₂ hi2 hyl2 hG2 hoC2 hmx2 F15 N15
      obtain ⟨n2, tn2, rfl, hcg2⟩ := hka9 i2 k2 v2 hi2
      have hhas2 : kdfHas c9 k2 = true := (has_iff c9 k2).mpr (List.mem_map.mpr ⟨_, List.mem_of_getElem? hcg2, rfl⟩)
      have hlook2 : kdfLook c9 k2 0 = n2 := look_at c9 k2 n2 hm9.1 (List.mem_of_getElem? hcg2)
      have hmem8 : (ds i, os1 i) ∈ (I2, oI2) :: (C2, oC2) :: (D2, LCg.lst ys2) :: (K, oK) :: (I, oI) :: (C, oC) :: (D, LCg.lst ys) :: wayL ds os1 tl0 := .tail _ (.tail _ (.tail _ hmem9))
      show wpAny _ _ _ _ _ _
      (try k_fold)
      (repeat' ((fail_if_success (with_reducible show wpAny _ _ (PySem.pyIter _) _ _ _)); (fail_if_success (with_reducible show wpAny _ _ (PySem.exec (PySem.Stmt.While _ _ _ _) _) _ _ _)); first | ((fail_if_success (fail_if_success (with_reducible show wpAny _ _ _ _ _ (PySem.Shared.mk _ (PySem.Shared.gens (PySem.Shared.mk _ _ _ _ _)) _ _ _)))); dsimp only) | (k_unfold; (try dsimp only)) | (k_end; wrow_close) | walk1 | (dsimp only; walk1) | (leave1; walk_say "STEP leave1"; try dsimp only) | fail "no step"))
      refine ⟨_, _, rfl, by k_asm, by k_asm, fun _ => ?_⟩
      rw [hlook2, List.take_add_one, hcg2, List.map_append]
      exact hG2.append (.cons _ _ .nil)
    · intro D2 ys2 h2 tk2 hyl2 hG2 F15 N15 hoD2
      (try dsimp only)
      (repeat' ((fail_if_success (with_reducible show wpAny _ _ (PySem.pyIter _) _ _ _)); (fail_if_success (with_reducible show wpAny _ _ (PySem.exec (PySem.Stmt.While _ _ _ _) _) _ _ _)); first | ((fail_if_success (fail_if_success (with_reducible show wpAny _ _ _ _ _ (PySem.Shared.mk _ (PySem.Shared.gens (PySem.Shared.mk _ _ _ _ _)) _ _ _)))); dsimp only) | (k_unfold; (try dsimp only)) | (k_end; wrow_close) | walk1 | (dsimp only; walk1) | (leave1; walk_say "STEP leave1"; try dsimp only) | fail "no step"))
      (rename News _ _ _ _ => N16)
      refine ⟨_, _, rfl, by k_asm, kst_newsOf N16 (fun p hp => .tail _ hp), fun _ => ?_⟩
      rw [List.range_succ, List.map_append]
      refine hG.append ?_
      have e9 : (List.map (fun p : Int × Int => p.2) (List.take kv9.length c9)).sum = waysR cols.reverse i fun _ => 1 := by
        refine Eq.trans ?_ (hv9 fun _ => 1)
        rw [hkl9, List.take_length]
        simp [wsum]
      rw [e9]
      exact .cons _ _ .nil
  · intro D ys h2 tk2 hyl2 hG2 F13 N13 hD
    rw [show wl.length = 5 by rw [hwl]; simp, hcols] at hG2
    (try dsimp only)
    (repeat' ((fail_if_success (with_reducible show wpAny _ _ (PySem.pyIter _) _ _ _)); (fail_if_success (with_reducible show wpAny _ _ (PySem.exec (PySem.Stmt.While _ _ _ _) _) _ _ _)); first | ((fail_if_success (fail_if_success (with_reducible show wpAny _ _ _ _ _ (PySem.Shared.mk _ (PySem.Shared.gens (PySem.Shared.mk _ _ _ _ _)) _ _ _)))); dsimp only) | (k_unfold; (try dsimp only)) | (k_end; wrow_close) | walk1 | (dsimp only; walk1) | (leave1; walk_say "STEP leave1"; try dsimp only) | fail "no step"))
    exact hret _ _ _ _ ⟨D, ys, _, rfl, rfl, hG2, fun p hp => hD p (wayL_tl (hNm p hp))⟩ (by k_asm) (kst_newsOf (by k_asm) fun p hp => by
      rcases List.mem_cons.mp hp with rfl | hp
      · exact .head _
      · exact .tail _ (wayL_tl (hNm p hp)))
theorem Ctr.useY {P : List Value → Prop} {n0 : List (Addr × Obj)} {d : Nat} {w : World} {f : Addr} {vs : List Value} {news : List (Addr × Obj)} {kw : List (Str × Value)} {Hb : Heap → Prop}
    {loose : List Str} {mean : ExcName → Option Value} {mg mb : Str → Option Value} {dp un : Nat} {gd : Option (List Code)} {cn : Str} {cs : Scope} {a : Addr} {ccd : Value} {cl : List (Str × Addr)} {outer : List Env} {A₀ : Around} {base h₀ : Heap} {L : Addr} {m : Str → Option Value} {h1 : Heap} {gn : Array GenState} {dr : Drawn} {t1 : Nat} {os : OsState} {Q E : Value → Shared → Prop}
    (S : Ctr d w f vs news (fun r n' _ => ∃ (D : Addr) (ys : List Value) (nd : Nat), r = .ref D ∧ n' = (D, listOf ys.toArray nd) :: n0 ∧ P ys ∧ ∀ p ∈ n0, p.1 ≠ D) kw Hb) (B : Below A₀ base outer h₀) (F : Fr h₀ L h1 m) (X : (Mine.hd.heap_39 w.params).In h₀) (N : News h₀ L h1 news) (T : Top topProg loose mean mg mb h₀) (hk : cs.kind = .function)
    (hb : Hb base) (hd : dp + d < recursionLimit) (hu : un + 8 * d < cLine)
    (ret : ∀ h' tk' (D : Addr) (ys : List Value) (nd : Nat), P ys → (∀ p ∈ n0, p.1 ≠ D) → Fr h₀ L h' m → News h₀ L h' ((D, listOf ys.toArray nd) :: n0) → Q (.ref D) ⟨h', gn, dr, tk', os⟩) :
    wpAny (model PySem.Challenge.rw_sw0054_01.row.prog w) (ktrTop dp un gd cn cs L a ccd cl outer) (call (.ref f) vs kw) Q E ⟨h1, gn, dr, t1, os⟩ :=
  Ctr.use S B F X N T hk hb hd hu (by rintro v n h tk hle ⟨D, ys, nd, rfl, rfl, hp, hq⟩ F N; exact ret h tk D ys nd hp hq F N)
end

-- part S12
section
noncomputable def leadOf (d : Int) : Str := (if (d.fdiv 3).fmod 2 = 1 then spaces (d.fmod 3) ++ Str.ofString "\t" else spaces (d.fmod 3)) ++ spaces ((d.fdiv 6).fmod 3)
theorem fmod3 (d : Int) : 0 ≤ d.fmod 3 ∧ d.fmod 3 < 3 := by
  rw [Int.fmod_eq_emod_of_nonneg _ (by decide)]; (first | lia | omega)
theorem lead_ok (d : Int) : (spaces (d.fmod 3)).length ≤ 3 ∧ (spaces ((d.fdiv 6).fmod 3)).length ≤ 3 ∧ (spaces (d.fmod 3) ++ Str.ofString "\t").length ≤ 4 ∧ (leadOf d).length ≤ 50 ∧ (leadOf d).cps.all (· < 128) = true := by
  have h1 := fmod3 d
  have h2 := fmod3 (d.fdiv 6)
  have s1 := spaces_ok h1.1 (Int.lt_trans h1.2 (by decide))
  have s2 := spaces_ok h2.1 (Int.lt_trans h2.2 (by decide))
  have e1 : (Str.ofString "\t").length ≤ 1 := by decide +kernel
  have e2 : (Str.ofString "\t").cps.all (· < 128) = true := by decide +kernel
  have s3 : (spaces (d.fmod 3) ++ Str.ofString "\t").length ≤ 4 := Nat.le_trans (Nat.le_of_eq (app_len _ _)) (Nat.add_le_add s1.1 e1)
  refine ⟨s1.1, s2.1, s3, ?_, ?_⟩
  · unfold leadOf
    rw [app_len]
    split
    · exact Nat.le_trans (Nat.add_le_add s3 s2.1) (by decide)
    · exact Nat.le_trans (Nat.add_le_add s1.1 s2.1) (by decide)
  · unfold leadOf
    rw [app_all, s2.2]
    split
    · rw [app_all, s1.2, e2]; rfl
    · rw [s1.2]; rfl
section
theorem lead_spec (w : World) (d : Int) (td : Tok) (news : List (Addr × Obj)) :
    Ctr 4 w 161 [.int d td] news (fun r n' _ => (∃ t, r = .str (leadOf d) t) ∧ n' = news) := by
  have q1 := fmod3 d
  have q2 := fmod3 (d.fdiv 6)
  obtain ⟨w1, w2, w3, w4, w5⟩ := lead_ok d
  have w1' : (Txt.mul (Str.ofString " ") (d.fmod 3)).length ≤ 100 := Nat.le_trans w1 (by decide)
  have w2' : (Txt.mul (Str.ofString " ") ((d.fdiv 6).fmod 3)).length ≤ 100 := Nat.le_trans w2 (by decide)
  have w3' : (Txt.mul (Str.ofString " ") (d.fmod 3) ++ Str.ofString "\t").length ≤ 100 := Nat.le_trans w3 (by decide)
  have w6 : (Str.ofString "\t").length ≤ 100 := by decide +kernel
  w_top off
  k_with_none
  k_with "eval Name" => (k_here; k_dflt (refine' nameX_L ?z0F ?z0v ?_ ?z0a ?z0b; (case z0F => k_asm); (case z0a => rfl); (case z0b => rfl); (case z0v => exact Eq.refl (some _)); k_whole))
  k_with "exec For Name Attribute cons nil" => (k_here; (with_unfolding_all refine' For_invVF ?z1kF ?z1k1 ?z1k2 ?_; (case z1kF => assumption); (case z1k1 => exact rfl); (case z1k2 => exact rfl); k_whole))
  k_with "exec For Name Name cons nil" => (k_here; (with_unfolding_all refine' For_invVF ?z2kF ?z2k1 ?z2k2 ?_; (case z2kF => assumption); (case z2k1 => exact rfl); (case z2k2 => exact rfl); k_whole))
  k_with "call builtin:len" => (k_here; (with_reducible show wpAny _ _ (call (Value.builtin "len") [Value.ref _]) _ _ _); k_dflt (refine' kst_len ?z3k1 ?z3k2 ?z3k3 ?z3k4 ?_; (case z3k1 => k_asm); (case z3k2 => k_mem); (case z3k3 => first | exact IntsAre.length (by assumption) | assumption); (case z3k4 => (first | lia | omega)); k_whole))
  k_with "call ref" => (k_here; k_dflt (refine' Ctr.useS (mulS_spec _ _ _ _ _ ?z4c1 ?z4c2) ?z4k1 ?z4k2 ?z4k3 ?z4k4 ?z4k5 ?z4kK ?z4kb ?z4kd ?z4ku ?_; (case z4k1 => k_asm); (case z4k2 => k_asm); (case z4k3 => k_asm); (case z4k4 => k_asm); (case z4k5 => k_asm); (case z4c1 => (first | lia | omega)); (case z4c2 => (first | lia | omega)); (case z4kK => first | exact rfl | assumption); (case z4kb => first | exact trivial | assumption); (case z4kd => ktr_room); (case z4ku => ktr_units)); (intro _ _ _ _ _); (try dsimp only); (try k_fold); (try k_sweep))
  k_with "call ref" => (k_here; k_dflt (refine' Ctr.useS (concat_spec _ _ _ _ _ _ ?z5c1 ?z5c2) ?z5k1 ?z5k2 ?z5k3 ?z5k4 ?z5k5 ?z5kK ?z5kb ?z5kd ?z5ku ?_; (case z5k1 => k_asm); (case z5k2 => k_asm); (case z5k3 => k_asm); (case z5k4 => k_asm); (case z5k5 => k_asm); (case z5c1 => assumption); (case z5c2 => assumption); (case z5kK => first | exact rfl | assumption); (case z5kb => first | exact trivial | assumption); (case z5kd => ktr_room); (case z5ku => ktr_units)); (intro _ _ _ _ _); (try dsimp only); (try k_fold); (try k_sweep))
  unfold Ctr
  k_fill
  intro loose mean mg mb dp un gd cn cs a₉ ccd cl outer A₀ base h₀ L₉ m₉ s Q E B₉ F₉ X₉ N₉ T₉ hk hb₉ hd₉ hu₉ hret
  refine wpAny_call ?_
  k_dflt cell_enter
  k_with_none
  k_with "eval Name" => (k_here; k_dflt (refine' nameX_L ?z0F ?z0v ?_ ?z0a ?z0b; (case z0F => k_asm); (case z0a => rfl); (case z0b => rfl); (case z0v => exact Eq.refl (some _)); k_whole))
  k_with "exec For Name Attribute cons nil" => (k_here; (with_unfolding_all refine' For_invVF ?z1kF ?z1k1 ?z1k2 ?_; (case z1kF => assumption); (case z1k1 => exact rfl); (case z1k2 => exact rfl); k_whole))
  k_with "exec For Name Name cons nil" => (k_here; (with_unfolding_all refine' For_invVF ?z2kF ?z2k1 ?z2k2 ?_; (case z2kF => assumption); (case z2k1 => exact rfl); (case z2k2 => exact rfl); k_whole))
  k_with "call builtin:len" => (k_here; (with_reducible show wpAny _ _ (call (Value.builtin "len") [Value.ref _]) _ _ _); k_dflt (refine' kst_len ?z3k1 ?z3k2 ?z3k3 ?z3k4 ?_; (case z3k1 => k_asm); (case z3k2 => k_mem); (case z3k3 => first | exact IntsAre.length (by assumption) | assumption); (case z3k4 => (first | lia | omega)); k_whole))
  k_with "call ref" => (k_here; k_dflt (refine' Ctr.useS (mulS_spec _ _ _ _ _ ?z4c1 ?z4c2) ?z4k1 ?z4k2 ?z4k3 ?z4k4 ?z4k5 ?z4kK ?z4kb ?z4kd ?z4ku ?_; (case z4k1 => k_asm); (case z4k2 => k_asm); (case z4k3 => k_asm); (case z4k4 => k_asm); (case z4k5 => k_asm); (case z4c1 => (first | lia | omega)); (case z4c2 => (first | lia | omega)); (case z4kK => first | exact rfl | assumption); (case z4kb => first | exact trivial | assumption); (case z4kd => ktr_room); (case z4ku => ktr_units)); (intro _ _ _ _ _); (try dsimp only); (try k_fold); (try k_sweep))
  k_with "call ref" => (k_here; k_dflt (refine' Ctr.useS (concat_spec _ _ _ _ _ _ ?z5c1 ?z5c2) ?z5k1 ?z5k2 ?z5k3 ?z5k4 ?z5k5 ?z5kK ?z5kb ?z5kd ?z5ku ?_; (case z5k1 => k_asm); (case z5k2 => k_asm); (case z5k3 => k_asm); (case z5k4 => k_asm); (case z5k5 => k_asm); (case z5c1 => assumption); (case z5c2 => assumption); (case z5kK => first | exact rfl | assumption); (case z5kb => first | exact trivial | assumption); (case z5kd => ktr_room); (case z5ku => ktr_units)); (intro _ _ _ _ _); (try dsimp only); (try k_fold); (try k_sweep))
  (repeat' ((fail_if_success (with_reducible show wpAny _ _ (PySem.pyIter _) _ _ _)); (fail_if_success (with_reducible show wpAny _ _ (PySem.exec (PySem.Stmt.While _ _ _ _) _) _ _ _)); first | ((fail_if_success (fail_if_success (with_reducible show wpAny _ _ _ _ _ (PySem.Shared.mk _ (PySem.Shared.gens (PySem.Shared.mk _ _ _ _ _)) _ _ _)))); dsimp only) | (k_unfold; (try dsimp only)) | (k_end; wrow_close) | walk1 | (dsimp only; walk1) | (leave1; walk_say "STEP leave1"; try dsimp only) | fail "no step"))
  focus
    have e9 : leadOf d = (Txt.mul (Str.ofString " ") (d.fmod 3) ++ Str.ofString "\t") ++ Txt.mul (Str.ofString " ") ((d.fdiv 6).fmod 3) := by unfold leadOf; rw [if_pos (by assumption)]; rfl
    rw [← e9]
    exact hret _ _ _ _ ⟨⟨_, rfl⟩, rfl⟩ (by k_asm) (by k_asm)
  focus
    have e9 : leadOf d = Txt.mul (Str.ofString " ") (d.fmod 3) ++ Txt.mul (Str.ofString " ") ((d.fdiv 6).fmod 3) := by unfold leadOf; rw [if_neg (by assumption)]; rfl
    rw [← e9]
    exact hret _ _ _ _ ⟨⟨_, rfl⟩, rfl⟩ (by k_asm) (by k_asm)
end
noncomputable def colL (size : Int) : Int → List Nat → Int
  | c, [] => c
  | c, ch :: r => colL size (if ch = 9 then c + (size - c.fmod size) else c + 1) r
abbrev colPs (cc : Int) (tc : Tok) (size : Int) (tz : Tok) : List (Str × Value) := [(Str.ofString "column", .int cc tc), (Str.ofString "size", .int size tz)]
inductive ColJ (xt : Str) (size : Int) (tz : Tok) (u0 : Str → Option Value) (news : List (Addr × Obj)) (i : Nat) (m : Str → Option Value) (nx : List (Addr × Obj)) : Prop
  | mk (f0 : nx = news) (cc : Int) (tc : Tok) (f1 : (∀ p ∈ colPs cc tc size tz, m p.1 = some p.2)) (f2 : colL size cc (xt.cps.toList.drop i) = colL size 0 xt.cps.toList) : ColJ xt size tz u0 news i m nx
theorem column_spec (w : World) (xt : Str) (size : Int) (tx tz : Tok) (news : List (Addr × Obj)) (hascii : xt.cps.all (· < 128) = true) (h0 : 1 ≤ size) :
    Ctr 1 w 168 [.str xt tx, .int size tz] news (fun r n' _ => (∃ t, r = .int (colL size 0 xt.cps.toList) t) ∧ n' = news) := by
  w_top off
  k_with_none
  k_with "eval Name" => (k_here; k_dflt (refine' nameX_L ?z0F ?z0v ?_ ?z0a ?z0b; (case z0F => k_asm); (case z0a => rfl); (case z0b => rfl); (case z0v => exact Eq.refl (some _)); k_whole))
  k_with "exec For Name Attribute cons nil" => (k_here; (with_unfolding_all refine' For_invVF ?z1kF ?z1k1 ?z1k2 ?_; (case z1kF => assumption); (case z1k1 => exact rfl); (case z1k2 => exact rfl); k_whole))
  k_with "exec For Name Name cons nil" => (k_here; (with_unfolding_all refine' For_invVF ?z2kF ?z2k1 ?z2k2 ?_; (case z2kF => assumption); (case z2k1 => exact rfl); (case z2k2 => exact rfl); k_whole))
  k_with "call builtin:len" => (k_here; (with_reducible show wpAny _ _ (call (Value.builtin "len") [Value.ref _]) _ _ _); k_dflt (refine' kst_len ?z3k1 ?z3k2 ?z3k3 ?z3k4 ?_; (case z3k1 => k_asm); (case z3k2 => k_mem); (case z3k3 => first | exact IntsAre.length (by assumption) | assumption); (case z3k4 => (first | lia | omega)); k_whole))
  unfold Ctr
  k_fill
  intro loose mean mg mb dp un gd cn cs a₉ ccd cl outer A₀ base h₀ L₉ m₉ s Q E B₉ F₉ X₉ N₉ T₉ hk hb₉ hd₉ hu₉ hret
  refine wpAny_call ?_
  k_dflt cell_enter
  k_with_none
  k_with "eval Name" => (k_here; k_dflt (refine' nameX_L ?z0F ?z0v ?_ ?z0a ?z0b; (case z0F => k_asm); (case z0a => rfl); (case z0b => rfl); (case z0v => exact Eq.refl (some _)); k_whole))
  k_with "exec For Name Attribute cons nil" => (k_here; (with_unfolding_all refine' For_invVF ?z1kF ?z1k1 ?z1k2 ?_; (case z1kF => assumption); (case z1k1 => exact rfl); (case z1k2 => exact rfl); k_whole))
  k_with "exec For Name Name cons nil" => (k_here; (with_unfolding_all refine' For_invVF ?z2kF ?z2k1 ?z2k2 ?_; (case z2kF => assumption); (case z2k1 => exact rfl); (case z2k2 => exact rfl); k_whole))
  k_with "call builtin:len" => (k_here; (with_reducible show wpAny _ _ (call (Value.builtin "len") [Value.ref _]) _ _ _); k_dflt (refine' kst_len ?z3k1 ?z3k2 ?z3k3 ?z3k4 ?_; (case z3k1 => k_asm); (case z3k2 => k_mem); (case z3k3 => first | exact IntsAre.length (by assumption) | assumption); (case z3k4 => (first | lia | omega)); k_whole))
  (repeat' ((fail_if_success (with_reducible show wpAny _ _ (PySem.pyIter _) _ _ _)); (fail_if_success (with_reducible show wpAny _ _ (PySem.exec (PySem.Stmt.While _ _ _ _) _) _ _ _)); first | ((fail_if_success (fail_if_success (with_reducible show wpAny _ _ _ _ _ (PySem.Shared.mk _ (PySem.Shared.gens (PySem.Shared.mk _ _ _ _ _)) _ _ _)))); dsimp only) | (k_unfold; (try dsimp only)) | (k_end; wrow_close) | walk1 | (dsimp only; walk1) | (leave1; walk_say "STEP leave1"; try dsimp only) | fail "no step"))
  with_unfolding_all refine' iter_textG (ColJ xt size tz) (by rfl) hascii ?kF ?kN ?kj ?_ ?_
  case kF => assumption
  case kN => assumption
  case kj => exact ⟨rfl, 0, _, by kst_all, rfl⟩
  focus
    rintro i ch t m₁ news₁ h tk own I hch ⟨rfl, cc, tc, h1, hsc⟩ hoff hown hIo F9 N9
    replace F9 := kst_fr (ps := colPs cc tc size tz) (m₀ := m₁) (stored := []) h1 (fun _ _ _ _ => rfl) F9
    dsimp only [kstB, colPs] at F9
    show wpAny _ _ _ _ _ _
    (try k_fold)
    (repeat' ((fail_if_success (with_reducible show wpAny _ _ (PySem.pyIter _) _ _ _)); (fail_if_success (with_reducible show wpAny _ _ (PySem.exec (PySem.Stmt.While _ _ _ _) _) _ _ _)); first | ((fail_if_success (fail_if_success (with_reducible show wpAny _ _ _ _ _ (PySem.Shared.mk _ (PySem.Shared.gens (PySem.Shared.mk _ _ _ _ _)) _ _ _)))); dsimp only) | (k_unfold; (try dsimp only)) | (k_end; wrow_close) | walk1 | (dsimp only; walk1) | (leave1; walk_say "STEP leave1"; try dsimp only) | fail "no step"))
    focus
      dsimp only [GPost]
      (rename News _ _ _ _ => N12); (rename Fr _ _ _ _ => F12)
      refine ⟨_, _, _, _, rfl, F12, N12, fun p hp q => hoff p hp (List.mem_singleton.mp q), rfl, _, _, by kst_all, ?_⟩
      have e9 : ch = 9 := by have := code_eq tab_str (by assumption); simpa using this
      have e8 := drop_at (show xt.cps.toList[i]? = some ch by simpa using hch)
      rw [← hsc, e8, colL, if_pos e9]
    focus
      dsimp only [GPost]
      (rename News _ _ _ _ => N12); (rename Fr _ _ _ _ => F12)
      refine ⟨_, _, _, _, rfl, F12, N12, fun p hp q => hoff p hp (List.mem_singleton.mp q), rfl, _, _, by kst_all, ?_⟩
      have e9 : ¬ ch = 9 := by have := code_eq tab_str (by assumption); simpa using this
      have e8 := drop_at (show xt.cps.toList[i]? = some ch by simpa using hch)
      rw [← hsc, e8, colL, if_neg e9]
  rintro m₁ news₁ h tk ⟨rfl, cc, tc, h1, hsc⟩ F9 N9
  replace F9 := kst_frOut (ps := colPs cc tc size tz) (m₀ := m₁) (stored := []) (x := Str.ofString "sign") h1 (fun _ _ _ _ => rfl) F9
  dsimp only [kstB, colPs] at F9
  rw [List.drop_eq_nil_of_le (by simp)] at hsc
  simp only [colL] at hsc
  subst hsc
  (try dsimp only)
  (repeat' ((fail_if_success (with_reducible show wpAny _ _ (PySem.pyIter _) _ _ _)); (fail_if_success (with_reducible show wpAny _ _ (PySem.exec (PySem.Stmt.While _ _ _ _) _) _ _ _)); first | ((fail_if_success (fail_if_success (with_reducible show wpAny _ _ _ _ _ (PySem.Shared.mk _ (PySem.Shared.gens (PySem.Shared.mk _ _ _ _ _)) _ _ _)))); dsimp only) | (k_unfold; (try dsimp only)) | (k_end; wrow_close) | walk1 | (dsimp only; walk1) | (leave1; walk_say "STEP leave1"; try dsimp only) | fail "no step"))
  exact hret _ _ _ _ ⟨⟨_, rfl⟩, rfl⟩ (by k_asm) (by k_asm)
end

-- part S13
section
noncomputable def drawsTo (xs : List Int) : Nat → List Int
  | 0 => [3, 5, 2, 14, 13, 7]
  | i + 1 => (drawsTo xs i).set (i % 6) ((drawsTo xs i).getD (i % 6) 0 + (xs.getD i 0).fmod 1000000)
theorem drawsTo_len (xs : List Int) : ∀ i, (drawsTo xs i).length = 6
  | 0 => rfl
  | i + 1 => by rw [drawsTo, List.length_set, drawsTo_len xs i]
theorem drawsTo_ok (xs : List Int) : ∀ i, ∀ d ∈ drawsTo xs i, 0 ≤ d ∧ d ≤ 14 + 1000000 * i
  | 0 => fun d h => (by decide : ∀ d ∈ [(3 : Int), 5, 2, 14, 13, 7], 0 ≤ d ∧ d ≤ 14) d h
  | i + 1 => fun d h => by
    rw [drawsTo] at h
    have e1 : 0 ≤ (xs.getD i 0).fmod 1000000 := Int.fmod_nonneg_of_pos _ (by decide)
    have e2 : (xs.getD i 0).fmod 1000000 < 1000000 := Int.fmod_lt_of_pos _ (by decide)
    have e3 : 14 + 1000000 * ((i + 1 : Nat) : Int) = 14 + 1000000 * (i : Int) + 1000000 := by rw [Int.natCast_add, Int.mul_add, ← Int.add_assoc]; rfl
    rw [e3]
    rcases List.mem_or_eq_of_mem_set h with h | h
    · have q := drawsTo_ok xs i d h
      exact ⟨q.1, Int.le_trans q.2 (Int.le_add_of_nonneg_right (by decide))⟩
    · have hl : i % 6 < (drawsTo xs i).length := (drawsTo_len xs i).symm ▸ Nat.mod_lt i (by decide)
      rw [List.getD_eq_getElem?_getD, List.getElem?_eq_getElem hl] at h
      have q := drawsTo_ok xs i _ (List.getElem_mem hl)
      exact h ▸ ⟨Int.add_nonneg q.1 e1, Int.add_le_add q.2 (Int.le_of_lt e2)⟩
theorem draws_le (xs : List Int) : ∀ d ∈ drawsTo xs (min xs.length 30), 0 ≤ d ∧ d ≤ 40000000 := fun d hd =>
  have q := drawsTo_ok xs _ d hd
  ⟨q.1, Int.le_trans q.2 (Int.le_trans (Int.add_le_add_left (Int.mul_le_mul_of_nonneg_left (Int.ofNat_le.mpr (Nat.min_le_right _ _)) (by decide)) 14) (by decide))⟩
inductive DrawJ (xs : List Int) (dl : Addr) (news : List (Addr × Obj)) (ps : List (Str × Value)) (i : Nat) (m : Str → Option Value) (nx : List (Addr × Obj)) : Prop
  | mk (f0 : (∀ p ∈ ps, m p.1 = some p.2)) (vs : List Value) (nn : Nat) (f1 : nx = (dl, listOf vs.toArray nn) :: news) (f2 : IntsAre vs (drawsTo xs i)) : DrawJ xs dl news ps i m nx
theorem range_any (n : Nat) (h : n ≤ 30) : Builtin.Range.small 0 (n : Int) 1 = true ∧ Builtin.Range.rangeSize 0 (n : Int) 1 = (n : Int) := by
  have key : ∀ n : Nat, n < 31 → Builtin.Range.small 0 (n : Int) 1 = true ∧ Builtin.Range.rangeSize 0 (n : Int) 1 = (n : Int) := by decide
  exact key n (by (first | lia | omega))
theorem getItem_ints {prog : Program} {w : World} {A : Around} {E : Value → Shared → Prop} {s : Shared} {h₀ : Heap} {L l : Addr} {news : List (Addr × Obj)} {vs : List Value} {ns : List Int} {n : Nat} {k : Int} {u : Tok} {Q : Value → Shared → Prop}
    (N : News h₀ L s.heap news) (hm : (l, listOf vs.toArray n) ∈ news) (hi : IntsAre vs ns) (h0 : 0 ≤ k) (h1 : k < ns.length) (h2 : k < 1000) (h : ∀ t, Q (.int (ns.getD k.toNat 0) t) s) :
    wpAny (model prog w) A (getItem (.ref l) (.int k u)) Q E s := by
  obtain ⟨t, e⟩ := intsAt hi (k := k.toNat) (by (first | lia | omega))
  have hl : s.heap.IsList l vs.toArray := ⟨_, (N _ hm).1, rfl, n, rfl⟩
  exact wpAny_getItem_list hl h0 (by (first | lia | omega)) (by simpa using e) (h t)
theorem fm0 (k : Nat) : 0 ≤ (k : Int).fmod 6 := by rw [Int.fmod_eq_emod_of_nonneg _ (by decide)]; (first | lia | omega)
theorem fmb (k : Nat) {b : Int} (hb : 6 ≤ b) : (k : Int).fmod 6 < b := by rw [Int.fmod_eq_emod_of_nonneg _ (by decide)]; (first | lia | omega)
theorem fml {k : Nat} {l : List Int} (h : l.length = 6) : (k : Int).fmod 6 < (l.length : Int) := h.symm ▸ fmb k (Int.le_refl _)
theorem nlI {k n : Nat} (h : k < n) : (k : Int) < (n : Int) := Int.ofNat_lt.mpr h
theorem draws_spec (w : World) (sl : Addr) (svs : List Value) (xs : List Int) (news : List (Addr × Obj)) (hi : IntsAre svs xs) (hlen : xs.length ≤ 63) :
    Ctr 1 w 154 [.ref sl] news (fun r n' _ => ∃ (D : Addr) (vs : List Value) (nn : Nat), r = .ref D ∧ n' = (D, listOf vs.toArray nn) :: news ∧ IntsAre vs (drawsTo xs (min xs.length 30)) ∧ ∀ p ∈ news, p.1 ≠ D) [] (fun base => base.IsList sl svs.toArray) := by
  w_top off
  k_with_none
  k_with "eval Name" => (k_here; k_dflt (refine' nameX_L ?z0F ?z0v ?_ ?z0a ?z0b; (case z0F => k_asm); (case z0a => rfl); (case z0b => rfl); (case z0v => exact Eq.refl (some _)); k_whole))
  k_with "exec For Name Attribute cons nil" => (k_here; (with_unfolding_all refine' For_invVF ?z1kF ?z1k1 ?z1k2 ?_; (case z1kF => assumption); (case z1k1 => exact rfl); (case z1k2 => exact rfl); k_whole))
  k_with "exec For Name Name cons nil" => (k_here; (with_unfolding_all refine' For_invVF ?z2kF ?z2k1 ?z2k2 ?_; (case z2kF => assumption); (case z2k1 => exact rfl); (case z2k2 => exact rfl); k_whole))
  k_with "call builtin:len" => (k_here; (with_reducible show wpAny _ _ (call (Value.builtin "len") [Value.ref _]) _ _ _); k_dflt (refine' kst_len ?z3k1 ?z3k2 ?z3k3 ?z3k4 ?_; (case z3k1 => k_asm); (case z3k2 => k_mem); (case z3k3 => first | exact IntsAre.length (by assumption) | assumption); (case z3k4 => (first | lia | omega)); k_whole))
  k_with "getItem ref int" => (k_here; k_dflt (refine' getItem_ints ?z4N ?z4m ?z4i ?z4a ?z4b ?z4c ?_; (case z4N => k_asm); (case z4m => k_mem); (case z4i => assumption); (case z4a => first | exact n0 _ | exact fm0 _ | (first | lia | omega)); (case z4b => first | exact fml (by assumption) | exact nlI (by assumption) | (first | lia | omega)); (case z4c => first | exact fmb _ (by decide) | exact nlt (by assumption) (by decide) | (first | lia | omega)); k_whole); intro _)
  k_with "setItem ref int int" => (k_here; k_dflt (refine' ksa_set ?z5k1 ?z5k2 ?z5k3 ?z5k4 ?z5k5 ?z5k6 ?z5k7 ?_; (case z5k1 => k_asm); (case z5k2 => k_asm); (case z5k3 => exact Upd.head (by assumption)); (case z5k4 => assumption); (case z5k5 => first | exact fm0 _ | (first | lia | omega)); (case z5k6 => first | exact fml (by assumption) | (first | lia | omega)); (case z5k7 => first | exact fmb _ (by decide) | (first | lia | omega)); k_whole); intro _ _ _ _ _ _)
  unfold Ctr
  k_fill
  intro loose mean mg mb dp un gd cn cs a₉ ccd cl outer A₀ base h₀ L₉ m₉ s Q E B₉ F₉ X₉ N₉ T₉ hk hb₉ hd₉ hu₉ hret
  refine wpAny_call ?_
  k_dflt cell_enter
  k_with_none
  k_with "eval Name" => (k_here; k_dflt (refine' nameX_L ?z0F ?z0v ?_ ?z0a ?z0b; (case z0F => k_asm); (case z0a => rfl); (case z0b => rfl); (case z0v => exact Eq.refl (some _)); k_whole))
  k_with "exec For Name Attribute cons nil" => (k_here; (with_unfolding_all refine' For_invVF ?z1kF ?z1k1 ?z1k2 ?_; (case z1kF => assumption); (case z1k1 => exact rfl); (case z1k2 => exact rfl); k_whole))
  k_with "exec For Name Name cons nil" => (k_here; (with_unfolding_all refine' For_invVF ?z2kF ?z2k1 ?z2k2 ?_; (case z2kF => assumption); (case z2k1 => exact rfl); (case z2k2 => exact rfl); k_whole))
  k_with "call builtin:len" => (k_here; (with_reducible show wpAny _ _ (call (Value.builtin "len") [Value.ref _]) _ _ _); k_dflt (refine' kst_len ?z3k1 ?z3k2 ?z3k3 ?z3k4 ?_; (case z3k1 => k_asm); (case z3k2 => k_mem); (case z3k3 => first | exact IntsAre.length (by assumption) | assumption); (case z3k4 => (first | lia | omega)); k_whole))
  k_with "getItem ref int" => (k_here; k_dflt (refine' getItem_ints ?z4N ?z4m ?z4i ?z4a ?z4b ?z4c ?_; (case z4N => k_asm); (case z4m => k_mem); (case z4i => assumption); (case z4a => first | exact n0 _ | exact fm0 _ | (first | lia | omega)); (case z4b => first | exact fml (by assumption) | exact nlI (by assumption) | (first | lia | omega)); (case z4c => first | exact fmb _ (by decide) | exact nlt (by assumption) (by decide) | (first | lia | omega)); k_whole); intro _)
  k_with "setItem ref int int" => (k_here; k_dflt (refine' ksa_set ?z5k1 ?z5k2 ?z5k3 ?z5k4 ?z5k5 ?z5k6 ?z5k7 ?_; (case z5k1 => k_asm); (case z5k2 => k_asm); (case z5k3 => exact Upd.head (by assumption)); (case z5k4 => assumption); (case z5k5 => first | exact fm0 _ | (first | lia | omega)); (case z5k6 => first | exact fml (by assumption) | (first | lia | omega)); (case z5k7 => first | exact fmb _ (by decide) | (first | lia | omega)); k_whole); intro _ _ _ _ _ _)
  (repeat' ((fail_if_success (with_reducible show wpAny _ _ (PySem.pyIter _) _ _ _)); (fail_if_success (with_reducible show wpAny _ _ (PySem.exec (PySem.Stmt.While _ _ _ _) _) _ _ _)); first | ((fail_if_success (fail_if_success (with_reducible show wpAny _ _ _ _ _ (PySem.Shared.mk _ (PySem.Shared.gens (PySem.Shared.mk _ _ _ _ _)) _ _ _)))); dsimp only) | (k_unfold; (try dsimp only)) | (k_end; wrow_close) | walk1 | (dsimp only; walk1) | (leave1; walk_say "STEP leave1"; try dsimp only) | fail "no step"))
  rename_i dl _ hlt _ _ _ _ _ _ _ _ _ _ _ R4 F4 N4 _
  have hlt' : ∀ p ∈ news, p.1 < dl := hlt
  have en : (if 30 < (xs.length : Int) then (30 : Int) else xs.length) = ((min xs.length 30 : Nat) : Int) := by split <;> (first | lia | omega)
  rw [en] at R4
  obtain ⟨c, hc⟩ : ∃ c, c = min xs.length 30 := ⟨_, rfl⟩
  rw [← hc] at R4
  with_unfolding_all refine' iter_rangeG (n := c) (DrawJ xs dl news [(Str.ofString "draws", .ref dl), (Str.ofString "script", .ref sl)]) (by rfl) R4 (range_any c (by (first | lia | omega))).1 (range_any c (by (first | lia | omega))).2 F4 N4 ?kj ?_ ?_
  case kj => exact ⟨by kst_all, _, _, rfl, .cons _ _ (.cons _ _ (.cons _ _ (.cons _ _ (.cons _ _ (.cons _ _ .nil)))))⟩
  focus
    rintro k tv m₁ news₁ h tk own I hk ⟨hp1, vs, nn, rfl, hI1⟩ hoffI hown hIo hIn F5 N5
    replace F5 := kst_fr (m₀ := m₁) (stored := []) (x := Str.ofString "place") hp1 (fun _ _ _ _ => rfl) F5
    dsimp only [kstB] at F5
    have ek : (0 : Int) + (k : Int) * 1 = (k : Int) := by rw [Int.mul_one, Int.zero_add]
    rw [ek] at F5
    have hk6 : (k : Int).fmod 6 = ((k % 6 : Nat) : Int) := by rw [Int.fmod_eq_emod_of_nonneg _ (by decide)]; (first | lia | omega)
    have hl6 := drawsTo_len xs k
    have hkx : k < xs.length := by (first | lia | omega)
    have hk30 : k < 30 := by (first | lia | omega)
    have hkx : (k : Int) < xs.length := by (first | lia | omega)
    simp only [List.cons_append] at N5
    have hrest : ∀ p ∈ news ++ own, p.1 ≠ dl := fun p hp => by
      rcases List.mem_append.mp hp with hp | hp
      · exact Nat.ne_of_lt (hlt' p hp)
      · rw [hown p hp]; exact Ne.symm (hoffI _ (.head _))
    show wpAny _ _ _ _ _ _
    (try k_fold)
    (repeat' ((fail_if_success (with_reducible show wpAny _ _ (PySem.pyIter _) _ _ _)); (fail_if_success (with_reducible show wpAny _ _ (PySem.exec (PySem.Stmt.While _ _ _ _) _) _ _ _)); first | ((fail_if_success (fail_if_success (with_reducible show wpAny _ _ _ _ _ (PySem.Shared.mk _ (PySem.Shared.gens (PySem.Shared.mk _ _ _ _ _)) _ _ _)))); dsimp only) | (k_unfold; (try dsimp only)) | (k_end; wrow_close) | walk1 | (dsimp only; walk1) | (leave1; walk_say "STEP leave1"; try dsimp only) | fail "no step"))
    dsimp only [GPost]
    (rename News _ _ _ _ => N12); (rename Fr _ _ _ _ => F12)
    refine ⟨_, _, _, _, rfl, F12, N12, fun p hp q => ?_, by kst_all, _, _, rfl, ?_⟩
    · rcases List.mem_cons.mp hp with rfl | hp
      · exact hoffI _ (.head _) (List.mem_singleton.mp q)
      · exact hoffI p (.tail _ hp) (List.mem_singleton.mp q)
    · have e9 : drawsTo xs (k + 1) = (drawsTo xs k).set ((k : Int).fmod 6).toNat ((drawsTo xs k).getD ((k : Int).fmod 6).toNat 0 + (xs.getD (k : Int).toNat 0).fmod 1000000) := by
        rw [hk6, Int.toNat_natCast, Int.toNat_natCast]; rfl
      rw [e9]
      assumption
  rintro m₁ news₁ h tk ⟨hp1, vs, nn, rfl, hI1⟩ F5 N5
  replace F5 := kst_frOut (m₀ := m₁) (stored := []) (x := Str.ofString "place") hp1 (fun _ _ _ _ => rfl) F5
  dsimp only [kstB] at F5
  (try dsimp only)
  (repeat' ((fail_if_success (with_reducible show wpAny _ _ (PySem.pyIter _) _ _ _)); (fail_if_success (with_reducible show wpAny _ _ (PySem.exec (PySem.Stmt.While _ _ _ _) _) _ _ _)); first | ((fail_if_success (fail_if_success (with_reducible show wpAny _ _ _ _ _ (PySem.Shared.mk _ (PySem.Shared.gens (PySem.Shared.mk _ _ _ _ _)) _ _ _)))); dsimp only) | (k_unfold; (try dsimp only)) | (k_end; wrow_close) | walk1 | (dsimp only; walk1) | (leave1; walk_say "STEP leave1"; try dsimp only) | fail "no step"))
  exact hret _ _ _ _ ⟨dl, vs, nn, rfl, rfl, hc ▸ hI1, fun p hp => Nat.ne_of_lt (hlt' p hp)⟩ (by k_asm) (by k_asm)
theorem Ctr.weaken {d : Nat} {w : World} {f : Addr} {vs : List Value} {news : List (Addr × Obj)} {P P' : Value → List (Addr × Obj) → Nat → Prop} {kw : List (Str × Value)} {Hb : Heap → Prop} (S : Ctr d w f vs news P kw Hb) (h : ∀ v n tk, P v n tk → P' v n tk) : Ctr d w f vs news P' kw Hb :=
  fun a1 a2 a3 a4 a5 a6 a7 a8 a9 a10 a11 a12 a13 a14 a15 a16 a17 a18 a19 a20 a21 b1 b2 b3 b4 b5 b6 b7 b8 b9 ret => S a1 a2 a3 a4 a5 a6 a7 a8 a9 a10 a11 a12 a13 a14 a15 a16 a17 a18 a19 a20 a21 b1 b2 b3 b4 b5 b6 b7 b8 b9 fun v n h' tk hp => ret v n h' tk (h v n tk hp)
theorem ints6 {vs : List Value} {ns : List Int} (h : IntsAre vs ns) (hl : ns.length = 6) : ∃ d0 d1 d2 d3 d4 d5 t0 t1 t2 t3 t4 t5, ns = [d0, d1, d2, d3, d4, d5] ∧ vs = [.int d0 t0, .int d1 t1, .int d2 t2, .int d3 t3, .int d4 t4, .int d5 t5] :=
  ints_next h hl fun d0 t0 _ _ e0 f0 h l => ints_next h l fun d1 t1 _ _ e1 f1 h l => ints_next h l fun d2 t2 _ _ e2 f2 h l => ints_next h l fun d3 t3 _ _ e3 f3 h l => ints_next h l fun d4 t4 _ _ e4 f4 h l => ints_next h l fun d5 t5 _ _ e5 f5 h l =>
    ⟨d0, d1, d2, d3, d4, d5, t0, t1, t2, t3, t4, t5, cons_eq e0 (cons_eq e1 (cons_eq e2 (cons_eq e3 (cons_eq e4 (cons_eq e5 (List.eq_nil_of_length_eq_zero l)))))), cons_eq f0 (cons_eq f1 (cons_eq f2 (cons_eq f3 (cons_eq f4 (cons_eq f5 (List.eq_nil_of_length_eq_zero (h.length.trans l)))))))⟩
inductive Draws6 (P : Int → Prop) (n0 : List (Addr × Obj)) (r : Value) (n' : List (Addr × Obj)) : Prop
  | mk (D : Addr) (d0 d1 d2 d3 d4 d5 : Int) (t0 t1 t2 t3 t4 t5 : Tok) (nn : Nat) (f0 : r = .ref D) (f1 : n' = (D, listOf #[.int d0 t0, .int d1 t1, .int d2 t2, .int d3 t3, .int d4 t4, .int d5 t5] nn) :: n0) (f2 : ∀ d ∈ [d0, d1, d2, d3, d4, d5], P d) : Draws6 P n0 r n'
theorem draws_spec6 (w : World) (sl : Addr) (svs : List Value) (xs : List Int) (news : List (Addr × Obj)) (hi : IntsAre svs xs) (hlen : xs.length ≤ 63) :
    Ctr 1 w 154 [.ref sl] news (fun r n' _ => Draws6 (fun d => 0 ≤ d ∧ d ≤ 40000000) news r n') [] (fun base => base.IsList sl svs.toArray) :=
  (draws_spec w sl svs xs news hi hlen).weaken fun v n tk ⟨D, vs, nn, e1, e2, hI, _⟩ => by
    obtain ⟨d0, d1, d2, d3, d4, d5, t0, t1, t2, t3, t4, t5, ens, rfl⟩ := ints6 hI (drawsTo_len _ _)
    refine ⟨D, d0, d1, d2, d3, d4, d5, t0, t1, t2, t3, t4, t5, nn, e1, e2, fun d hd => ?_⟩
    exact draws_le xs d (ens ▸ hd)
theorem Ctr.useD {P : Int → Prop} {n0 : List (Addr × Obj)} {d : Nat} {w : World} {f : Addr} {vs : List Value} {news : List (Addr × Obj)} {kw : List (Str × Value)} {Hb : Heap → Prop}
    {loose : List Str} {mean : ExcName → Option Value} {mg mb : Str → Option Value} {dp un : Nat} {gd : Option (List Code)} {cn : Str} {cs : Scope} {a : Addr} {ccd : Value} {cl : List (Str × Addr)} {outer : List Env} {A₀ : Around} {base h₀ : Heap} {L : Addr} {m : Str → Option Value} {h1 : Heap} {gn : Array GenState} {dr : Drawn} {t1 : Nat} {os : OsState} {Q E : Value → Shared → Prop}
    (S : Ctr d w f vs news (fun r n' _ => Draws6 P n0 r n') kw Hb) (B : Below A₀ base outer h₀) (F : Fr h₀ L h1 m) (X : (Mine.hd.heap_39 w.params).In h₀) (N : News h₀ L h1 news) (T : Top topProg loose mean mg mb h₀) (hk : cs.kind = .function)
    (hb : Hb base) (hd : dp + d < recursionLimit) (hu : un + 8 * d < cLine)
    (ret : ∀ h' tk' (D : Addr) (d0 d1 d2 d3 d4 d5 : Int) (t0 t1 t2 t3 t4 t5 : Tok) (nn : Nat), (∀ d ∈ [d0, d1, d2, d3, d4, d5], P d) → Fr h₀ L h' m → News h₀ L h' ((D, listOf #[.int d0 t0, .int d1 t1, .int d2 t2, .int d3 t3, .int d4 t4, .int d5 t5] nn) :: n0) → Q (.ref D) ⟨h', gn, dr, tk', os⟩) :
    wpAny (model PySem.Challenge.rw_sw0054_01.row.prog w) (ktrTop dp un gd cn cs L a ccd cl outer) (call (.ref f) vs kw) Q E ⟨h1, gn, dr, t1, os⟩ :=
  Ctr.use S B F X N T hk hb hd hu (by rintro v n h tk hle ⟨D, d0, d1, d2, d3, d4, d5, u0, u1, u2, u3, u4, u5, nn, rfl, rfl, hp⟩ F N; exact ret h tk D d0 d1 d2 d3 d4 d5 u0 u1 u2 u3 u4 u5 nn hp F N)
end

-- part L7
section
inductive TInv (h₀ : Heap) (L : Addr) (wr : List Addr) (St : Nat → Heap → Prop) (J : Nat → (Str → Option Value) → List (Addr × Obj) → Prop) (n : Nat) (s₂ : Shared) (k : Nat) (s' : Shared) : Prop
  | mk (h' : Heap) (tk : Nat) (m' : Str → Option Value) (news' : List (Addr × Obj)) (i : Nat) (f0 : s' = { s₂ with heap := h', toks := tk }) (f1 : s₂.toks ≤ tk) (f2 : St i h') (f3 : Fr h₀ L h' m') (f4 : News h₀ L h' news') (f5 : ∀ p ∈ news', p.1 ∉ wr) (f6 : J i m' news') (f7 : i ≤ n) (f8 : k = n + 1 - i) : TInv h₀ L wr St J n s₂ k s'
section
variable {prog : Program} {w : World} {A : Around} {E : Value → Shared → Prop} {s : Shared} {env : Env} {h₀ : Heap} {target : PySem.Expr} {body : List Stmt} {Q : Flow → Shared → Prop}
/-- the turns of a for, whatever its target, told with the tokens -/
inductive TurnsT (prog : Program) (w : World) (A : Around) (h₀ : Heap) (env : Env) (target : PySem.Expr) (body : List Stmt) (Q : Flow → Shared → Prop) (E : Value → Shared → Prop) (it : Value) (s₂ : Shared) : Prop
  | mk (I : Addr) (fp wr : List Addr) (n : Nat) (P Md : Nat → Value → Heap → Prop) (St : Nat → Heap → Prop) (m : Str → Option Value) (news : List (Addr × Obj)) (J : Nat → (Str → Option Value) → List (Addr × Obj) → Prop) (f0 : it = .ref I) (f1 : KTurns prog w A target I fp wr n P Md St) (f2 : env.locals ∉ fp) (f3 : (∀ b ∈ wr, h₀.get? b = none)) (f4 : (∀ p ∈ news, p.1 ∉ wr)) (f5 : St 0 s₂.heap) (f6 : Fr h₀ env.locals s₂.heap m) (f7 : News h₀ env.locals s₂.heap news) (f8 : J 0 m news) (f9 : (∀ i v m₁ news₁ h tk own, s₂.toks ≤ tk → i < n → P i v h → J i m₁ news₁ → (∀ p ∈ news₁, p.1 ∉ wr) → (∀ p ∈ own, p.1 ∈ fp) → (∀ b ∈ fp, h₀.get? b = none → ∀ o, h.get? b = some o → (b, o) ∈ own) → St (i + 1) h → Fr h₀ env.locals h m₁ → News h₀ env.locals h (news₁ ++ own) → wpAny (model prog w) A (assign target env v) (fun _ s₃ => wpAny (model prog w) A (execs body env) (GPost h₀ env.locals wr own (J (i + 1)) { s₂ with heap := h, toks := tk } Q) E s₃) E { s₂ with heap := h, toks := tk })) (f10 : ∀ h' tk m' news', s₂.toks ≤ tk → J n m' news' → Fr h₀ env.locals h' m' → News h₀ env.locals h' news' → Q .next { s₂ with heap := h', toks := tk }) : TurnsT prog w A h₀ env target body Q E it s₂
theorem for_T {iter : PySem.Expr} {pos : Pos} {m : Str → Option Value} (_F : Fr h₀ env.locals s.heap m)
    (h : wpAny (model prog w) A (eval iter env) (fun xv s₁ => wpAny (model prog w) A (pyIter xv) (fun it s₂ => TurnsT prog w A h₀ env target body Q E it s₂) E s₁) E s)
    (hs : ∀ x, foldedSetIterable iter env x = pure x := by intro _; rfl)
    (hE : PassesOwn (model prog w) A env E := by passes_own) :
    wpAny (model prog w) A (exec (.For target iter body [] pos) env) Q E s := by
  refine wpAny_For (wpAny_mono h (fun xv s₁ h₁ => wpAny_mono h₁ (fun it s₂ h₂ => ?_) fun _ _ e => e) fun _ _ e => e) hs
  obtain ⟨I, fp, wr, n, P, Md, St, m, news, J, rfl, W, hLf, hwr, hnw, hst, F, N, h0, step, hQ⟩ := h₂
  have hLw : env.locals ∉ wr := fun h => hLf (W.sub _ h)
  have old : ∀ b o, h₀.get? b = some o → b ∉ wr := fun b o e hb => by rw [hwr b hb] at e; cases e
  refine codeAny_forLoop_any
    (TInv h₀ env.locals wr St J n s₂) ?_ (n + 1)
    ⟨s₂.heap, s₂.toks, m, news, 0, rfl, Nat.le_refl _, hst, F, N, hnw, h0, Nat.zero_le _, rfl⟩
  rintro k s' ⟨h', tk, m', news', i, rfl, htk, hst', F', N', hnw', hJ, hi, rfl⟩
  have next : ∀ h₁ : Heap, (∀ b o, b ∉ wr → h'.get? b = some o → h₁.get? b = some o) → Fr h₀ env.locals h₁ m' ∧ News h₀ env.locals h₁ news' := fun h₁ hk₁ =>
    ⟨⟨F'.ns.at' fun o e => hk₁ _ o hLw e, fun b o e => hk₁ b o (old b o e) (F'.keep b o e), F'.above⟩, fun p hp => ⟨hk₁ _ _ (hnw' p hp) (N' p hp).1, (N' p hp).2⟩⟩
  by_cases hlt : i < n
  · refine wpAny_with_toks htk (W.item i _ _ _ hlt hst' fun v h₁ tk₁ hMd hk₁ htk₁ => ?_)
    refine W.go i v _ _ _ hMd fun h₂ hP hst₂ hk₂ => ?_
    obtain ⟨F₂, N₂⟩ := next h₂ fun b o hb x => hk₂ b o hb (hk₁ b o hb x)
    have Nown : News h₀ env.locals h₂ (PyProof.Rows.ownOf h₀ fp h₂) := news_ownOf hLf
    have st := step i v m' news' h₂ tk₁ (PyProof.Rows.ownOf h₀ fp h₂) htk₁ hlt hP hJ hnw' ownOf_sub (fun b hb hn o e => mem_ownOf hb hn e) hst₂ F₂ (N₂.append Nown)
    refine wpAny_with_toks htk₁ (wpAny_mono (wpAny_mono st (fun _ _ x => wpAny_passesOwn hE x) hE) (fun _ s₃ h₃ hle₃ => wpAny_with_toks hle₃ (wpAny_mono h₃ (fun f s₄ h₄ hle₄ => ?_) fun _ _ e _ => e)) fun _ _ e _ => e)
    have turned : GEnd h₀ env.locals wr (PyProof.Rows.ownOf h₀ fp h₂) (J (i + 1)) { s₂ with heap := h₂, toks := tk₁ } s₄ → ∃ k' < n + 1 - i, TInv h₀ env.locals wr St J n s₂ k' s₄ := by
      rintro ⟨h₃', tk₃, m₂, news₂, rfl, F₃, N₃, ha₃, hJ₃⟩
      refine ⟨n + 1 - (i + 1), dec_lt hlt, h₃', tk₃, m₂, news₂, i + 1, rfl, hle₄, ?_, F₃, fun p hp => N₃ p (List.mem_append_left _ hp), ha₃, hJ₃, hlt, rfl⟩
      refine W.frame _ _ _ hst₂ fun b hb o e => ?_
      cases hn : h₀.get? b with
      | some o₀ =>
        have : o₀ = o := by have q := F₂.keep b o₀ hn; rw [e] at q; exact (Option.some.inj q).symm
        exact this ▸ F₃.keep b o₀ hn
      | none => exact (N₃ _ (List.mem_append_right _ (mem_ownOf hb hn e))).1
    cases f with
    | ret v => exact h₄
    | brk => exact h₄
    | cont => exact turned h₄
    | next => exact turned h₄
  · have hin : i = n := by (first | lia | omega)
    subst hin
    refine wpAny_with_toks htk (W.done _ _ _ hst' fun h₁ tk₁ hk₁ htk₁ => wpAny_execs_nil ?_)
    obtain ⟨F₁, N₁⟩ := next h₁ hk₁
    exact hQ h₁ tk₁ m' news' htk₁ hJ F₁ N₁
/-- a range, any target, with the tokens -/
theorem turns_range {x : Str} {px : Pos} {r : Addr} {a b c : Int} {t u v : Tok} {n : Nat} {m₀ : Str → Option Value} {news : List (Addr × Obj)} (J : Nat → (Str → Option Value) → List (Addr × Obj) → Prop)
    (hh : A.handled = none) (hr : IsRange s.heap r a b c t u v) (hsm : Builtin.Range.small a b c = true) (hn : Builtin.Range.rangeSize a b c = (n : Int)) (Fm : Fr h₀ env.locals s.heap m₀) (N : News h₀ env.locals s.heap news) (hj : J 0 m₀ news)
    (turn : ∀ i tv m₁ news₁ h tk own I, s.toks ≤ tk → i < n → J i m₁ news₁ → (∀ p ∈ news₁, p.1 ≠ I) → (∀ p ∈ own, p.1 = I) → (∃ o, (I, o) ∈ own) → Fr h₀ env.locals h m₁ → News h₀ env.locals h (news₁ ++ own) →
      wpAny (model prog w) A (assign (.Name x px) env (.int (a + i * c) tv)) (fun _ s₃ => wpAny (model prog w) A (execs body env) (GPost h₀ env.locals [I] own (J (i + 1)) { s with heap := h, toks := tk } Q) E s₃) E { s with heap := h, toks := tk })
    (done : ∀ m₁ news₁ h tk, s.toks ≤ tk → J n m₁ news₁ → Fr h₀ env.locals h m₁ → News h₀ env.locals h news₁ → Q .next { s with heap := h, toks := tk }) :
    wpAny (model prog w) A (pyIter (.ref r)) (fun it s₂ => TurnsT prog w A h₀ env (.Name x px) body Q E it s₂) E s := by
  refine wpAny_pyIter_range hr hsm ?_
  have Fm' := next_is_new Fm
  refine ⟨_, _, _, _, _, _, _, m₀, news, J, rfl, KTurns.ofWalks (Walks.range hh s.heap.objs.size a c n) (fun i v s Q E _ hq => wpAny_pure hq), ?_, ?_, ?_, ?_, Fm.push _, (fun p hp => ⟨Heap.get?_push_of_some _ (N p hp).1, (N p hp).2⟩), hj, ?_, fun h' tk m' news' hle hJ F N => done m' news' h' tk hle hJ F N⟩
  · intro hm
    exact absurd Fm.ns.lt ((List.mem_singleton.mp hm) ▸ Nat.lt_irrefl _)
  · intro b' hb
    rw [List.mem_singleton.mp hb]
    exact Fm'
  · intro p hp hI
    exact absurd (Heap.lt_size (N p hp).1) ((List.mem_singleton.mp hI) ▸ Nat.lt_irrefl _)
  · show IsRangeIter _ _ _ _ _
    rw [hn]
    simpa using Heap.get?_push_size _ rfl
  · rintro i v m₁ news₁ h tk own hle hi ⟨tv, rfl⟩ hJ hoff hown hall hst F₁ N₁
    obtain ⟨o, ho⟩ : ∃ o, h.get? s.heap.objs.size = some o := ⟨_, hst⟩
    exact turn i tv m₁ news₁ h tk own _ hle hi hJ (fun p hp e => hoff p hp (List.mem_singleton.mpr e)) (fun p hp => List.mem_singleton.mp (hown p hp)) ⟨o, hall _ (.head _) Fm' o ho⟩ F₁ N₁
/-- a list of the ledger, any target, with the tokens -/
theorem turns_list {x : Str} {px : Pos} {l : Addr} {vs : List Value} {nn : Nat} {m₀ : Str → Option Value} {news : List (Addr × Obj)} (J : Nat → (Str → Option Value) → List (Addr × Obj) → Prop)
    (hh : A.handled = none) (hl : (l, listOf vs.toArray nn) ∈ news) (Fm : Fr h₀ env.locals s.heap m₀) (N : News h₀ env.locals s.heap news) (hj : J 0 m₀ news)
    (turn : ∀ i v m₁ news₁ h tk own I, s.toks ≤ tk → vs[i]? = some v → J i m₁ news₁ → (∀ p ∈ news₁, p.1 ≠ I) → (∀ p ∈ own, p.1 = I ∨ p.1 = l) → (∃ o k, (I, o) ∈ own ∧ o.data = .fields #[.ref l, .int k 0]) → (∀ p ∈ news, p.1 < I) → Fr h₀ env.locals h m₁ → News h₀ env.locals h (news₁ ++ own) →
      wpAny (model prog w) A (assign (.Name x px) env v) (fun _ s₃ => wpAny (model prog w) A (execs body env) (GPost h₀ env.locals [I] own (J (i + 1)) { s with heap := h, toks := tk } Q) E s₃) E { s with heap := h, toks := tk })
    (done : ∀ m₁ news₁ h tk, s.toks ≤ tk → J vs.length m₁ news₁ → Fr h₀ env.locals h m₁ → News h₀ env.locals h news₁ → Q .next { s with heap := h, toks := tk }) :
    wpAny (model prog w) A (pyIter (.ref l)) (fun it s₂ => TurnsT prog w A h₀ env (.Name x px) body Q E it s₂) E s := by
  have hg := N _ hl
  have hls : s.heap.IsList l vs.toArray := ⟨_, hg.1, rfl, nn, rfl⟩
  have hlt : l < s.heap.objs.size := Heap.lt_size hg.1
  have Fm' := next_is_new Fm
  refine wpAny_pyIter_list hls ?_
  have W := Walks.list (prog := prog) (w := w) hh s.heap.objs.size l (Nat.ne_of_lt hlt) vs.toArray
  rw [List.size_toArray] at W
  refine ⟨_, _, _, _, _, _, _, m₀, news, J, rfl, KTurns.ofWalks W (fun i v s Q E _ hq => wpAny_pure hq), ?_, ?_, ?_, ⟨⟨_, Heap.get?_push_size _ rfl, rfl, rfl⟩, hls.at fun o e => Heap.get?_push_of_some _ e⟩, Fm.push _, (fun p hp => ⟨Heap.get?_push_of_some _ (N p hp).1, (N p hp).2⟩), hj, ?_, fun h' tk m' news' hle hJ F N => done m' news' h' tk hle hJ F N⟩
  · intro hm
    rcases List.mem_cons.mp hm with e | hm
    · exact absurd Fm.ns.lt (e ▸ Nat.lt_irrefl _)
    · exact hg.2.1 (List.mem_singleton.mp hm).symm
  · intro b hb
    rw [List.mem_singleton.mp hb]
    exact Fm'
  · intro p hp hI
    exact absurd (Heap.lt_size (N p hp).1) ((List.mem_singleton.mp hI) ▸ Nat.lt_irrefl _)
  · rintro i v m₁ news₁ h tk own hle hi hv hJ hoff hown hall hst F₁ N₁
    obtain ⟨o, ho, -, hod⟩ := hst.1
    refine turn i v m₁ news₁ h tk own _ hle (by simpa using hv) hJ (fun p hp e => hoff p hp (List.mem_singleton.mpr e)) (fun p hp => ?_) ⟨o, _, hall _ (.head _) Fm' o ho, hod⟩ (fun p hp => Heap.lt_size (N p hp).1) F₁ N₁
    rcases List.mem_cons.mp (hown p hp) with e | e
    · exact .inl e
    · exact .inr (List.mem_singleton.mp e)
end
end

-- part S15
section
theorem Ctr.conv {d : Nat} {w : World} {f : Addr} {vs : List Value} {news led : List (Addr × Obj)} {P P' : Value → List (Addr × Obj) → Nat → Prop} {kw : List (Str × Value)} {Hb : Heap → Prop} (S : Ctr d w f vs news P kw Hb) (hs : ∀ p ∈ news, p ∈ led)
    (h : ∀ v n tk, P v n tk → ∀ (h₀ h' : Heap) (L : Addr), News h₀ L h' n → ∃ n2, P' v n2 tk ∧ ∀ p ∈ n2, p ∈ n) : Ctr d w f vs led P' kw Hb :=
  fun a1 a2 a3 a4 a5 a6 a7 a8 a9 a10 a11 a12 a13 a14 a15 a16 a17 a18 a19 a20 a21 b1 b2 b3 b4 b5 b6 b7 b8 b9 ret => S a1 a2 a3 a4 a5 a6 a7 a8 a9 a10 a11 a12 a13 a14 a15 a16 a17 a18 a19 a20 a21 b1 b2 b3 (fun p hp => b4 p (hs p hp)) b5 b6 b7 b8 b9 fun v n h' tk hp hF hN => by
    obtain ⟨n2, hp2, hs2⟩ := h v n tk hp _ _ _ hN
    exact ret v n2 h' tk hp2 hF fun p hp => hN p (hs2 p hp)
theorem news_inj {h₀ h : Heap} {L a : Addr} {n : List (Addr × Obj)} {o o' : Obj} (N : News h₀ L h n) (h1 : (a, o) ∈ n) (h2 : (a, o') ∈ n) : o = o' :=
  Option.some.inj ((N _ h1).1.symm.trans (N _ h2).1)
noncomputable def lawLed (sh : Addr) (shv : List Value) (nn : Nat) (tps : Array Value) (S1 S2 : Addr) (o1 o2 : Obj) (T : List (Addr × Obj)) : List (Addr × Obj) :=
  (sh, listOf shv.toArray nn) :: (182, tabObj tps) :: (S2, o1) :: (S1, o2) :: T
inductive RowL (sh S1 S2 : Addr) (shv : List Value) (nn : Nat) (o1 o2 : Obj) (T : List (Addr × Obj)) (P : List Int → Prop) (r : Value) (n' : List (Addr × Obj)) (tk : Nat) : Prop
  | mk (R : Addr) (ys : List Value) (ks : List Int) (nR : Nat) (tps' : Array Value) (T' : List (Addr × Obj)) (f0 : r = .ref R) (f1 : n' = lawLed sh shv nn tps' S1 S2 o1 o2 T') (f2 : (R, listOf ys.toArray nR) ∈ T') (f3 : ∀ p ∈ T, p ∈ T') (f4 : TabOk tps' T') (f5 : OwnOff T' [sh, 182, S2, S1]) (f6 : IntsAre ys ks) (f7 : Sorted ks) (f8 : P ks) (f9 : ∀ i t, .int i t ∈ ys → t ≠ 0 ∧ t < tk) : RowL sh S1 S2 shv nn o1 o2 T P r n' tk
theorem row_law (w : World) (sh S1 S2 ll : Addr) (shv : List Value) (nn : Nat) (tps : Array Value) (o1 o2 : Obj) (v1 v2 : Option Value) (T : List (Addr × Obj)) (Lv : List Value) (ls : List Str) (c : Nat) (size few : Int) (tz tf : Tok)
    (ho1 : o1.data = .cell v1) (ho2 : o2.data = .cell v2) (hsh : sh ≠ (182 : Nat)) (hS1 : S1 ≠ (182 : Nat)) (hS2 : S2 ≠ (182 : Nat)) (hT : TabOk tps T) (hoff : OwnOff T [sh, 182, S2, S1]) (hl : (ll, listOf Lv.toArray c) ∈ T)
    (hLv : TextsAre Lv ls) (hls : ls.length ≤ 20) (hlen : ∀ lt ∈ ls, lt.length ≤ 50) (hasc : ∀ lt ∈ ls, lt.cps.all (· < 128) = true) (h0 : 1 ≤ size) (h1 : size ≤ 4) (h2 : 0 ≤ few) (h3 : few < 4) :
    Ctr 9 w 185 [.ref ll, .int size tz, .int few tf] (lawLed sh shv nn tps S1 S2 o1 o2 T) (fun r n' tk => RowL sh S1 S2 shv nn o1 o2 T (fun ks => ks.Perm (ls.map (levOf size few))) r n' tk) [] (fun base => CodeHd base 184 182) := by
  have hll : ll ≠ (182 : Nat) := fun e => hoff _ hl 182 (.tail _ (.head _)) e
  refine (row_spec w ll Lv ls c size few tz tf tps ((sh, listOf shv.toArray nn) :: (S2, o1) :: (S1, o2) :: T) (hT.mono fun p hp => .tail _ (.tail _ (.tail _ hp))) ?_ hll hLv hls hlen hasc h0 h1 h2 h3).conv ?_ ?_
  · intro p hp b hb
    obtain rfl := List.mem_singleton.mp hb
    simp only [List.mem_cons] at hp
    rcases hp with rfl | rfl | rfl | hp
    · exact hsh
    · exact hS2
    · exact hS1
    · exact hoff p hp _ (.tail _ (.head _))
  · intro p hp
    simp only [List.mem_cons] at hp
    simp only [lawLed, List.mem_cons]
    rcases hp with h | h | h | h | h | h
    · exact .inr (.inl h)
    · subst h; exact .inr (.inr (.inr (.inr hl)))
    · exact .inl h
    · exact .inr (.inr (.inl h))
    · exact .inr (.inr (.inr (.inl h)))
    · exact .inr (.inr (.inr (.inr h)))
  · rintro v n tk ⟨R, ys, ks, nR, tps', tl, rfl, rfl, hT', hsub, hI, hS, hP, hO, hR, htk⟩ h₀ h' L N
    have m1 : (sh, listOf shv.toArray nn) ∈ tl := hsub _ (.tail _ (.head _))
    have m2 : (S2, o1) ∈ tl := hsub _ (.tail _ (.tail _ (.head _)))
    have m3 : (S1, o2) ∈ tl := hsub _ (.tail _ (.tail _ (.tail _ (.head _))))
    have mT : ∀ p ∈ T, p ∈ tl := fun p hp => hsub p (.tail _ (.tail _ (.tail _ (.tail _ hp))))
    have oR : ∀ p ∈ tl, p.1 ≠ R := fun p hp => hO p hp R (.head _)
    have o182 : ∀ p ∈ tl, p.1 ≠ (182 : Nat) := fun p hp => hO p hp 182 (.tail _ (.head _))
    have hRoff : OwnOff [(R, listOf ys.toArray nR)] [sh, 182, S2, S1] := by
      intro p hp b hb
      obtain rfl := List.mem_singleton.mp hp
      simp only [List.mem_cons, List.not_mem_nil, or_false] at hb
      rcases hb with rfl | rfl | rfl | rfl
      · exact Ne.symm (oR _ m1)
      · exact hR
      · exact Ne.symm (oR _ m2)
      · exact Ne.symm (oR _ m3)
    rcases hT' with rfl | ⟨c', oc, vs, t, rfl, hc, hd, hv⟩
    · refine ⟨lawLed sh shv nn #[] S1 S2 o1 o2 ((R, listOf ys.toArray nR) :: T), ⟨R, ys, ks, nR, #[], _, rfl, rfl, .head _, fun p hp => .tail _ hp, .inl rfl, ?_, hI, hS, hP, htk⟩, ?_⟩
      · intro p hp b hb
        rcases List.mem_cons.mp hp with rfl | hp
        · exact hRoff _ (.head _) b hb
        · exact hoff p hp b hb
      · intro p hp
        simp only [lawLed, List.mem_cons] at hp ⊢
        rcases hp with h | h | h | h | h | h
        · exact .inr (.inr (h ▸ m1))
        · exact .inr (.inl h)
        · exact .inr (.inr (h ▸ m2))
        · exact .inr (.inr (h ▸ m3))
        · exact .inl h
        · exact .inr (.inr (mT p h))
    · refine ⟨lawLed sh shv nn #[rawInt 140, rawInt 37, .ref c'] S1 S2 o1 o2 ((R, listOf ys.toArray nR) :: (c', oc) :: T), ⟨R, ys, ks, nR, _, _, rfl, rfl, .head _, fun p hp => .tail _ (.tail _ hp), .inr ⟨c', oc, vs, t, rfl, .tail _ (.head _), hd, hv⟩, ?_, hI, hS, hP, htk⟩, ?_⟩
      · have tlN : ∀ {a : Addr} {o o' : Obj}, (a, o) ∈ tl → (a, o') ∈ tl → o = o' := fun h1 h2 => news_inj N (.tail _ (.tail _ h1)) (.tail _ (.tail _ h2))
        intro p hp b hb
        rcases List.mem_cons.mp hp with rfl | hp
        · exact hRoff _ (.head _) b hb
        rcases List.mem_cons.mp hp with rfl | hp
        · simp only [List.mem_cons, List.not_mem_nil, or_false] at hb
          rcases hb with rfl | rfl | rfl | rfl
          · intro e
            have e : c' = b := e
            subst e
            have := tlN hc m1
            rw [this] at hd; cases hd
          · exact o182 _ hc
          · intro e
            have e : c' = b := e
            subst e
            have := tlN hc m2
            rw [this, ho1] at hd; cases hd
          · intro e
            have e : c' = b := e
            subst e
            have := tlN hc m3
            rw [this, ho2] at hd; cases hd
        · exact hoff p hp b hb
      · intro p hp
        simp only [lawLed, List.mem_cons] at hp ⊢
        rcases hp with h | h | h | h | h | h | h
        · exact .inr (.inr (h ▸ m1))
        · exact .inr (.inl h)
        · exact .inr (.inr (h ▸ m2))
        · exact .inr (.inr (h ▸ m3))
        · exact .inl h
        · exact .inr (.inr (h ▸ hc))
        · exact .inr (.inr (mT p h))
theorem Ctr.useR {sh S1 S2 : Addr} {shv : List Value} {nn : Nat} {o1 o2 : Obj} {T1 : List (Addr × Obj)} {P : List Int → Prop} {d : Nat} {w : World} {f : Addr} {vs : List Value} {news : List (Addr × Obj)} {kw : List (Str × Value)} {Hb : Heap → Prop}
    {loose : List Str} {mean : ExcName → Option Value} {mg mb : Str → Option Value} {dp un : Nat} {gd : Option (List Code)} {cn : Str} {cs : Scope} {a : Addr} {ccd : Value} {cl : List (Str × Addr)} {outer : List Env} {A₀ : Around} {base h₀ : Heap} {L : Addr} {m : Str → Option Value} {h1 : Heap} {gn : Array GenState} {dr : Drawn} {t1 : Nat} {os : OsState} {Q E : Value → Shared → Prop}
    (S : Ctr d w f vs news (fun r n' tk => RowL sh S1 S2 shv nn o1 o2 T1 P r n' tk) kw Hb) (B : Below A₀ base outer h₀) (F : Fr h₀ L h1 m) (X : (Mine.hd.heap_39 w.params).In h₀) (N : News h₀ L h1 news) (T : Top topProg loose mean mg mb h₀) (hk : cs.kind = .function)
    (hb : Hb base) (hd : dp + d < recursionLimit) (hu : un + 8 * d < cLine)
    (ret : ∀ h' tk', t1 ≤ tk' → ∀ (R : Addr) (ys : List Value) (ks : List Int) (nR : Nat) (tps' : Array Value) (T' : List (Addr × Obj)), (R, listOf ys.toArray nR) ∈ T' → (∀ p ∈ T1, p ∈ T') → TabOk tps' T' → OwnOff T' [sh, 182, S2, S1] → IntsAre ys ks → Sorted ks → P ks → (∀ i t, .int i t ∈ ys → t ≠ 0 ∧ t < tk') → Fr h₀ L h' m → News h₀ L h' (lawLed sh shv nn tps' S1 S2 o1 o2 T') → Q (.ref R) ⟨h', gn, dr, tk', os⟩) :
    wpAny (model PySem.Challenge.rw_sw0054_01.row.prog w) (ktrTop dp un gd cn cs L a ccd cl outer) (call (.ref f) vs kw) Q E ⟨h1, gn, dr, t1, os⟩ :=
  Ctr.use S B F X N T hk hb hd hu (by rintro v n h tk hle ⟨R, ys, ks, nR, tp, T2, rfl, rfl, a1, a2, a3, a4, a5, a6, a7, a8⟩ F N; exact ret h tk hle R ys ks nR tp T2 a1 a2 a3 a4 a5 a6 a7 a8 F N)
end

-- part P3
section
abbrev leadP (lt : Str) : Prop := ∀ z ∈ [(1 : Int), 2, 3, 4], (0 ≤ colL z 0 lt.cps.toList ∧ colL z 0 lt.cps.toList ≤ 6) ∧ ∀ few ∈ [(0 : Int), 1, 2, 3], levOf z few lt = colL z 0 lt.cps.toList + few
theorem lead18a : ∀ a ∈ [(0 : Int), 1, 2], ∀ c ∈ [(0 : Int), 1, 2], leadP (spaces a ++ spaces c) := by decide +kernel
theorem lead18b : ∀ a ∈ [(0 : Int), 1, 2], ∀ c ∈ [(0 : Int), 1, 2], leadP ((spaces a ++ Str.ofString "\t") ++ spaces c) := by decide +kernel
theorem mem3 {a : Int} (h : 0 ≤ a ∧ a < 3) : a ∈ [(0 : Int), 1, 2] := by
  obtain rfl | rfl | rfl : a = 0 ∨ a = 1 ∨ a = 2 := by (first | lia | omega)
  all_goals decide
theorem lead_all (d : Int) : leadP (leadOf d) := by
  have h1 := mem3 (fmod3 d)
  have h2 := mem3 (fmod3 (d.fdiv 6))
  unfold leadOf
  split
  · exact lead18b _ h1 _ h2
  · exact lead18a _ h1 _ h2
theorem col_ok (d : Int) {z : Int} (h0 : 1 ≤ z) (h1 : z ≤ 4) : 0 ≤ colL z 0 (leadOf d).cps.toList ∧ colL z 0 (leadOf d).cps.toList ≤ 6 := by
  have hz : z ∈ [(1 : Int), 2, 3, 4] := by
    obtain rfl | rfl | rfl | rfl : z = 1 ∨ z = 2 ∨ z = 3 ∨ z = 4 := by (first | lia | omega)
    all_goals decide
  exact (lead_all d z hz).1
theorem lev_col (d : Int) {z few : Int} (h0 : 1 ≤ z) (h1 : z ≤ 4) (h2 : 0 ≤ few) (h3 : few < 4) : levOf z few (leadOf d) = colL z 0 (leadOf d).cps.toList + few := by
  have hz : z ∈ [(1 : Int), 2, 3, 4] := by
    obtain rfl | rfl | rfl | rfl : z = 1 ∨ z = 2 ∨ z = 3 ∨ z = 4 := by (first | lia | omega)
    all_goals decide
  have hf : few ∈ [(0 : Int), 1, 2, 3] := by
    obtain rfl | rfl | rfl | rfl : few = 0 ∨ few = 1 ∨ few = 2 ∨ few = 3 := by (first | lia | omega)
    all_goals decide
  exact (lead_all d z hz).2 few hf
end

-- part P4
section
noncomputable def waysOf (cs : List Nat) : List Int := (List.range 5).map fun j => waysR cs.reverse j fun _ => 1
noncomputable def up4 (a b c d : Nat) : List Int := [a, b, c, d].map fun n : Nat => (n : Int)
/-- how many of ks lie beyond s, as an int -/
noncomputable def above (ks : List Int) (s : Int) : Int := ((ks.filter fun k => decide (s < k)).length : Nat)
noncomputable def heightsOf (ks : List Int) (n : Nat) : List Int := (List.range n).map fun (i : Nat) => above ks ((n : Int) - 1 - (i : Int))
noncomputable def sm (f : Nat → Int) : Nat → Int
  | 0 => 0
  | n + 1 => sm f n + f n
theorem sm_congr {f g : Nat → Int} : ∀ n : Nat, (∀ k, k < n → f k = g k) → sm f n = sm g n
  | 0, _ => rfl
  | n + 1, h => by rw [sm, sm, sm_congr n fun k hk => h k (by (first | lia | omega)), h n (by (first | lia | omega))]
theorem sm_add (f g : Nat → Int) : ∀ n, sm (fun k => f k + g k) n = sm f n + sm g n
  | 0 => rfl
  | n + 1 => by simp only [sm, sm_add f g n]; (first | lia | omega)
theorem sm_zero : ∀ n, sm (fun _ => 0) n = 0
  | 0 => rfl
  | n + 1 => by simp only [sm, sm_zero n]; rfl
theorem sm_mul (k : Int) (f : Nat → Int) : ∀ n, sm (fun i => k * f i) n = k * sm f n
  | 0 => by simp [sm]
  | n + 1 => by simp only [sm, sm_mul k f n, Int.mul_add]
theorem sm_comm (w : Nat → Nat → Int) (b : Nat) : ∀ a, sm (fun s => sm (fun t => w s t) b) a = sm (fun t => sm (fun s => w s t) a) b
  | 0 => by simp only [sm]; exact (sm_zero b).symm
  | a + 1 => by simp only [sm, sm_comm w b a]; rw [sm_add]
theorem stepT_sm (φ : Nat → Int) (m : Nat) : ∀ n, stepT φ m n = sm (fun s => if m / 2 ^ s % 2 = 0 then φ (m + 2 ^ s) else 0) n
  | 0 => rfl
  | n + 1 => by simp only [stepT, sm, stepT_sm φ m n]
theorem if_sm {P : Prop} [Decidable P] (f : Nat → Int) (n : Nat) : (if P then sm f n else 0) = sm (fun k => if P then f k else 0) n := by
  split
  · rfl
  · exact (sm_zero n).symm
theorem free_comm : ∀ m < 64, ∀ s < 6, ∀ t < 6, (m / 2 ^ s % 2 = 0 ∧ (m + 2 ^ s) / 2 ^ t % 2 = 0) ↔ (m / 2 ^ t % 2 = 0 ∧ (m + 2 ^ t) / 2 ^ s % 2 = 0) := by decide +kernel
theorem stepT_comm (φ : Nat → Int) {a b m : Nat} (ha : a ≤ 6) (hb : b ≤ 6) (hm : m < 64) : stepT (fun m' => stepT φ m' b) m a = stepT (fun m' => stepT φ m' a) m b := by
  have key : ∀ (a b : Nat), stepT (fun m' => stepT φ m' b) m a = sm (fun s => sm (fun t => if m / 2 ^ s % 2 = 0 then (if (m + 2 ^ s) / 2 ^ t % 2 = 0 then φ (m + 2 ^ s + 2 ^ t) else 0) else 0) b) a := by
    intro a b
    rw [stepT_sm]
    refine sm_congr a fun s _ => ?_
    rw [stepT_sm, if_sm]
  rw [key a b, key b a, sm_comm]
  refine sm_congr b fun t ht => sm_congr a fun s hs => ?_
  have h := free_comm m hm s (by (first | lia | omega)) t (by (first | lia | omega))
  have e : m + 2 ^ s + 2 ^ t = m + 2 ^ t + 2 ^ s := by (first | lia | omega)
  rw [e]
  by_cases h1 : m / 2 ^ s % 2 = 0 ∧ (m + 2 ^ s) / 2 ^ t % 2 = 0
  · have h2 := h.mp h1
    rw [if_pos h1.1, if_pos h1.2, if_pos h2.1, if_pos h2.2]
  · have h2 := fun q => h1 (h.mpr q)
    have e1 : (if m / 2 ^ s % 2 = 0 then (if (m + 2 ^ s) / 2 ^ t % 2 = 0 then φ (m + 2 ^ t + 2 ^ s) else 0) else 0) = 0 := by
      split
      · split
        · exact absurd ⟨by assumption, by assumption⟩ h1
        · rfl
      · rfl
    have e2 : (if m / 2 ^ t % 2 = 0 then (if (m + 2 ^ t) / 2 ^ s % 2 = 0 then φ (m + 2 ^ t + 2 ^ s) else 0) else 0) = 0 := by
      split
      · split
        · exact absurd ⟨by assumption, by assumption⟩ h2
        · rfl
      · rfl
    rw [e1, e2]
theorem stepT_congr {φ ψ : Nat → Int} (h : ∀ m, m < 64 → φ m = ψ m) {m c : Nat} (hm : m < 64) (hc : c ≤ 6) : stepT φ m c = stepT ψ m c := by
  rw [stepT_sm, stepT_sm]
  refine sm_congr c fun s hs => ?_
  by_cases q : m / 2 ^ s % 2 = 0
  · rw [if_pos q, if_pos q, h _ (mask_turn m hm s (by (first | lia | omega)) q)]
  · rw [if_neg q, if_neg q]
theorem waysR_congr : ∀ (l : List Nat) (g : Nat) {φ ψ : Nat → Int}, (∀ c ∈ l, c ≤ 6) → (∀ m, m < 64 → φ m = ψ m) → waysR l g φ = waysR l g ψ
  | [], 0, _, _, _, h => h 0 (by decide)
  | [], _ + 1, _, _, _, _ => rfl
  | _ :: cs, 0, _, _, hc, h => waysR_congr cs 0 (fun c hc' => hc c (.tail _ hc')) h
  | c :: cs, g + 1, φ, ψ, hc, h => by
    have hc' := fun c hc' => hc c (List.mem_cons_of_mem _ hc')
    rw [waysR, waysR, waysR_congr cs (g + 1) hc' h, waysR_congr cs g hc' fun m hm => stepT_congr h hm (hc c (.head _))]
theorem waysR_perm {l l' : List Nat} (p : l.Perm l') : (∀ c ∈ l, c ≤ 6) → ∀ (g : Nat) (φ : Nat → Int), waysR l g φ = waysR l' g φ := by
  induction p with
  | nil => intro _ _ _; rfl
  | cons c p ih =>
    intro hc g φ
    have hc' := fun c hc' => hc c (List.mem_cons_of_mem _ hc')
    cases g with
    | zero => exact ih hc' 0 φ
    | succ g => simp only [waysR, ih hc']
  | swap a b cs =>
    intro hc g φ
    have ha : a ≤ 6 := hc a (.tail _ (.head _))
    have hb : b ≤ 6 := hc b (.head _)
    have hcs : ∀ c ∈ cs, c ≤ 6 := fun c hc' => hc c (.tail _ (.tail _ hc'))
    match g with
    | 0 => rfl
    | 1 => simp only [waysR]; (first | lia | omega)
    | g + 2 =>
      simp only [waysR]
      rw [waysR_congr cs g hcs fun m hm => stepT_comm φ hb ha hm]
      (first | lia | omega)
  | trans p q ih1 ih2 => intro hc g φ; exact (ih1 hc g φ).trans (ih2 (fun c hc' => hc c (p.mem_iff.mpr hc')) g φ)
theorem waysR_mul (k : Int) : ∀ (l : List Nat) (g : Nat) (φ : Nat → Int), waysR l g (fun m => k * φ m) = k * waysR l g φ
  | [], 0, φ => rfl
  | [], _ + 1, φ => by simp [waysR]
  | _ :: cs, 0, φ => waysR_mul k cs 0 φ
  | c :: cs, g + 1, φ => by
    have e : (fun m => stepT (fun m => k * φ m) m c) = fun m => k * stepT φ m c := by
      funext m
      rw [stepT_sm, stepT_sm, ← sm_mul]
      refine sm_congr c fun s _ => ?_
      split
      · rfl
      · simp
    rw [waysR, waysR, waysR_mul k cs (g + 1) φ, e, waysR_mul k cs g, Int.mul_add]
noncomputable def pop6 (m : Nat) : Nat := m % 2 + m / 2 % 2 + m / 4 % 2 + m / 8 % 2 + m / 16 % 2 + m / 32 % 2
theorem pop_turn1 : ∀ m < 64, ∀ s < 6, m / 2 ^ s % 2 = 0 → pop6 (m + 2 ^ s) = pop6 m + 1 := by decide +kernel
theorem pop_turn2 : ∀ m < 64, ∀ s < 6, ∀ c < 7, (decide (m / 2 ^ s % 2 = 0) && decide (s < c) && decide (m < 2 ^ c) && !decide (m + 2 ^ s < 2 ^ c)) = false := by decide +kernel
theorem pop_turn (m : Nat) (hm : m < 64) (s : Nat) (hs : s < 6) (c : Nat) (hc : c < 7) (h : m / 2 ^ s % 2 = 0 ∧ s < c ∧ m < 2 ^ c) : m + 2 ^ s < 2 ^ c ∧ pop6 (m + 2 ^ s) = pop6 m + 1 := by
  refine ⟨?_, pop_turn1 m hm s hs h.1⟩
  have := pop_turn2 m hm s hs c hc
  rw [decide_eq_true h.1, decide_eq_true h.2.1, decide_eq_true h.2.2] at this
  simpa using this
theorem pop_step : ∀ m < 64, ∀ c < 7, m < 2 ^ c → stepT (fun _ => 1) m c = c - pop6 m := by decide +kernel
theorem lt64 {m c : Nat} (h : m < 2 ^ c) (hc : c ≤ 6) : m < 64 := Nat.lt_of_lt_of_le h (Nat.pow_le_pow_right (by decide) hc)
theorem waysR_supp (c : Nat) (hc : c ≤ 6) : ∀ (l : List Nat) (g : Nat) {φ ψ : Nat → Int}, (∀ d ∈ l, d ≤ c) → (∀ m, m < 2 ^ c → pop6 m = g → φ m = ψ m) → waysR l g φ = waysR l g ψ
  | [], 0, _, _, _, h => h 0 (Nat.two_pow_pos c) rfl
  | [], _ + 1, _, _, _, _ => rfl
  | _ :: cs, 0, _, _, hd, h => waysR_supp c hc cs 0 (fun c hc' => hd c (.tail _ hc')) h
  | d :: cs, g + 1, φ, ψ, hd, h => by
    have hd' := fun c hc' => hd c (List.mem_cons_of_mem _ hc')
    have hdc : d ≤ c := hd d (.head _)
    rw [waysR, waysR, waysR_supp c hc cs (g + 1) hd' h, waysR_supp c hc cs g hd' fun m hm hp => ?_]
    rw [stepT_sm, stepT_sm]
    refine sm_congr d fun s hs => ?_
    by_cases q : m / 2 ^ s % 2 = 0
    · have := pop_turn m (lt64 hm hc) s (by (first | lia | omega)) c (by (first | lia | omega)) ⟨q, by (first | lia | omega), hm⟩
      rw [if_pos q, if_pos q, h _ this.1 (by (first | lia | omega))]
    · rw [if_neg q, if_neg q]
noncomputable def srec : List Int → Nat → Int
  | [], 0 => 1
  | [], _ + 1 => 0
  | _ :: cs, 0 => srec cs 0
  | c :: cs, g + 1 => srec cs (g + 1) + (c - g) * srec cs g
theorem waysR_srec : ∀ (l : List Nat) (g : Nat), (∀ c ∈ l, c ≤ 6) → l.Pairwise (fun a b => b ≤ a) → waysR l g (fun _ => 1) = srec (l.map fun n : Nat => (n : Int)) g
  | [], 0, _, _ => rfl
  | [], _ + 1, _, _ => rfl
  | _ :: cs, 0, hc, hp => waysR_srec cs 0 (fun c hc' => hc c (.tail _ hc')) (List.pairwise_cons.mp hp).2
  | c :: cs, g + 1, hc, hp => by
    have hp' := List.pairwise_cons.mp hp
    have hc' := fun c hc' => hc c (List.mem_cons_of_mem _ hc')
    have hc6 : c ≤ 6 := hc c (.head _)
    rw [List.map_cons, srec, waysR, waysR_srec cs (g + 1) hc' hp'.2, ← waysR_srec cs g hc' hp'.2, ← waysR_mul]
    congr 1
    refine waysR_supp c hc6 cs g hp'.1 fun m hm hpm => ?_
    rw [pop_step m (lt64 hm hc6) c (by (first | lia | omega)) hm, hpm]
    simp
theorem srec_over : ∀ (l : List Int) (g : Nat), l.length < g → srec l g = 0
  | [], 0, h => absurd h (Nat.lt_irrefl _)
  | [], _ + 1, _ => rfl
  | _ :: _, 0, h => absurd h (Nat.not_lt_zero _)
  | c :: cs, g + 1, h => by
    have h' : cs.length < g := by simpa using h
    rw [srec, srec_over cs (g + 1) (by (first | lia | omega)), srec_over cs g h']; simp
theorem sm_shift (f : Nat → Int) : ∀ n, sm f (n + 1) = f 0 + sm (fun k => f (k + 1)) n
  | 0 => by simp [sm]
  | n + 1 => by
    rw [sm, sm_shift f n, sm]; (first | lia | omega)
theorem gjw : ∀ (l : List Int) (x : Int), sm (fun k => srec l k * ff x (l.length - k)) (l.length + 1) = prodTo l.reverse x l.length
  | [], x => by simp [sm, srec, ff, prodTo]
  | c :: cs, x => by
    have ih := gjw cs x
    have e1 : ∀ k, k < cs.length + 1 → srec cs k * ff x (cs.length + 1 - k) = srec cs k * ff x (cs.length - k) * (x - (cs.length - k)) := fun k hk => by
      have e : cs.length + 1 - k = (cs.length - k) + 1 := by (first | lia | omega)
      rw [e, ff, Int.mul_assoc]
      congr 2
      (first | lia | omega)
    have e2 : sm (fun k => srec (c :: cs) k * ff x (cs.length + 1 - k)) (cs.length + 1 + 1) = sm (fun k => srec cs k * ff x (cs.length + 1 - k)) (cs.length + 1 + 1) + sm (fun k => (c - k) * srec cs k * ff x (cs.length - k)) (cs.length + 1) := by
      rw [sm_shift, sm_shift (fun k => srec cs k * ff x (cs.length + 1 - k))]
      have e3 : sm (fun k => srec (c :: cs) (k + 1) * ff x (cs.length + 1 - (k + 1))) (cs.length + 1) = sm (fun k => srec cs (k + 1) * ff x (cs.length + 1 - (k + 1)) + (c - k) * srec cs k * ff x (cs.length - k)) (cs.length + 1) := by
        refine sm_congr _ fun k _ => ?_
        have e : cs.length + 1 - (k + 1) = cs.length - k := by (first | lia | omega)
        rw [srec, e, Int.add_mul]
      rw [e3, sm_add]
      show srec cs 0 * _ + _ = _
      (first | lia | omega)
    have e4 : sm (fun k => srec cs k * ff x (cs.length + 1 - k)) (cs.length + 1 + 1) = sm (fun k => srec cs k * ff x (cs.length - k) * (x - (cs.length - k))) (cs.length + 1) := by
      rw [sm, srec_over cs (cs.length + 1) (by (first | lia | omega)), sm_congr _ e1]; simp
    have e5 : sm (fun k => srec cs k * ff x (cs.length - k) * (x - (cs.length - k))) (cs.length + 1) + sm (fun k => (c - k) * srec cs k * ff x (cs.length - k)) (cs.length + 1) = (c + x - cs.length) * sm (fun k => srec cs k * ff x (cs.length - k)) (cs.length + 1) := by
      rw [← sm_add, ← sm_mul]
      refine sm_congr _ fun k _ => ?_
      rw [Int.mul_assoc (c - k), Int.mul_comm (srec cs k * ff x (cs.length - k)), ← Int.add_mul]
      congr 1
      (first | lia | omega)
    have e6 : prodTo (c :: cs).reverse x (cs.length + 1) = prodTo cs.reverse x cs.length * (c + x - cs.length) := by
      have e7 : ∀ n, n ≤ cs.length → prodTo (c :: cs).reverse x n = prodTo cs.reverse x n := by
        intro n
        induction n with
        | zero => intro _; rfl
        | succ n ihn =>
          intro hn
          rw [prodTo, prodTo, ihn (by (first | lia | omega))]
          congr 3
          rw [List.reverse_cons, List.getD_eq_getElem?_getD, List.getD_eq_getElem?_getD, List.getElem?_append_left (by simp; (first | lia | omega))]
      rw [prodTo, e7 _ (Nat.le_refl _)]
      congr 3
      rw [List.reverse_cons, List.getD_eq_getElem?_getD, List.getElem?_append_right (by simp)]
      simp
    show sm (fun k => srec (c :: cs) k * ff x (cs.length + 1 - k)) (cs.length + 1 + 1) = prodTo (c :: cs).reverse x (cs.length + 1)
    rw [e2, e4, e5, ih, e6, Int.mul_comm]
end

-- part P6
section
theorem sorted_nat {c0 c1 c2 c3 : Nat} (hc : ∀ i, i < 4 → [c0, c1, c2, c3].getD i 0 ≤ 6) {ks : List Int} (hS : Sorted ks) (hP : ks.Perm (up4 c0 c1 c2 c3)) :
    ∃ a b c d : Nat, ks = up4 a b c d ∧ a ≤ b ∧ b ≤ c ∧ c ≤ d ∧ d ≤ 6 ∧ [a, b, c, d].Perm [c0, c1, c2, c3] := by
  obtain ⟨k0, k1, k2, k3, rfl⟩ := four (hP.length_eq.trans rfl)
  have h0 : c0 ≤ 6 := hc 0 (by decide)
  have h1 : c1 ≤ 6 := hc 1 (by decide)
  have h2 : c2 ≤ 6 := hc 2 (by decide)
  have h3 : c3 ≤ 6 := hc 3 (by decide)
  have nn : ∀ k ∈ [k0, k1, k2, k3], 0 ≤ k ∧ k ≤ 6 := fun k hk => by
    have := hP.mem_iff.mp hk
    simp only [up4, List.map_cons, List.map_nil, List.mem_cons, List.not_mem_nil, or_false] at this
    (first | lia | omega)
  have b0 := nn k0 (by simp)
  have b1 := nn k1 (by simp)
  have b2 := nn k2 (by simp)
  have b3 := nn k3 (by simp)
  have s0 : k0 ≤ k1 := hS 0 1 (by decide) (by simp)
  have s1 : k1 ≤ k2 := hS 1 2 (by decide) (by simp)
  have s2 : k2 ≤ k3 := hS 2 3 (by decide) (by simp)
  refine ⟨k0.toNat, k1.toNat, k2.toNat, k3.toNat, ?_, by (first | lia | omega), by (first | lia | omega), by (first | lia | omega), by (first | lia | omega), ?_⟩
  · simp only [up4, List.map_cons, List.map_nil, Int.toNat_of_nonneg b0.1, Int.toNat_of_nonneg b1.1, Int.toNat_of_nonneg b2.1, Int.toNat_of_nonneg b3.1]
  · have := hP.map Int.toNat
    simpa [up4] using this
theorem ways_sorted {c0 c1 c2 c3 a b c d : Nat} (h1 : a ≤ b) (h2 : b ≤ c) (h3 : c ≤ d) (h4 : d ≤ 6) (hp : [a, b, c, d].Perm [c0, c1, c2, c3]) : waysOf [c0, c1, c2, c3] = (List.range 5).map fun j => srec [(d : Int), c, b, a] j := by
  unfold waysOf
  refine List.map_congr_left fun j _ => ?_
  have p : [c0, c1, c2, c3].reverse.Perm [d, c, b, a] := (List.reverse_perm _).trans (hp.symm.trans (List.reverse_perm [a, b, c, d]).symm)
  have hle : ∀ x ∈ [d, c, b, a], x ≤ 6 := by
    intro x hx
    simp only [List.mem_cons, List.not_mem_nil, or_false] at hx
    (first | lia | omega)
  rw [waysR_perm p (fun x hx => hle x (p.mem_iff.mp hx)) j, waysR_srec _ j hle]
  · rfl
  · simp only [List.pairwise_cons, List.mem_cons, List.not_mem_nil, or_false, List.Pairwise.nil, and_true]
    refine ⟨fun x hx => ?_, fun x hx => ?_, fun x hx => ?_, fun x hx => ?_⟩
    · (first | lia | omega)
    · (first | lia | omega)
    · (first | lia | omega)
    · exact hx.elim
theorem dueTo_sm (W : List Int) (n : Nat) (x : Int) : ∀ N, dueTo W n x N = sm (fun k => W.getD k 0 * ff x (n - k)) N
  | 0 => rfl
  | N + 1 => by rw [dueTo, sm, dueTo_sm W n x N]
theorem getD_range5 (f : Nat → Int) {k : Nat} (h : k < 5) : ((List.range 5).map f).getD k 0 = f k := by
  rw [List.getD_eq_getElem?_getD, List.getElem?_map, List.getElem?_range h]; rfl
theorem due_srec {W : List Int} {l : List Int} (hW : W = (List.range 5).map fun j => srec l j) (n : Nat) (x : Int) : dueTo W n x 5 = sm (fun k => srec l k * ff x (n - k)) 5 := by
  rw [dueTo_sm, hW]
  exact sm_congr 5 fun k hk => by rw [getD_range5 _ hk]
theorem plain_ways {c0 c1 c2 c3 : Nat} (hc : ∀ i, i < 4 → [c0, c1, c2, c3].getD i 0 ≤ 6) {ks : List Int} (hS : Sorted ks) (hP : ks.Perm (up4 c0 c1 c2 c3)) (x : Int) : prodTo ks x ks.length = dueTo (waysOf [c0, c1, c2, c3]) 4 x 5 := by
  obtain ⟨a, b, c, d, rfl, h1, h2, h3, h4, hp⟩ := sorted_nat hc hS hP
  rw [due_srec (ways_sorted h1 h2 h3 h4 hp)]
  exact (gjw [(d : Int), c, b, a] x).symm
theorem prodTo_shift (ks : List Int) (e x : Int) : ∀ n, n ≤ ks.length → prodTo (ks.map (· - e)) (x + e) n = prodTo ks x n
  | 0, _ => rfl
  | n + 1, h => by
    rw [prodTo, prodTo, prodTo_shift ks e x n (by (first | lia | omega))]
    congr 2
    have hn : n < ks.length := by (first | lia | omega)
    rw [List.getD_eq_getElem?_getD, List.getD_eq_getElem?_getD, List.getElem?_map, List.getElem?_eq_getElem hn]
    show ks[n] - e + (x + e) = ks[n] + x
    (first | lia | omega)
theorem plain_few {c0 c1 c2 c3 : Nat} (hc : ∀ i, i < 4 → [c0, c1, c2, c3].getD i 0 ≤ 6) {ks : List Int} (few : Int) (hS : Sorted ks) (hP : ks.Perm ((up4 c0 c1 c2 c3).map (· + few))) : prodTo ks 0 ks.length = dueTo (waysOf [c0, c1, c2, c3]) 4 few 5 := by
  have hS' : Sorted (ks.map (· - few)) := by
    intro i j hij hj
    rw [List.length_map] at hj
    have := hS i j hij hj
    rw [List.getD_eq_getElem?_getD, List.getD_eq_getElem?_getD, List.getElem?_eq_getElem hj, List.getElem?_eq_getElem (Nat.lt_of_le_of_lt hij hj)] at this
    rw [List.getD_eq_getElem?_getD, List.getD_eq_getElem?_getD, List.getElem?_map, List.getElem?_map, List.getElem?_eq_getElem hj, List.getElem?_eq_getElem (Nat.lt_of_le_of_lt hij hj)]
    simp only [Option.getD_some, Option.map_some] at this ⊢
    (first | lia | omega)
  have hP' : (ks.map (· - few)).Perm (up4 c0 c1 c2 c3) := by
    have := hP.map (· - few)
    rw [List.map_map] at this
    have e : (up4 c0 c1 c2 c3).map ((fun x => x - few) ∘ fun x => x + few) = up4 c0 c1 c2 c3 := by
      simp [up4, Int.add_sub_cancel]
    rw [e] at this
    exact this
  have h := plain_ways hc hS' hP' few
  rw [List.length_map] at h
  have e := prodTo_shift ks few 0 ks.length (Nat.le_refl _)
  rw [Int.zero_add] at e
  rw [← e, h]
theorem sm_ext {f : Nat → Int} {N : Nat} (h : ∀ k, N ≤ k → f k = 0) : ∀ M, N ≤ M → sm f M = sm f N
  | 0, hm => by
    obtain rfl : N = 0 := by (first | lia | omega)
    rfl
  | M + 1, hm => by
    by_cases e : N = M + 1
    · rw [e]
    · rw [sm, sm_ext h M (by (first | lia | omega)), h M (by (first | lia | omega))]; simp
theorem high_tab : ∀ a < 7, ∀ b < 7, ∀ c < 7, ∀ d < 7, (!(decide (a ≤ b) && decide (b ≤ c) && decide (c ≤ d)) || decide ((List.range 7).map (srec (heightsOf (up4 a b c d) d).reverse) = (List.range 7).map (srec [(d : Int), c, b, a]))) = true := by decide +kernel
theorem plain_high {c0 c1 c2 c3 : Nat} (hc : ∀ i, i < 4 → [c0, c1, c2, c3].getD i 0 ≤ 6) {ks : List Int} (hS : Sorted ks) (hP : ks.Perm (up4 c0 c1 c2 c3)) (n : Nat) (hn : ks.getD 3 0 = n) (x : Int) :
    prodTo (heightsOf ks n) x (heightsOf ks n).length = dueTo (waysOf [c0, c1, c2, c3]) n x 5 := by
  obtain ⟨a, b, c, d, rfl, h1, h2, h3, h4, hp⟩ := sorted_nat hc hS hP
  obtain rfl : d = n := Int.ofNat.inj hn
  rw [due_srec (ways_sorted h1 h2 h3 h4 hp)]
  have hl : (heightsOf (up4 a b c d) d).length = d := by simp [heightsOf]
  have g := gjw (heightsOf (up4 a b c d) d).reverse x
  rw [List.reverse_reverse, List.length_reverse] at g
  rw [← g, hl]
  have t := high_tab a (by (first | lia | omega)) b (by (first | lia | omega)) c (by (first | lia | omega)) d (by (first | lia | omega))
  rw [decide_eq_true h1, decide_eq_true h2, decide_eq_true h3] at t
  have t' : (List.range 7).map (srec (heightsOf (up4 a b c d) d).reverse) = (List.range 7).map (srec [(d : Int), c, b, a]) := by simpa using t
  have tk : ∀ k, k < 7 → srec (heightsOf (up4 a b c d) d).reverse k = srec [(d : Int), c, b, a] k := fun k hk => by
    have q := congrArg (fun l => l.getD k 0) t'
    simpa [List.getD_eq_getElem?_getD, List.getElem?_map, List.getElem?_range hk] using q
  rw [← sm_ext (f := fun k => srec (heightsOf (up4 a b c d) d).reverse k * ff x (d - k)) (N := d + 1) (fun k hk => by rw [srec_over _ k (by rw [List.length_reverse, hl]; (first | lia | omega))]; simp) 7 (by (first | lia | omega)),
    ← sm_ext (f := fun k => srec [(d : Int), c, b, a] k * ff x (d - k)) (N := 5) (fun k hk => by rw [srec_over _ k (by simp; (first | lia | omega))]; simp) 7 (by (first | lia | omega))]
  exact sm_congr 7 fun k hk => by rw [tk k hk]
end

-- part S16
section
noncomputable def lastOf : List Stmt → Stmt
  | [] => .Pass default
  | [s] => s
  | _ :: s :: r => lastOf (s :: r)
noncomputable def bodyOf : Stmt → List Stmt
  | .FunctionDef _ _ b _ _ _ _ _ _ _ => b
  | .For _ _ b _ _ => b
  | _ => []
noncomputable def scopeOf : Stmt → Scope
  | .FunctionDef _ _ _ _ _ _ s _ _ _ => s
  | _ => default
noncomputable def lawDef : Stmt := lastOf PySem.Challenge.pw_sw0054_01.main.body
noncomputable def lawScope : Scope := scopeOf lawDef
noncomputable def turnBody : List Stmt := bodyOf ((bodyOf lawDef).getD 8 (.Pass default))
noncomputable def lawEnv (S fa : Addr) (cd : Value) : Env := envX (Str.ofString "law") lawScope S fa cd [(Str.ofString "row", S + 1 + 1), (Str.ofString "size", S + 1)]
theorem lawEnv_is (S fa : Addr) (cd : Value) : envOfC (Str.ofString "law") lawScope S fa cd = lawEnv S fa cd := by rfl
noncomputable def colsOf (ds : List Int) (z : Int) : List Nat := ds.map fun d => (colL z 0 (leadOf d).cps.toList).toNat
inductive ShapeC (tl : List (Addr × Obj)) (e : Addr) (c0 c1 c2 c3 : Nat) : Prop
  | mk (a b : Addr) (va vb : List Value) (ks nd : List Int) (n1 n2 n3 : Nat) (f0 : (e, listOf [Value.ref a, .ref b].toArray n1) ∈ tl) (f1 : (a, listOf va.toArray n2) ∈ tl) (f2 : IntsAre va (waysOf [c0, c1, c2, c3])) (f3 : (b, listOf vb.toArray n3) ∈ tl) (f4 : IntsAre vb nd) (f5 : Sorted ks) (f6 : ks.Perm (up4 c0 c1 c2 c3)) (f7 : nd.Perm ((List.range 4).map fun (j : Nat) => ks.getD j 0 - (j : Int))) (f8 : nd.Pairwise (fun x y => x ≤ y)) : ShapeC tl e c0 c1 c2 c3
abbrev fps (sh D : Addr) (far few : Int) (tf uf : Tok) : List (Str × Value) := [(Str.ofString "shapes", .ref sh), (Str.ofString "few", .int few uf), (Str.ofString "far", .int far tf), (Str.ofString "leads", .ref D)]
abbrev gps (W sh D : Addr) (far few : Int) (tf uf : Tok) : List (Str × Value) := (Str.ofString "ways", .ref W) :: fps sh D far few tf uf
theorem waysOf_len (cs : List Nat) : (waysOf cs).length = 5 := by simp [waysOf]
theorem keepToks {M : Model} {A : Around} {E : Value → Shared → Prop} {α : Type} {tr : Sem α} {Q : α → Shared → Prop} {h : Heap} {g : Array GenState} {d : Drawn} {t : Nat} {os : OsState} (H : ∀ n, t ≤ n → wpAny M A tr Q E ⟨h, g, d, n, os⟩) : wpAny M A tr Q E ⟨h, g, d, t, os⟩ := H t (Nat.le_refl _)
noncomputable def XJ (ps : List (Str × Value)) (led : List (Addr × Obj)) (_ : Nat) (m : Str → Option Value) (nx : List (Addr × Obj)) : Prop := (∀ p ∈ ps, m p.1 = some p.2) ∧ nx = led
theorem b201 {c : Nat} {k : Int} (h0 : c ≤ 6) (h : k = c) : 0 ≤ k ∧ k ≤ 20 :=
  h ▸ ⟨Int.natCast_nonneg c, Int.ofNat_le.mpr (Nat.le_trans h0 (by decide))⟩
theorem b20 {c0 c1 c2 c3 : Nat} {k : Int} (h0 : c0 ≤ 6) (h1 : c1 ≤ 6) (h2 : c2 ≤ 6) (h3 : c3 ≤ 6) (h : k = c0 ∨ k = c1 ∨ k = c2 ∨ k = c3) : 0 ≤ k ∧ k ≤ 20 :=
  h.elim (b201 h0) fun h => h.elim (b201 h1) fun h => h.elim (b201 h2) (b201 h3)
theorem b20f1 {c : Nat} {k f : Int} (hf : 1 ≤ f ∧ f < 4) (h0 : c ≤ 6) (h : k = c + f) : 0 ≤ k ∧ k ≤ 20 :=
  h ▸ ⟨Int.add_nonneg (Int.natCast_nonneg c) (Int.le_trans (by decide) hf.1), Int.le_trans (Int.add_le_add (Int.ofNat_le.mpr h0) (Int.le_of_lt hf.2)) (by decide)⟩
theorem b20f {c0 c1 c2 c3 : Nat} {k f : Int} (h0 : c0 ≤ 6) (h1 : c1 ≤ 6) (h2 : c2 ≤ 6) (h3 : c3 ≤ 6) (hf : 1 ≤ f ∧ f < 4) (h : k = c0 + f ∨ k = c1 + f ∨ k = c2 + f ∨ k = c3 + f) : 0 ≤ k ∧ k ≤ 20 :=
  h.elim (b20f1 hf h0) fun h => h.elim (b20f1 hf h1) fun h => h.elim (b20f1 hf h2) (b20f1 hf h3)
theorem far_b {far d5 : Int} (h : far = d5 / 2 ∨ far = -(d5 / 2)) (h5 : 0 ≤ d5 ∧ d5 ≤ 40000000) : far.natAbs ≤ 40000000 := by
  have h1 : d5.natAbs ≤ 40000000 := Int.ofNat_le.mp (Int.natAbs_of_nonneg h5.1 ▸ h5.2)
  have h2 : (d5 / 2).natAbs ≤ 40000000 := Nat.le_trans (Int.natAbs_ediv_le_natAbs d5 2) h1
  rcases h with e | e
  · rw [e]; exact h2
  · rw [e, Int.natAbs_neg]; exact h2
theorem r14 (x : Int) : 1 ≤ 1 + x % 4 ∧ 1 + x % 4 ≤ 4 := by (first | lia | omega)
theorem few60 {f : Int} (hf : 1 ≤ f ∧ f < 4) : f.natAbs < 2 ^ 60 :=
  Nat.lt_of_le_of_lt (natAbs_le (n := 4) (Int.le_trans (by decide) hf.1) (Int.le_of_lt hf.2)) (by decide)
theorem small_sum {ks : List Int} {x : Int} (hk : ∀ k ∈ ks, 0 ≤ k ∧ k ≤ 20) (hl : ks.length ≤ 100) (hx : x.natAbs ≤ 40000000) : ∀ k : Nat, k < ks.length → (ks.getD k 0 + x - k).natAbs < 2 ^ 64 := by
  intro k hlt
  have hm : ks.getD k 0 ∈ ks := by
    rw [List.getD_eq_getElem?_getD, List.getElem?_eq_getElem hlt]
    exact List.getElem_mem hlt
  have h1 := hk _ hm
  have h2 : (ks.getD k 0).natAbs ≤ 20 := Int.ofNat_le.mp (Int.natAbs_of_nonneg h1.1 ▸ h1.2)
  have h3 : (k : Int).natAbs ≤ 100 := Nat.le_trans (Nat.le_of_lt hlt) hl
  exact Nat.lt_of_le_of_lt (Nat.le_trans (Int.natAbs_sub_le _ _) (Nat.add_le_add (Nat.le_trans (Int.natAbs_add_le _ _) (Nat.add_le_add h2 hx)) h3)) (by decide)
theorem above_cons (k s : Int) (ks : List Int) : above (k :: ks) s = above ks s + (if s < k then 1 else 0) := by
  unfold above
  rw [List.filter_cons]
  by_cases h : s < k
  · rw [if_pos h, if_pos (decide_eq_true h), List.length_cons]; rfl
  · rw [if_neg h, if_neg (by rw [decide_eq_false h]; decide), Int.add_zero]
theorem above_one (k s : Int) : (if s - 1 < k then (1 : Int) else 0) = (if s < k then 1 else 0) + ((if (k == s) = true then 1 else 0 : Nat) : Int) := by
  by_cases h : s < k
  · rw [if_pos h, if_pos (Int.sub_one_lt_of_le (Int.le_of_lt h)), if_neg (fun e => absurd h (Int.not_lt.mpr (Int.le_of_eq (eq_of_beq e))))]; rfl
  · rw [if_neg h]
    by_cases e : k = s
    · rw [if_pos (Int.sub_one_lt_of_le (Int.le_of_eq e.symm)), if_pos (beq_iff_eq.mpr e)]; rfl
    · rw [if_neg (fun q => e (Int.le_antisymm (Int.not_lt.mp h) (Int.le_of_sub_one_lt q))), if_neg (fun q => e (eq_of_beq q))]; rfl
theorem above_step (ks : List Int) (s : Int) : above ks (s - 1) = above ks s + (ks.count s : Nat) := by
  induction ks with
  | nil => rfl
  | cons k ks ih =>
    rw [above_cons, above_cons, ih, List.count_cons, Int.natCast_add, above_one]
    rw [Int.add_assoc, Int.add_assoc, Int.add_left_comm (Nat.cast _)]
theorem above_bis {ks : List Int} {b k : Int} (h : BisP ks b k k) : (ks.length : Int) - k = above ks b := by
  obtain ⟨h1, -, h3, h4, h5⟩ := h
  obtain ⟨j, rfl⟩ := Int.eq_ofNat_of_zero_le h1
  have hj := Int.ofNat_le.mp h3
  have f1 : (ks.take j).filter (fun x => decide (b < x)) = [] := List.filter_eq_nil_iff.mpr fun x hx => by
    obtain ⟨i, hi, rfl⟩ := List.getElem_of_mem hx
    rw [List.getElem_take, decide_eq_true_eq]
    rw [List.length_take] at hi
    have q := h4 i (Int.ofNat_lt.mpr (Nat.lt_of_lt_of_le hi (Nat.min_le_left _ _)))
    rw [List.getD_eq_getElem?_getD, List.getElem?_eq_getElem (Nat.lt_of_lt_of_le hi (Nat.min_le_right _ _))] at q
    exact Int.not_lt.mpr q
  have f2 : (ks.drop j).filter (fun x => decide (b < x)) = ks.drop j := List.filter_eq_self.mpr fun x hx => by
    obtain ⟨i, hi, rfl⟩ := List.getElem_of_mem hx
    rw [List.getElem_drop, decide_eq_true_eq]
    rw [List.length_drop] at hi
    have hl := Nat.add_lt_of_lt_sub' hi
    have q := h5 (j + i) (Int.ofNat_le.mpr (Nat.le_add_right j i)) hl
    rw [List.getD_eq_getElem?_getD, List.getElem?_eq_getElem hl] at q
    exact q
  unfold above
  conv => rhs; rw [← List.take_append_drop j ks]
  rw [List.filter_append, f1, f2, List.nil_append, List.length_drop, Int.ofNat_sub hj]
theorem above_top {ks : List Int} {s : Int} (h : ∀ k ∈ ks, k ≤ s) : above ks s = 0 := by
  have : ks.filter (fun x => decide (s < x)) = [] := List.filter_eq_nil_iff.mpr fun x hx e => absurd (of_decide_eq_true e) (Int.not_lt.mpr (h x hx))
  unfold above
  rw [this]; rfl
theorem int_mem {vs : List Value} {ns : List Int} (h : IntsAre vs ns) : ∀ i t, Value.int i t ∈ vs → i ∈ ns := by
  intro i t hm
  obtain ⟨j, hj, e⟩ := List.getElem_of_mem hm
  have hl := h.length
  obtain ⟨u, hu⟩ := intsAt h (k := j) (by (first | lia | omega))
  rw [List.getElem?_eq_getElem hj, e] at hu
  have := Option.some.inj hu
  injection this with e1 _
  rw [e1, List.getD_eq_getElem?_getD, List.getElem?_eq_getElem (by (first | lia | omega))]
  exact List.getElem_mem _
theorem seat_toks {vs : List Value} {ns : List Int} {s0 tb : Nat} (h : ∀ i t, Value.int i t ∈ vs → t ≠ 0 ∧ t < s0) (hi : IntsAre vs ns) (hb : ∀ k ∈ ns, 0 ≤ k ∧ k ≤ 20) (hs : s0 ≤ tb) : ∀ i t, Value.int i t ∈ vs → t ≠ 0 ∧ t ≠ tb ∧ -5 ≤ i ∧ i ≤ 256 := by
  intro i t hm
  obtain ⟨h1, h2⟩ := h i t hm
  have := hb i (int_mem hi i t hm)
  exact ⟨h1, Nat.ne_of_lt (Nat.lt_of_lt_of_le h2 hs), by (first | lia | omega), by (first | lia | omega)⟩
abbrev hps (HL W sh D : Addr) (far few : Int) (tf uf : Tok) (a : Int) (ur : Tok) : List (Str × Value) := (Str.ofString "heights", Value.ref HL) :: (Str.ofString "reach", Value.int a ur) :: gps W sh D far few tf uf
noncomputable def heightsOf' (ks : List Int) (n i : Nat) : List Int := (List.range i).map fun (j : Nat) => above ks ((n : Int) - 1 - (j : Int))
inductive SeatJ (ps : Int → Tok → List (Str × Value)) (ks : List Int) (n : Nat) (HL : Addr) (led : List (Addr × Obj)) (i : Nat) (m : Str → Option Value) (nx : List (Addr × Obj)) : Prop
  | mk (f0 : (∃ ur, ∀ p ∈ ps (above ks ((n : Int) - i)) ur, m p.1 = some p.2)) (hv : List Value) (nh : Nat) (f1 : nx = (HL, listOf hv.toArray nh) :: led) (f2 : IntsAre hv (heightsOf' ks n i)) : SeatJ ps ks n HL led i m nx
open LCg in
theorem compKeep {prog : Program} {w : World} {A : Around} {h₀ : Heap} {L : Addr} {m : Str → Option Value} {env : Env} {elt : PySem.Expr} {x : Str} {scope : Scope} {cl : List (Str × Addr)} {s : Shared} {S : List (Addr × Obj) → Prop} {P : Nat → Value → Prop} {Fin : List Value → List (Addr × Obj) → Prop} {news : List (Addr × Obj)} {n : Nat} (G : Nat → List Value → Prop) (hS : S news)
    (turn : ∀ i ys v I oI C oC D m₂ h tk (E' : Value → Shared → Prop), P i v → i < n → ys.length = i → G i ys → NsObj oC m₂ → m₂ x = some v → Fr h₀ L h m → News h₀ L h ((I, oI) :: (C, oC) :: (D, lst ys) :: news) →
      wpAny (model prog w) A (eval elt (compEnvC scope cl C env)) (BlkEnd h₀ L m { s with heap := h, toks := tk } ((I, oI) :: (C, oC) :: (D, lst ys) :: news) tk fun y _ => G (i + 1) (ys ++ [y])) E' { s with heap := h, toks := tk })
    (fin : ∀ ys, ys.length = n → G n ys → Fin ys news) : ∀ (k i : Nat) (ys : List Value), i + k = n → ys.length = i → G i ys → CompRest prog w A h₀ L m env elt x scope cl s S P Fin k i ys news
  | 0, i, ys, e, hl, hg => by
    obtain rfl : i = n := e
    exact fin ys hl hg
  | k + 1, i, ys, e, hl, hg => by
    intro v I oI C oC D m₂ h tk E' hP hC hx F N off ne
    refine wpAny_with_toks (Nat.le_refl _) (wpAny_mono (turn i ys v I oI C oC D m₂ h tk _ hP (by first | assumption | (first | lia | omega)) hl hg hC hx F N) (fun y s' h' => ?_) fun _ _ e _ => e)
    obtain ⟨h'', tk'', rfl, F', N', hG⟩ := h'
    intro hle
    exact CompEnd.intro F' N' news (fun p hp => hp) off hS (compKeep G hS turn fin k (i + 1) (ys ++ [y]) (by (first | lia | omega)) (by simp [hl]) (hG hle))
theorem item_last4 {prog : Program} {w : World} {A : Around} {E : Value → Shared → Prop} {s : Shared} {h₀ : Heap} {L l : Addr} {news : List (Addr × Obj)} {vs : List Value} {ns : List Int} {n : Nat} {u : Tok} {value slice : PySem.Expr} {Q : Value → Shared → Prop}
    (N : News h₀ L s.heap news) (hm : (l, listOf vs.toArray n) ∈ news) (hi : IntsAre vs ns) (hl : ns.length = 4) (h : ∀ t, Q (.int (ns.getD 3 0) t) s)
    (hs : subscripted slice false (.ref l) (.int (-1) u) = operate [.ref l, .int (-1) u] (getItem (.ref l) (.int (-1) u)) := by with_unfolding_all rfl) :
    wpAny (model prog w) A (subscriptTail value slice (.ref l) (.int (-1) u)) Q E s := by
  obtain ⟨t, e⟩ := intsAt hi (k := 3) (by (first | lia | omega))
  have hls : s.heap.IsList l vs.toArray := ⟨_, (N _ hm).1, rfl, n, rfl⟩
  have hv : vs.length = 4 := hi.length.trans hl
  exact kde_neg hls (by decide) (by decide) (j := 3) (by rw [hv]; rfl) e (h t) hs
noncomputable def DifG (ks : List Int) (i : Nat) (ys : List Value) : Prop := IntsAre ys ((List.range i).map fun (j : Nat) => ks.getD j 0 - (j : Int))
theorem tail_part (w : World) {loose : List Str} {mean : ExcName → Option Value} {mg mb : Str → Option Value} {g : Heap} {S fa : Addr} {cd : Value} (B₉ : Below callerA g [] g) (X₉ : (Mine.hd.heap_39 w.params).In g) (T₉ : Top topProg loose mean mg mb g)
    {body : List Stmt} {env : Env} (hbody : body = turnBody.drop 6) (henv : env = lawEnv S fa cd) {s : Shared} {Q : Flow → Shared → Prop} {E : Value → Shared → Prop} {m : Str → Option Value}
    (sh W9 D R HL S1 S2 : Addr) (shv : List Value) (nn : Nat) (tps : Array Value) (oR oS : Obj) (T13 : List (Addr × Obj)) (far few z : Int) (tf uf u0 : Tok) (rys ys9 : List Value) (nR nd9 : Nat) (c0 c1 c2 c3 : Nat) (ks : List Int)
    (F₉ : Fr g S s.heap m) (hp : ∀ p ∈ (Str.ofString "heights", Value.ref HL) :: (Str.ofString "reach", Value.int 0 u0) :: gps W9 sh D far few tf uf, m p.1 = some p.2)
    (N₉ : News g S s.heap ((HL, listOf ([] : List Value).toArray 0) :: lawLed sh shv nn tps S1 S2 oR oS T13))
    (hoR : oR.data = .cell (some (.ref R))) (hRm : (R, listOf rys.toArray nR) ∈ T13) (hWm : (W9, listOf ys9.toArray nd9) ∈ T13) (hIr : IntsAre rys ks) (hSr : Sorted ks) (hPr : ks.Perm (up4 c0 c1 c2 c3)) (hI9 : IntsAre ys9 (waysOf [c0, c1, c2, c3]))
    (hc6 : ∀ i, i < 4 → [c0, c1, c2, c3].getD i 0 ≤ 6) (htk : ∀ i t, Value.int i t ∈ rys → t ≠ 0 ∧ t < s.toks) (hfarb : far.natAbs ≤ 40000000) (hOff : OwnOff T13 [sh, 182, S2, S1]) (hlt : AllLt HL (lawLed sh shv nn tps S1 S2 oR oS T13)) (hS2 : S2 = S + 1 + 1) (hS1 : S1 = S + 1)
    (hsh182 : sh ≠ (182 : Nat)) (hshS : sh ≠ S2 ∧ sh ≠ S1)
    (hE : PassesOwn (model PySem.Challenge.rw_sw0054_01.row.prog w) (callerA.deeper env) env E)
    (ret : ∀ h' tk' m' T' e nn', Fr g S h' m' → (∀ p ∈ fps sh D far few tf uf, m' p.1 = some p.2) → News g S h' (lawLed sh (shv ++ [.ref e]) nn' tps S1 S2 oR oS T') → (∀ p ∈ T13, p ∈ T') → OwnOff T' [sh, 182, S2, S1] → ShapeC T' e c0 c1 c2 c3 → Q .next { s with heap := h', toks := tk' }) (hshv : shv.length ≤ 1000) :
    wpAny (model PySem.Challenge.rw_sw0054_01.row.prog w) (callerA.deeper env) (execs body env) Q E s := by
  w_top off
  k_with_none
  k_with "eval Name" => (k_here; k_dflt (refine' nameX_L ?z0F ?z0v ?_ ?z0a ?z0b; (case z0F => k_asm); (case z0a => rfl); (case z0b => rfl); (case z0v => exact Eq.refl (some _)); k_whole))
  k_with "exec For Name Attribute cons nil" => (k_here; (with_unfolding_all refine' For_invVF ?z1kF ?z1k1 ?z1k2 ?_; (case z1kF => assumption); (case z1k1 => exact rfl); (case z1k2 => exact rfl); k_whole))
  k_with "exec For Name Name cons nil" => (k_here; (with_unfolding_all refine' For_invVF ?z2kF ?z2k1 ?z2k2 ?_; (case z2kF => assumption); (case z2k1 => exact rfl); (case z2k2 => exact rfl); k_whole))
  k_with "call builtin:len" => (k_here; (with_reducible show wpAny _ _ (call (Value.builtin "len") [Value.ref _]) _ _ _); k_dflt (refine' kst_len ?z3k1 ?z3k2 ?z3k3 ?z3k4 ?_; (case z3k1 => k_asm); (case z3k2 => k_mem); (case z3k3 => first | exact IntsAre.length (by assumption) | assumption); (case z3k4 => (first | lia | omega)); k_whole))
  k_with "call ref" => (k_here; k_dflt (refine' Ctr.useI (add_spec _ _ _ _ _ _) ?z4k1 ?z4k2 ?z4k3 ?z4k4 ?z4k5 ?z4kK ?z4kb ?z4kd ?z4ku ?_; (case z4k1 => k_asm); (case z4k2 => k_asm); (case z4k3 => k_asm); (case z4k4 => k_asm); (case z4k5 => k_asm); (case z4kK => first | exact rfl | assumption); (case z4kb => first | exact trivial | assumption); (case z4kd => ktr_room); (case z4ku => ktr_units)); (intro _ _ _ _ _); (try dsimp only); (try k_fold); (try k_sweep))
  k_with "call ref" => (k_here; k_dflt (refine' Ctr.useI (sub_spec _ _ _ _ _ _) ?z5k1 ?z5k2 ?z5k3 ?z5k4 ?z5k5 ?z5kK ?z5kb ?z5kd ?z5ku ?_; (case z5k1 => k_asm); (case z5k2 => k_asm); (case z5k3 => k_asm); (case z5k4 => k_asm); (case z5k5 => k_asm); (case z5kK => first | exact rfl | assumption); (case z5kb => first | exact trivial | assumption); (case z5kd => ktr_room); (case z5ku => ktr_units)); (intro _ _ _ _ _); (try dsimp only); (try k_fold); (try k_sweep))
  k_with "call ref" => (k_here; k_dflt (refine' Ctr.useI (product_spec _ _ _ _ _ _ _ _ ?z6c1 ?z6c2 ?z6c3 ?z6c4) ?z6k1 ?z6k2 ?z6k3 ?z6k4 ?z6k5 ?z6kK ?z6kb ?z6kd ?z6ku ?_; (case z6k1 => k_asm); (case z6k2 => k_asm); (case z6k3 => k_asm); (case z6k4 => k_asm); (case z6k5 => k_asm); (case z6c1 => assumption); (case z6c2 => assumption); (case z6c3 => assumption); (case z6c4 => assumption); (case z6kK => first | exact rfl | assumption); (case z6kb => first | exact trivial | assumption); (case z6kd => ktr_room); (case z6ku => ktr_units)); (intro _ _ _ _ _); (try dsimp only); (try k_fold); (try k_sweep))
  k_with "call ref" => (k_here; k_dflt (refine' Ctr.useI (countOf_spec _ _ _ _ _ _ _ _ ?z7c1 ?z7c2 ?z7c3 ?z7c4 ?z7c5) ?z7k1 ?z7k2 ?z7k3 ?z7k4 ?z7k5 ?z7kK ?z7kb ?z7kd ?z7ku ?_; (case z7k1 => k_asm); (case z7k2 => k_asm); (case z7k3 => k_asm); (case z7k4 => k_asm); (case z7k5 => k_asm); (case z7c1 => assumption); (case z7c2 => assumption); (case z7c3 => (first | lia | omega)); (case z7c4 => (show @Ne Nat _ _; (try dsimp only); (first | lia | omega))); (case z7c5 => exact seat_toks (by assumption) (by assumption) (by assumption) (by (try dsimp only); (first | lia | omega))); (case z7kK => first | exact rfl | assumption); (case z7kb => first | exact trivial | assumption); (case z7kd => ktr_room); (case z7ku => ktr_units)); (intro _ _ _ _ _); (try dsimp only); (try k_fold); (try k_sweep))
  k_with "call ref" => (k_here; k_dflt (refine' Ctr.useB (bisect_spec _ _ _ _ _ _ _ _ ?z8c1 ?z8c2 ?z8c3 ?z8c4) ?z8k1 ?z8k2 ?z8k3 ?z8k4 ?z8k5 ?z8kK ?z8kb ?z8kd ?z8ku ?_; (case z8k1 => k_asm); (case z8k2 => k_asm); (case z8k3 => k_asm); (case z8k4 => k_asm); (case z8k5 => k_asm); (case z8c1 => assumption); (case z8c2 => assumption); (case z8c3 => (first | lia | omega)); (case z8c4 => assumption); (case z8kK => first | exact rfl | assumption); (case z8kb => first | exact trivial | assumption); (case z8kd => ktr_room); (case z8ku => ktr_units)); (intro _ _ _ _ _ _ _); (try dsimp only); (try k_fold); (try k_sweep))
  k_with "subscriptTail Name UnaryOp ref int" => (k_here; k_dflt (refine' item_last4 ?z9N ?z9m ?z9i ?z9l ?_; (case z9N => k_asm); (case z9m => assumption); (case z9i => assumption); (case z9l => assumption); k_whole); intro _)
  k_with "execs cons" => (k_here; (fail_if_success (fail_if_success k_gentoks)); (refine keepToks ?_; intro tkQ hQ; (try dsimp only at hQ); (revert tkQ hQ; intro _ _)))
  k_with "subscriptTail Name Name ref int" => (k_here; k_dflt (refine' item_ints ?z11N ?z11m ?z11i ?z11a ?z11b ?z11c ?_; (case z11N => k_asm); (case z11m => assumption); (case z11i => assumption); (case z11a => (first | lia | omega)); (case z11b => (first | lia | omega)); (case z11c => (first | lia | omega)); k_whole); intro _)
  revert X₉
  k_fill
  intro X₉
  obtain ⟨n, hn⟩ : ∃ n : Nat, ks.getD 3 0 = n := by
    have hl : ks.length = 4 := hPr.length_eq
    have hm : ks.getD 3 0 ∈ ks := by
      rw [List.getD_eq_getElem?_getD, List.getElem?_eq_getElem (by (first | lia | omega))]
      exact List.getElem_mem _
    have := hPr.mem_iff.mp hm
    simp only [up4, List.map_cons, List.map_nil, List.mem_cons, List.not_mem_nil, or_false] at this
    rcases this with h | h | h | h <;> exact ⟨_, h⟩
  subst hbody henv
  show wpAny _ (callerA.deeper (envX _ { kind := _, names := _, isGenerator := _, isCoroutine := _, more := _ } _ _ _ _)) (execs [_, _, _] (envX _ { kind := _, names := _, isGenerator := _, isCoroutine := _, more := _ } _ _ _ _)) _ _ _
  replace F₉ := kst_frOut (m₀ := m) (stored := []) (x := Str.ofString "seat") hp (fun _ _ _ _ => rfl) F₉
  dsimp only [kstB, gps, fps] at F₉
  unfold lawLed at N₉
  have hkl : ks.length = 4 := hPr.length_eq
  have hR0 : (R, listOf rys.toArray nR) ∈ (HL, listOf ([] : List Value).toArray 0) :: (sh, listOf shv.toArray nn) :: (182, tabObj tps) :: (S2, oR) :: (S1, oS) :: T13 := .tail _ (.tail _ (.tail _ (.tail _ (.tail _ hRm))))
  subst hS2 hS1
  (try k_fold)
  (repeat' ((fail_if_success (with_reducible show wpAny _ _ (PySem.pyIter _) _ _ _)); (fail_if_success (with_reducible show wpAny _ _ (PySem.exec (PySem.Stmt.While _ _ _ _) _) _ _ _)); (fail_if_success (with_reducible show LCg.CompSrc _ _ _ _ _ _ _ _ _ _ _ _ _ _)); (fail_if_success (with_reducible show wpAny _ _ (PySem.call (PySem.Value.ref _) [_, _, _]) _ _ _)); (fail_if_success (with_reducible show wpAny _ _ (PySem.exec (PySem.Stmt.If _ _ _ _) _) _ _ _)); (fail_if_success (with_reducible show wpAny _ _ (PySem.exec (PySem.Stmt.For _ _ _ _ _) _) _ _ _)); first | ((fail_if_success (fail_if_success (with_reducible show wpAny _ _ _ _ _ (PySem.Shared.mk _ (PySem.Shared.gens (PySem.Shared.mk _ _ _ _ _)) _ _ _)))); dsimp only) | (k_unfold; (try dsimp only)) | (k_end; wrow_close) | walk1 | (dsimp only; walk1) | (leave1; walk_say "STEP leave1"; try dsimp only) | fail "no step"))
  have hb6 : ∀ k ∈ ks, 0 ≤ k ∧ k ≤ 20 := fun k hk => by
    have h0 : c0 ≤ 6 := hc6 0 (by decide)
    have h1 : c1 ≤ 6 := hc6 1 (by decide)
    have h2 : c2 ≤ 6 := hc6 2 (by decide)
    have h3 : c3 ≤ 6 := hc6 3 (by decide)
    have := hPr.mem_iff.mp hk
    simp only [up4, List.map_cons, List.map_nil, List.mem_cons, List.not_mem_nil, or_false] at this
    exact b20 h0 h1 h2 h3 this
  have ht1 : 1 ≤ s.toks := by
    obtain ⟨t, e⟩ := intsAt hIr (k := 0) (by (first | lia | omega))
    exact Nat.lt_of_le_of_lt (Nat.zero_le _) (htk _ t (List.mem_of_getElem? e)).2
  refine for_T (by k_asm) (wpAny_with_toks (n := s.toks) (Nat.le_refl _) ?_)
  (repeat' ((fail_if_success (with_reducible show wpAny _ _ (PySem.pyIter _) _ _ _)); (fail_if_success (with_reducible show wpAny _ _ (PySem.exec (PySem.Stmt.While _ _ _ _) _) _ _ _)); (fail_if_success (with_reducible show LCg.CompSrc _ _ _ _ _ _ _ _ _ _ _ _ _ _)); (fail_if_success (with_reducible show wpAny _ _ (PySem.call (PySem.Value.ref _) [_, _, _]) _ _ _)); (fail_if_success (with_reducible show wpAny _ _ (PySem.exec (PySem.Stmt.If _ _ _ _) _) _ _ _)); (fail_if_success (with_reducible show wpAny _ _ (PySem.exec (PySem.Stmt.For _ _ _ _ _) _) _ _ _)); first | ((fail_if_success (fail_if_success (with_reducible show wpAny _ _ _ _ _ (PySem.Shared.mk _ (PySem.Shared.gens (PySem.Shared.mk _ _ _ _ _)) _ _ _)))); dsimp only) | (k_unfold; (try dsimp only)) | (k_end; wrow_close) | walk1 | (dsimp only; walk1) | (leave1; walk_say "STEP leave1"; try dsimp only) | fail "no step"))
  rename_i R4 F4 N4 _ hle0
  (try dsimp only at hle0)
  rw [hn] at R4
  have hnks : ∀ k ∈ ks, k ≤ (n : Int) := by
    intro k hk
    obtain ⟨j, hj, rfl⟩ := List.getElem_of_mem hk
    have := hSr j 3 (by (first | lia | omega)) (by (first | lia | omega))
    rw [hn, List.getD_eq_getElem?_getD, List.getElem?_eq_getElem hj] at this
    exact this
  have hn20 : n ≤ 20 := by
    have hm : ks.getD 3 0 ∈ ks := by
      rw [List.getD_eq_getElem?_getD, List.getElem?_eq_getElem (by (first | lia | omega))]
      exact List.getElem_mem _
    have := (hb6 _ hm).2
    (first | lia | omega)
  have hSr' : ∀ i j : Nat, i ≤ j → j < ks.length → ks.getD i 0 ≤ ks.getD j 0 := hSr
  refine turns_range (n := n) (SeatJ (hps HL W9 sh D far few tf uf) ks n HL ((sh, listOf shv.toArray nn) :: (182, tabObj tps) :: (S + 1 + 1, oR) :: (S + 1, oS) :: T13)) (by rfl) R4 ?p1 ?p2 F4 N4 ?pj ?pt ?pd
  case p1 =>
    have key : ∀ n : Nat, n < 21 → Builtin.Range.small ((n : Int) - 1) (-1) (-1) = true := by decide
    exact key n (by (first | lia | omega))
  case p2 =>
    have key : ∀ n : Nat, n < 21 → Builtin.Range.rangeSize ((n : Int) - 1) (-1) (-1) = (n : Int) := by decide
    exact key n (by (first | lia | omega))
  case pj =>
    refine ⟨⟨u0, ?_⟩, [], 0, rfl, .nil⟩
    rw [above_top (s := (n : Int) - (0 : Nat)) (by simpa using hnks)]
    kst_all
  case pt =>
    rintro i tv m₁ news₁ h tk own I hle hi ⟨⟨ur, hp1⟩, hv, nh, rfl, hIh⟩ hoffI hown hIo F5 N5
    replace F5 := kst_frOut (m₀ := m₁) (stored := []) (x := Str.ofString "seat") hp1 (fun _ _ _ _ => rfl) F5
    dsimp only [kstB, hps, gps, fps] at F5
    have ek : (n : Int) - 1 + (i : Int) * (-1) = (n : Int) - 1 - i := by (first | lia | omega)
    rw [ek]
    (try dsimp only at hle)
    simp only [List.cons_append] at N5
    have hR5 : (R, listOf rys.toArray nR) ∈ (HL, listOf hv.toArray nh) :: ((sh, listOf shv.toArray nn) :: (182, tabObj tps) :: (S + 1 + 1, oR) :: (S + 1, oS) :: (T13 ++ own)) := .tail _ (.tail _ (.tail _ (.tail _ (.tail _ (List.mem_append_left _ hRm)))))
    have hC5 : (S + 1 + 1, oR) ∈ (HL, listOf hv.toArray nh) :: ((sh, listOf shv.toArray nn) :: (182, tabObj tps) :: (S + 1 + 1, oR) :: (S + 1, oS) :: (T13 ++ own)) := .tail _ (.tail _ (.tail _ (.head _)))
    have hH5 : ∀ p ∈ ((sh, listOf shv.toArray nn) :: (182, tabObj tps) :: (S + 1 + 1, oR) :: (S + 1, oS) :: (T13 ++ own)), p.1 ≠ HL := by
      intro p hp
      have hlt' : ∀ p ∈ (sh, listOf shv.toArray nn) :: (182, tabObj tps) :: (S + 1 + 1, oR) :: (S + 1, oS) :: T13, @LT.lt Nat _ p.1 HL := kst_ltOf hlt
      simp only [List.mem_cons, List.mem_append] at hp
      rcases hp with h | h | h | h | h | h
      · exact Nat.ne_of_lt (hlt' p (by rw [h]; exact .head _))
      · exact Nat.ne_of_lt (hlt' p (by rw [h]; exact .tail _ (.head _)))
      · exact Nat.ne_of_lt (hlt' p (by rw [h]; exact .tail _ (.tail _ (.head _))))
      · exact Nat.ne_of_lt (hlt' p (by rw [h]; exact .tail _ (.tail _ (.tail _ (.head _)))))
      · exact Nat.ne_of_lt (hlt' p (.tail _ (.tail _ (.tail _ (.tail _ h)))))
      · rw [hown p h]; exact Ne.symm (hoffI _ (.head _))
    generalize hL5 : ((sh, listOf shv.toArray nn) :: (182, tabObj tps) :: (S + 1 + 1, oR) :: (S + 1, oS) :: (T13 ++ own)) = T5 at N5 hR5 hC5 hH5
    have hst : above ks ((n : Int) - i) + (ks.count ((n : Int) - 1 - i + 1) : Nat) = above ks ((n : Int) - 1 - i) := by
      have h9 := above_step ks ((n : Int) - i)
      have e1 : (n : Int) - i - 1 = (n : Int) - 1 - i := by (first | lia | omega)
      have e2 : (n : Int) - 1 - i + 1 = (n : Int) - i := by (first | lia | omega)
      rw [e1] at h9
      rw [e2, h9]
    have hnh : hv.length ≤ 1000 := by rw [hIh.length]; simp [heightsOf']; (first | lia | omega)
    refine wpAny_assign_Name ?_
    (repeat' ((fail_if_success (with_reducible show wpAny _ _ (PySem.pyIter _) _ _ _)); (fail_if_success (with_reducible show wpAny _ _ (PySem.exec (PySem.Stmt.While _ _ _ _) _) _ _ _)); first | ((fail_if_success (fail_if_success (with_reducible show wpAny _ _ _ _ _ (PySem.Shared.mk _ (PySem.Shared.gens (PySem.Shared.mk _ _ _ _ _)) _ _ _)))); dsimp only) | (k_unfold; (try dsimp only)) | (k_end; wrow_close) | walk1 | (dsimp only; walk1) | (leave1; walk_say "STEP leave1"; try dsimp only) | fail "no step"))
    · (rename BisP _ _ _ _ => hB9)
      have h9 := above_bis hB9
      rw [hkl] at h9
      exfalso
      (rename _ ≠ _ => hne)
      exact hne (by (first | lia | omega))
    (rename News _ _ _ _ => N6); (rename Fr _ _ _ _ => F6)
    refine' append_K ?a1 ?a2 ?a3 ?_ ?a4
    case a1 => k_asm
    case a2 => k_asm
    case a3 => exact Upd.head hH5
    case a4 => rw [PySem.sizeLine_eq]; simp; (first | lia | omega)
    intro h6 F7 N7
    rw [List.push_toArray] at N7
    (try dsimp only)
    (repeat' ((fail_if_success (with_reducible show wpAny _ _ (PySem.pyIter _) _ _ _)); (fail_if_success (with_reducible show wpAny _ _ (PySem.exec (PySem.Stmt.While _ _ _ _) _) _ _ _)); first | ((fail_if_success (fail_if_success (with_reducible show wpAny _ _ _ _ _ (PySem.Shared.mk _ (PySem.Shared.gens (PySem.Shared.mk _ _ _ _ _)) _ _ _)))); dsimp only) | (k_unfold; (try dsimp only)) | (k_end; wrow_close) | walk1 | (dsimp only; walk1) | (leave1; walk_say "STEP leave1"; try dsimp only) | fail "no step"))
    dsimp only [GPost]
    (rename News _ _ _ _ => N8); (rename Fr _ _ _ _ => F8)
    have en : (n : Int) - ((i + 1 : Nat) : Int) = (n : Int) - 1 - i := by (first | lia | omega)
    refine' ⟨_, _, _, (HL, listOf (hv ++ [Value.int (above ks ((n : Int) - i) + (ks.count ((n : Int) - 1 - i + 1) : Nat)) _]).toArray (nh + 1)) :: ((sh, listOf shv.toArray nn) :: (182, tabObj tps) :: (S + 1 + 1, oR) :: (S + 1, oS) :: T13), rfl, F8, ?e1, ?e2, ⟨_, ?e3⟩, _, _, rfl, ?e4⟩
    case e1 =>
      rw [← hL5] at N8
      exact N8
    case e2 =>
      intro p hp q
      have q := List.mem_singleton.mp q
      rcases List.mem_cons.mp hp with rfl | hp
      · exact hoffI _ (.head _) q
      · exact hoffI p (.tail _ hp) q
    case e3 =>
      rw [en, ← hst]
      kst_all
    case e4 =>
      unfold heightsOf' at hIh ⊢
      rw [List.range_succ, List.map_append, hst]
      exact hIh.append (.cons _ _ .nil)
  rintro m₁ news₁ h tk hle ⟨⟨ur, hp1⟩, hv, nh, rfl, hIh⟩ F5 N5
  replace F5 := kst_frOut (m₀ := m₁) (stored := []) (x := Str.ofString "seat") hp1 (fun _ _ _ _ => rfl) F5
  dsimp only [kstB, hps, gps, fps] at F5
  (try dsimp only)
  (repeat' ((fail_if_success (with_reducible show wpAny _ _ (PySem.pyIter _) _ _ _)); (fail_if_success (with_reducible show wpAny _ _ (PySem.exec (PySem.Stmt.While _ _ _ _) _) _ _ _)); (fail_if_success (with_reducible show LCg.CompSrc _ _ _ _ _ _ _ _ _ _ _ _ _ _)); (fail_if_success (with_reducible show wpAny _ _ (PySem.call (PySem.Value.ref _) [_, _, _]) _ _ _)); (fail_if_success (with_reducible show wpAny _ _ (PySem.exec (PySem.Stmt.If _ _ _ _) _) _ _ _)); (fail_if_success (with_reducible show wpAny _ _ (PySem.exec (PySem.Stmt.For _ _ _ _ _) _) _ _ _)); first | ((fail_if_success (fail_if_success (with_reducible show wpAny _ _ _ _ _ (PySem.Shared.mk _ (PySem.Shared.gens (PySem.Shared.mk _ _ _ _ _)) _ _ _)))); dsimp only) | (k_unfold; (try dsimp only)) | (k_end; wrow_close) | walk1 | (dsimp only; walk1) | (leave1; walk_say "STEP leave1"; try dsimp only) | fail "no step"))
  refine for_T (by k_asm) ?_
  (repeat' ((fail_if_success (with_reducible show wpAny _ _ (PySem.pyIter _) _ _ _)); (fail_if_success (with_reducible show wpAny _ _ (PySem.exec (PySem.Stmt.While _ _ _ _) _) _ _ _)); (fail_if_success (with_reducible show LCg.CompSrc _ _ _ _ _ _ _ _ _ _ _ _ _ _)); (fail_if_success (with_reducible show wpAny _ _ (PySem.call (PySem.Value.ref _) [_, _, _]) _ _ _)); (fail_if_success (with_reducible show wpAny _ _ (PySem.exec (PySem.Stmt.If _ _ _ _) _) _ _ _)); (fail_if_success (with_reducible show wpAny _ _ (PySem.exec (PySem.Stmt.For _ _ _ _ _) _) _ _ _)); first | ((fail_if_success (fail_if_success (with_reducible show wpAny _ _ _ _ _ (PySem.Shared.mk _ (PySem.Shared.gens (PySem.Shared.mk _ _ _ _ _)) _ _ _)))); dsimp only) | (k_unfold; (try dsimp only)) | (k_end; wrow_close) | walk1 | (dsimp only; walk1) | (leave1; walk_say "STEP leave1"; try dsimp only) | fail "no step"))
  rename_i LX _ F22 N22 lLX
  obtain ⟨tx0, N22'⟩ : ∃ tx0, News _ _ _ ((LX, listOf [Value.int 0 tx0, .int far tf].toArray 0) :: (HL, listOf hv.toArray nh) :: (sh, listOf shv.toArray nn) :: (182, tabObj tps) :: (S + 1 + 1, oR) :: (S + 1, oS) :: T13) := ⟨_, N22⟩
  have hIh' : IntsAre hv (heightsOf ks n) := hIh
  have hlh : (heightsOf ks n).length ≤ 100 := by simp [heightsOf]; (first | lia | omega)
  have hbh : ∀ k ∈ heightsOf ks n, 0 ≤ k ∧ k ≤ 20 := by
    intro k hk
    obtain ⟨j, _, rfl⟩ := List.mem_map.mp hk
    have : (ks.filter fun k => decide ((n : Int) - 1 - (j : Int) < k)).length ≤ ks.length := List.length_filter_le _ _
    unfold above
    (first | lia | omega)
  refine turns_list (XJ ((Str.ofString "heights", Value.ref HL) :: gps W9 sh D far few tf uf) ((LX, listOf [Value.int 0 tx0, .int far tf].toArray 0) :: (HL, listOf hv.toArray nh) :: (sh, listOf shv.toArray nn) :: (182, tabObj tps) :: (S + 1 + 1, oR) :: (S + 1, oS) :: T13)) (by rfl) (vs := [Value.int 0 tx0, .int far tf]) (nn := 0) (.head _) F22 N22' ?xj ?xt ?xd
  case xj => exact ⟨by kst_all, rfl⟩
  case xt =>
    rintro i3 v3 m₂ news₂ h3 tk3 own3 I3 hle3 hv3 ⟨hp3, rfl⟩ hoffI3 hown3 hIo3 hIn3 F23 N23
    obtain ⟨x, tx, hxx, rfl⟩ : ∃ x tx, (x = 0 ∨ x = far) ∧ v3 = .int x tx := by
      have hi3 : i3 < 2 := (List.getElem?_eq_some_iff.mp hv3).1
      obtain rfl | rfl : i3 = 0 ∨ i3 = 1 := lt2 (by first | assumption | (first | lia | omega))
      · exact ⟨0, tx0, .inl rfl, (Option.some.inj hv3).symm⟩
      · exact ⟨far, tf, .inr rfl, (Option.some.inj hv3).symm⟩
    have hx : x.natAbs ≤ 40000000 := hxx.elim (fun e => by rw [e]; decide) (fun e => by rw [e]; exact hfarb)
    have hsm := small_sum hbh hlh hx
    have hpl : prodTo (heightsOf ks n) x (heightsOf ks n).length = dueTo (waysOf [c0, c1, c2, c3]) n x (waysOf [c0, c1, c2, c3]).length := by rw [waysOf_len]; exact plain_high hc6 hSr hPr n hn x
    replace F23 := kst_frOut (m₀ := m₂) (stored := []) (x := Str.ofString "x") hp3 (fun _ _ _ _ => rfl) F23
    dsimp only [kstB, gps, fps] at F23
    have hH11 : (HL, listOf hv.toArray nh) ∈ ((LX, listOf [Value.int 0 tx0, .int far tf].toArray 0) :: (HL, listOf hv.toArray nh) :: (sh, listOf shv.toArray nn) :: (182, tabObj tps) :: (S + 1 + 1, oR) :: (S + 1, oS) :: T13) ++ own3 := List.mem_append_left _ (.tail _ (.head _))
    have hR11 : (R, listOf rys.toArray nR) ∈ ((LX, listOf [Value.int 0 tx0, .int far tf].toArray 0) :: (HL, listOf hv.toArray nh) :: (sh, listOf shv.toArray nn) :: (182, tabObj tps) :: (S + 1 + 1, oR) :: (S + 1, oS) :: T13) ++ own3 := List.mem_append_left _ (.tail _ (.tail _ (.tail _ (.tail _ (.tail _ (.tail _ hRm))))))
    have hW11 : (W9, listOf ys9.toArray nd9) ∈ ((LX, listOf [Value.int 0 tx0, .int far tf].toArray 0) :: (HL, listOf hv.toArray nh) :: (sh, listOf shv.toArray nn) :: (182, tabObj tps) :: (S + 1 + 1, oR) :: (S + 1, oS) :: T13) ++ own3 := List.mem_append_left _ (.tail _ (.tail _ (.tail _ (.tail _ (.tail _ (.tail _ hWm))))))
    have hC11 : (S + 1 + 1, oR) ∈ ((LX, listOf [Value.int 0 tx0, .int far tf].toArray 0) :: (HL, listOf hv.toArray nh) :: (sh, listOf shv.toArray nn) :: (182, tabObj tps) :: (S + 1 + 1, oR) :: (S + 1, oS) :: T13) ++ own3 := List.mem_append_left _ (.tail _ (.tail _ (.tail _ (.tail _ (.head _)))))
    generalize hL3 : ((LX, listOf [Value.int 0 tx0, .int far tf].toArray 0) :: (HL, listOf hv.toArray nh) :: (sh, listOf shv.toArray nn) :: (182, tabObj tps) :: (S + 1 + 1, oR) :: (S + 1, oS) :: T13) ++ own3 = T11 at N23 hR11 hW11 hC11 hH11
    refine wpAny_assign_Name ?_
    (repeat' ((fail_if_success (with_reducible show wpAny _ _ (PySem.pyIter _) _ _ _)); (fail_if_success (with_reducible show wpAny _ _ (PySem.exec (PySem.Stmt.While _ _ _ _) _) _ _ _)); (fail_if_success (with_reducible show wpAny _ _ (PySem.call (PySem.Value.ref _) [_, _, _]) _ _ _)); first | ((fail_if_success (fail_if_success (with_reducible show wpAny _ _ _ _ _ (PySem.Shared.mk _ (PySem.Shared.gens (PySem.Shared.mk _ _ _ _ _)) _ _ _)))); dsimp only) | (k_unfold; (try dsimp only)) | (k_end; wrow_close) | walk1 | (dsimp only; walk1) | (leave1; walk_say "STEP leave1"; try dsimp only) | fail "no step"))
    (rename News _ _ _ _ => N24)
    rw [hn]
    refine' Ctr.useIk (due_spec _ W9 ys9 (waysOf [c0, c1, c2, c3]) nd9 n x _ tx _ hW11 hI9 (by rw [waysOf_len]; decide) (by (first | lia | omega)) (Nat.lt_of_le_of_lt hx (by decide))) ?x1 ?x2 ?x3 ?x4 ?x5 ?xK ?xb ?xd2 ?xu ?_
    case x1 => k_asm
    case x2 => k_asm
    case x3 => k_asm
    case x4 => k_asm
    case x5 => k_asm
    case xK => first | exact rfl | assumption
    case xb => exact trivial
    case xd2 => ktr_room
    case xu => ktr_units
    intro h8 tk8 hle8 t8 F24 N25
    (try dsimp only)
    (try k_fold)
    (repeat' ((fail_if_success (with_reducible show wpAny _ _ (PySem.pyIter _) _ _ _)); (fail_if_success (with_reducible show wpAny _ _ (PySem.exec (PySem.Stmt.While _ _ _ _) _) _ _ _)); first | ((fail_if_success (fail_if_success (with_reducible show wpAny _ _ _ _ _ (PySem.Shared.mk _ (PySem.Shared.gens (PySem.Shared.mk _ _ _ _ _)) _ _ _)))); dsimp only) | (k_unfold; (try dsimp only)) | (k_end; wrow_close) | walk1 | (dsimp only; walk1) | (leave1; walk_say "STEP leave1"; try dsimp only) | fail "no step"))
    · exact absurd hpl (by assumption)
    · dsimp only [GPost]
      (rename News _ _ _ _ => N26); (rename Fr _ _ _ _ => F26)
      refine ⟨_, _, _, _, rfl, F26, hL3 ▸ N26, fun p hp q => hoffI3 p hp (List.mem_singleton.mp q), by kst_all, rfl⟩
  rintro m₂ news₂ h3 tk3 hle3 ⟨hp3, rfl⟩ F23 N23
  replace F23 := kst_frOut (m₀ := m₂) (stored := []) (x := Str.ofString "x") hp3 (fun _ _ _ _ => rfl) F23
  dsimp only [kstB, gps, fps] at F23
  (try dsimp only)
  (repeat' ((fail_if_success (with_reducible show wpAny _ _ (PySem.pyIter _) _ _ _)); (fail_if_success (with_reducible show wpAny _ _ (PySem.exec (PySem.Stmt.While _ _ _ _) _) _ _ _)); (fail_if_success (with_reducible show LCg.CompSrc _ _ _ _ _ _ _ _ _ _ _ _ _ _)); (fail_if_success (with_reducible show wpAny _ _ (PySem.call (PySem.Value.ref _) [_, _, _]) _ _ _)); (fail_if_success (with_reducible show wpAny _ _ (PySem.exec (PySem.Stmt.If _ _ _ _) _) _ _ _)); (fail_if_success (with_reducible show wpAny _ _ (PySem.exec (PySem.Stmt.For _ _ _ _ _) _) _ _ _)); first | ((fail_if_success (fail_if_success (with_reducible show wpAny _ _ _ _ _ (PySem.Shared.mk _ (PySem.Shared.gens (PySem.Shared.mk _ _ _ _ _)) _ _ _)))); dsimp only) | (k_unfold; (try dsimp only)) | (k_end; wrow_close) | walk1 | (dsimp only; walk1) | (leave1; walk_say "STEP leave1"; try dsimp only) | fail "no step"))
  rename_i R6 F6 N6 _
  have hR12 : (R, listOf rys.toArray nR) ∈ ((LX, listOf [Value.int 0 tx0, .int far tf].toArray 0) :: (HL, listOf hv.toArray nh) :: (sh, listOf shv.toArray nn) :: (182, tabObj tps) :: (S + 1 + 1, oR) :: (S + 1, oS) :: T13) := .tail _ (.tail _ (.tail _ (.tail _ (.tail _ (.tail _ hRm)))))
  have hC12 : (S + 1 + 1, oR) ∈ ((LX, listOf [Value.int 0 tx0, .int far tf].toArray 0) :: (HL, listOf hv.toArray nh) :: (sh, listOf shv.toArray nn) :: (182, tabObj tps) :: (S + 1 + 1, oR) :: (S + 1, oS) :: T13) := .tail _ (.tail _ (.tail _ (.tail _ (.head _))))
  refine' LCg.CompSrc.range (n := 4) ?ya ?yb ?yc R6 ?yd ?ye ?yf ?_
  case ya => rfl
  case yb => exact F6
  case yc => exact N6
  case yd => decide
  case ye => rfl
  case yf => rw [PySem.sizeLine_eq]; (first | lia | omega)
  intro g7
  refine' compKeep (n := 4) (DifG ks) ?yS ?yt ?yg 4 0 [] rfl rfl ?yh
  case yS => trivial
  case yh => exact .nil
  case yt =>
    intro i ys2 v I2 oI2 C2 oC2 D2 m₂ h2 tk2 E' hv2 hi2 hyl2 hG2 hoC2 hmx2 F13 N13
    obtain ⟨t2, rfl⟩ := hv2
    have e0 : (0 : Int) + (i : Int) = (i : Int) := by (first | lia | omega)
    rw [e0] at hmx2
    have hR13 : (R, listOf rys.toArray nR) ∈ (I2, oI2) :: (C2, oC2) :: (D2, LCg.lst ys2) :: ((LX, listOf [Value.int 0 tx0, .int far tf].toArray 0) :: (HL, listOf hv.toArray nh) :: (sh, listOf shv.toArray nn) :: (182, tabObj tps) :: (S + 1 + 1, oR) :: (S + 1, oS) :: T13) := .tail _ (.tail _ (.tail _ hR12))
    have hC13 : (S + 1 + 1, oR) ∈ (I2, oI2) :: (C2, oC2) :: (D2, LCg.lst ys2) :: ((LX, listOf [Value.int 0 tx0, .int far tf].toArray 0) :: (HL, listOf hv.toArray nh) :: (sh, listOf shv.toArray nn) :: (182, tabObj tps) :: (S + 1 + 1, oR) :: (S + 1, oS) :: T13) := .tail _ (.tail _ (.tail _ hC12))
    show wpAny _ _ _ _ _ _
    (try k_fold)
    (repeat' ((fail_if_success (with_reducible show wpAny _ _ (PySem.pyIter _) _ _ _)); (fail_if_success (with_reducible show wpAny _ _ (PySem.exec (PySem.Stmt.While _ _ _ _) _) _ _ _)); first | ((fail_if_success (fail_if_success (with_reducible show wpAny _ _ _ _ _ (PySem.Shared.mk _ (PySem.Shared.gens (PySem.Shared.mk _ _ _ _ _)) _ _ _)))); dsimp only) | (k_unfold; (try dsimp only)) | (k_end; wrow_close) | walk1 | (dsimp only; walk1) | (leave1; walk_say "STEP leave1"; try dsimp only) | fail "no step"))
    (rename News _ _ _ _ => N14); (rename Fr _ _ _ _ => F14)
    refine ⟨_, _, rfl, F14, N14, fun _ => ?_⟩
    unfold DifG at hG2 ⊢
    rw [List.range_succ, List.map_append]
    rw [Int.toNat_natCast]
    exact hG2.append (.cons _ _ .nil)
  intro ys2 hyl2 hG2 DC h2 tk2 F13 N13 hoff2
  (try dsimp only)
  (repeat' ((fail_if_success (with_reducible show wpAny _ _ (PySem.pyIter _) _ _ _)); (fail_if_success (with_reducible show wpAny _ _ (PySem.exec (PySem.Stmt.While _ _ _ _) _) _ _ _)); (fail_if_success (with_reducible show LCg.CompSrc _ _ _ _ _ _ _ _ _ _ _ _ _ _)); (fail_if_success (with_reducible show wpAny _ _ (PySem.call (PySem.Value.ref _) [_, _, _]) _ _ _)); (fail_if_success (with_reducible show wpAny _ _ (PySem.exec (PySem.Stmt.If _ _ _ _) _) _ _ _)); (fail_if_success (with_reducible show wpAny _ _ (PySem.exec (PySem.Stmt.For _ _ _ _ _) _) _ _ _)); first | ((fail_if_success (fail_if_success (with_reducible show wpAny _ _ _ _ _ (PySem.Shared.mk _ (PySem.Shared.gens (PySem.Shared.mk _ _ _ _ _)) _ _ _)))); dsimp only) | (k_unfold; (try dsimp only)) | (k_end; wrow_close) | walk1 | (dsimp only; walk1) | (leave1; walk_say "STEP leave1"; try dsimp only) | fail "no step"))
  rename_i D3 v3 n3 c3' _ i3 _ p3 o3 _ _ l3 e3 _ F7 N7 l4
  have N8' : News _ _ _ ((sh, listOf shv.toArray nn) :: (182, tabObj tps) :: (S + 1 + 1, oR) :: (S + 1, oS) :: (e3, listOf #[Value.ref W9, .ref D3] 0) :: (D3, listOf v3.toArray c3') :: T13) := kst_newsOf N7 (by kst_inAny)
  have hOffT : OwnOff ((e3, listOf #[Value.ref W9, .ref D3] 0) :: (D3, listOf v3.toArray c3') :: T13) [sh, 182, S + 1 + 1, S + 1] := by
    obtain ⟨-, -, -, a1, a2, a3, a4, -⟩ := l3
    obtain ⟨-, -, -, -, b1, b2, b3, b4, -⟩ := l4
    intro p hp b hb
    simp only [List.mem_cons] at hp
    rcases hp with rfl | rfl | hp
    · simp only [List.mem_cons, List.not_mem_nil, or_false] at hb
      rcases hb with rfl | rfl | rfl | rfl
      · exact Nat.ne_of_gt b1
      · exact Nat.ne_of_gt b2
      · exact Nat.ne_of_gt b3
      · exact Nat.ne_of_gt b4
    · simp only [List.mem_cons, List.not_mem_nil, or_false] at hb
      rcases hb with rfl | rfl | rfl | rfl
      · exact Nat.ne_of_gt a1
      · exact Nat.ne_of_gt a2
      · exact Nat.ne_of_gt a3
      · exact Nat.ne_of_gt a4
    · exact hOff p hp b hb
  refine' append_K F7 N8' (Upd.head ?za) ?_ ?zb
  case za =>
    intro p hp
    rcases List.mem_cons.mp hp with rfl | hp
    · exact Ne.symm hsh182
    rcases List.mem_cons.mp hp with rfl | hp
    · exact Ne.symm hshS.1
    rcases List.mem_cons.mp hp with rfl | hp
    · exact Ne.symm hshS.2
    · exact hOffT p hp _ (.head _)
  case zb => rw [PySem.sizeLine_eq]; simp; (first | lia | omega)
  intro h9 F9 N9
  rw [List.push_toArray] at N9
  (try dsimp only)
  (repeat' ((fail_if_success (with_reducible show wpAny _ _ (PySem.pyIter _) _ _ _)); (fail_if_success (with_reducible show wpAny _ _ (PySem.exec (PySem.Stmt.While _ _ _ _) _) _ _ _)); first | ((fail_if_success (fail_if_success (with_reducible show wpAny _ _ _ _ _ (PySem.Shared.mk _ (PySem.Shared.gens (PySem.Shared.mk _ _ _ _ _)) _ _ _)))); dsimp only) | (k_unfold; (try dsimp only)) | (k_end; wrow_close) | walk1 | (dsimp only; walk1) | (leave1; walk_say "STEP leave1"; try dsimp only) | fail "no step"))
  refine ret _ _ _ _ e3 _ (by k_asm) ?_ (by k_asm) (fun p hp => .tail _ (.tail _ hp)) hOffT ⟨W9, D3, ys9, v3, ks, n3, _, _, _, .head _, .tail _ (.tail _ hWm), hI9, .tail _ (.head _), i3, hSr, hPr, p3, o3⟩
  kst_all
end

-- part S17
section
theorem led_list {h₀ h : Heap} {L a : Addr} {vs : List Value} {n : Nat} {news : List (Addr × Obj)} (N : News h₀ L h news) (hm : (a, listOf vs.toArray n) ∈ news) : h.IsList a vs.toArray := ⟨_, (N _ hm).1, rfl, n, rfl⟩
theorem getItem_list {prog : Program} {w : World} {A : Around} {E : Value → Shared → Prop} {s : Shared} {h₀ : Heap} {L l : Addr} {news : List (Addr × Obj)} {vs : List Value} {n : Nat} {k : Int} {u : Tok} {v : Value} {Q : Value → Shared → Prop}
    (N : News h₀ L s.heap news) (hm : (l, listOf vs.toArray n) ∈ news) (h0 : 0 ≤ k) (hhi : k < 2 ^ 63) (hx : vs[k.toNat]? = some v) (h : Q v s) : wpAny (model prog w) A (getItem (.ref l) (.int k u)) Q E s :=
  wpAny_getItem_list (led_list N hm) h0 hhi (by simpa using hx) h
theorem end_part (w : World) {loose : List Str} {mean : ExcName → Option Value} {mg mb : Str → Option Value} {g : Heap} {S fa : Addr} {cd : Value} (B₉ : Below callerA g [] g) (X₉ : (Mine.hd.heap_39 w.params).In g) (T₉ : Top topProg loose mean mg mb g)
    {body : List Stmt} {env : Env} (hbody : body = (bodyOf lawDef).drop 9) (henv : env = lawEnv S fa cd) {s : Shared} {Q : Flow → Shared → Prop} {E : Value → Shared → Prop} {m : Str → Option Value}
    (sh e1 e2 wa wb da db : Addr) (led : List (Addr × Obj)) (nn n1 n2 n3 m1 m2 m3 : Nat) (vwa vwb vda vdb : List Value) (W1 W2 D1 D2 : List Int)
    (F₉ : Fr g S s.heap m) (hp : ∀ p ∈ [(Str.ofString "shapes", Value.ref sh)], m p.1 = some p.2) (N₉ : News g S s.heap led)
    (hsh : (sh, listOf [Value.ref e1, .ref e2].toArray nn) ∈ led) (x1 : (e1, listOf [Value.ref wa, .ref da].toArray n1) ∈ led) (x2 : (wa, listOf vwa.toArray n2) ∈ led) (x3 : IntsAre vwa W1) (x4 : (da, listOf vda.toArray n3) ∈ led) (x5 : IntsAre vda D1)
    (y1 : (e2, listOf [Value.ref wb, .ref db].toArray m1) ∈ led) (y2 : (wb, listOf vwb.toArray m2) ∈ led) (y3 : IntsAre vwb W2) (y4 : (db, listOf vdb.toArray m3) ∈ led) (y5 : IntsAre vdb D2) (hiff : W1 = W2 ↔ D1 = D2)
    (ret : ∀ h' tk' m', Fr g S h' m' → News g S h' led → Q (.ret (.bool true)) { s with heap := h', toks := tk' }) :
    wpAny (model PySem.Challenge.rw_sw0054_01.row.prog w) (callerA.deeper env) (execs body env) Q E s := by
  w_top off
  k_with_none
  k_with "eval Name" => (k_here; k_dflt (refine' nameX_L ?z0F ?z0v ?_ ?z0a ?z0b; (case z0F => k_asm); (case z0a => rfl); (case z0b => rfl); (case z0v => exact Eq.refl (some _)); k_whole))
  k_with "exec For Name Attribute cons nil" => (k_here; (with_unfolding_all refine' For_invVF ?z1kF ?z1k1 ?z1k2 ?_; (case z1kF => assumption); (case z1k1 => exact rfl); (case z1k2 => exact rfl); k_whole))
  k_with "exec For Name Name cons nil" => (k_here; (with_unfolding_all refine' For_invVF ?z2kF ?z2k1 ?z2k2 ?_; (case z2kF => assumption); (case z2k1 => exact rfl); (case z2k2 => exact rfl); k_whole))
  k_with "call builtin:len" => (k_here; (with_reducible show wpAny _ _ (call (Value.builtin "len") [Value.ref _]) _ _ _); k_dflt (refine' kst_len ?z3k1 ?z3k2 ?z3k3 ?z3k4 ?_; (case z3k1 => k_asm); (case z3k2 => k_mem); (case z3k3 => first | exact IntsAre.length (by assumption) | assumption); (case z3k4 => (first | lia | omega)); k_whole))
  k_with "subscriptTail Name Constant ref int" => (k_here; k_dflt (refine' item_list ?z4N ?z4m ?z4a ?z4b ?z4c ?_; (case z4N => k_asm); (case z4m => assumption); (case z4a => decide); (case z4b => decide); (case z4c => rfl); k_whole))
  k_with "subscriptTail Subscript Constant ref int" => (k_here; k_dflt (refine' item_list ?z5N ?z5m ?z5a ?z5b ?z5c ?_; (case z5N => k_asm); (case z5m => assumption); (case z5a => decide); (case z5b => decide); (case z5c => rfl); k_whole))
  k_with "subscriptTail" => (k_here; k_dflt (refine' item_list ?z6N ?z6m ?z6a ?z6b ?z6c ?_; (case z6N => k_asm); (case z6m => assumption); (case z6a => decide); (case z6b => decide); (case z6c => rfl); k_whole))
  k_with "getItem ref int" => (k_here; k_dflt (refine' getItem_list ?z7N ?z7m ?z7a ?z7b ?z7c ?_; (case z7N => k_asm); (case z7m => assumption); (case z7a => decide); (case z7b => decide); (case z7c => rfl); k_whole))
  k_with "compareOp Eq ref ref" => (k_here; k_dflt (refine' ke_eq_ints (led_list ?z8N ?z8m) (led_list ?z8N2 ?z8m2) ?z8i ?z8j ?z8u ?_; (case z8N => k_asm); (case z8m => assumption); (case z8N2 => k_asm); (case z8m2 => assumption); (case z8i => assumption); (case z8j => assumption); (case z8u => ke_room); k_whole))
  revert X₉
  k_fill
  intro X₉
  subst hbody henv
  show wpAny _ (callerA.deeper (envX _ { kind := _, names := _, isGenerator := _, isCoroutine := _, more := _ } _ _ _ _)) (execs [_] (envX _ { kind := _, names := _, isGenerator := _, isCoroutine := _, more := _ } _ _ _ _)) _ _ _
  replace F₉ := kst_frOut (m₀ := m) (stored := []) (x := Str.ofString "seat") hp (fun _ _ _ _ => rfl) F₉
  dsimp only [kstB] at F₉
  (try k_fold)
  (repeat' ((fail_if_success (with_reducible show wpAny _ _ (PySem.pyIter _) _ _ _)); (fail_if_success (with_reducible show wpAny _ _ (PySem.exec (PySem.Stmt.While _ _ _ _) _) _ _ _)); first | ((fail_if_success (fail_if_success (with_reducible show wpAny _ _ _ _ _ (PySem.Shared.mk _ (PySem.Shared.gens (PySem.Shared.mk _ _ _ _ _)) _ _ _)))); dsimp only) | (k_unfold; (try dsimp only)) | (k_end; wrow_close) | walk1 | (dsimp only; walk1) | (leave1; walk_say "STEP leave1"; try dsimp only) | fail "no step"))
  have e9 : (decide (W1 = W2) == decide (D1 = D2)) = true := by
    by_cases h : W1 = W2
    · rw [decide_eq_true h, decide_eq_true (hiff.mp h)]; rfl
    · rw [decide_eq_false h, decide_eq_false fun q => h (hiff.mpr q)]; rfl
  rw [e9]
  exact ret _ _ _ (by k_asm) (by k_asm)
end

-- part P7
section
noncomputable def tabW : List (Int × List Int) := [(1, [-3, -2, -1, 0]), (1001, [-2, -2, -1, 0]), (2001, [-2, -1, -1, 0]), (3001, [-2, -1, 0, 0]), (4001, [-2, -1, 0, 1]), (5001, [-2, -1, 0, 2]), (6001, [-2, -1, 0, 3]), (1003001, [-1, -1, -1, 0]), (2004001, [-1, -1, 0, 0]), (3005001, [-1, -1, 0, 1]), (4006001, [-1, -1, 0, 2]), (5007001, [-1, -1, 0, 3]), (4005001, [-1, 0, 0, 0]), (6006001, [-1, 0, 0, 1]), (8007001, [-1, 0, 0, 2]), (10008001, [-1, 0, 0, 3]), (9007001, [-1, 0, 1, 1]), (12008001, [-1, 0, 1, 2]), (15009001, [-1, 0, 1, 3]), (16009001, [-1, 0, 2, 2]), (20010001, [-1, 0, 2, 3]), (25011001, [-1, 0, 3, 3]), (30012001, [-1, 0, 3, 4]), (1007006001, [0, 0, 0, 0]), (2010007001, [0, 0, 0, 1]), (3013008001, [0, 0, 0, 2]), (4016009001, [0, 0, 0, 3]), (4014008001, [0, 0, 1, 1]), (6018009001, [0, 0, 1, 2]), (8022010001, [0, 0, 1, 3]), (9023010001, [0, 0, 2, 2]), (12028011001, [0, 0, 2, 3]), (16034012001, [0, 0, 3, 3]), (20040013001, [0, 0, 3, 4]), (8019009001, [0, 1, 1, 1]), (12024010001, [0, 1, 1, 2]), (16029011001, [0, 1, 1, 3]), (18030011001, [0, 1, 2, 2]), (24036012001, [0, 1, 2, 3]), (32043013001, [0, 1, 3, 3]), (40050014001, [0, 1, 3, 4]), (27037012001, [0, 2, 2, 2]), (36044013001, [0, 2, 2, 3]), (48052014001, [0, 2, 3, 3]), (60060015001, [0, 2, 3, 4]), (64061015001, [0, 3, 3, 3]), (80070016001, [0, 3, 3, 4]), (100080017001, [0, 3, 4, 4]), (120090018001, [0, 3, 4, 5]), (1015025010001, [1, 1, 1, 1]), (2022031011001, [1, 1, 1, 2]), (3029037012001, [1, 1, 1, 3]), (4032038012001, [1, 1, 2, 2]), (6042045013001, [1, 1, 2, 3]), (9055053014001, [1, 1, 3, 3]), (12068061015001, [1, 1, 3, 4]), (8046046013001, [1, 2, 2, 2]), (12060054014001, [1, 2, 2, 3]), (18078063015001, [1, 2, 3, 3]), (24096072016001, [1, 2, 3, 4]), (27101073016001, [1, 3, 3, 3]), (36124083017001, [1, 3, 3, 4]), (48152094018001, [1, 3, 4, 4]), (60180105019001, [1, 3, 4, 5]), (16065055014001, [2, 2, 2, 2]), (24084064015001, [2, 2, 2, 3]), (36108074016001, [2, 2, 3, 3]), (48132084017001, [2, 2, 3, 4]), (54138085017001, [2, 3, 3, 3]), (72168096018001, [2, 3, 3, 4]), (96204108019001, [2, 3, 4, 4]), (120240120020001, [2, 3, 4, 5]), (81175097018001, [3, 3, 3, 3]), (108212109019001, [3, 3, 3, 4]), (144256122020001, [3, 3, 4, 4]), (180300135021001, [3, 3, 4, 5]), (192308136021001, [3, 4, 4, 4]), (240360150022001, [3, 4, 4, 5]), (300420165023001, [3, 4, 5, 5]), (360480180024001, [3, 4, 5, 6])]
noncomputable def tabD : List (Int × List Int) := [(3210, [1, 0, 0, 0, 0]), (3211, [1, 1, 0, 0, 0]), (3221, [1, 2, 0, 0, 0]), (3321, [1, 3, 0, 0, 0]), (4321, [1, 4, 0, 0, 0]), (5321, [1, 5, 0, 0, 0]), (6321, [1, 6, 0, 0, 0]), (3222, [1, 3, 1, 0, 0]), (3322, [1, 4, 2, 0, 0]), (4322, [1, 5, 3, 0, 0]), (5322, [1, 6, 4, 0, 0]), (6322, [1, 7, 5, 0, 0]), (3332, [1, 5, 4, 0, 0]), (4332, [1, 6, 6, 0, 0]), (5332, [1, 7, 8, 0, 0]), (6332, [1, 8, 10, 0, 0]), (4432, [1, 7, 9, 0, 0]), (5432, [1, 8, 12, 0, 0]), (6432, [1, 9, 15, 0, 0]), (5532, [1, 9, 16, 0, 0]), (6532, [1, 10, 20, 0, 0]), (6632, [1, 11, 25, 0, 0]), (7632, [1, 12, 30, 0, 0]), (3333, [1, 6, 7, 1, 0]), (4333, [1, 7, 10, 2, 0]), (5333, [1, 8, 13, 3, 0]), (6333, [1, 9, 16, 4, 0]), (4433, [1, 8, 14, 4, 0]), (5433, [1, 9, 18, 6, 0]), (6433, [1, 10, 22, 8, 0]), (5533, [1, 10, 23, 9, 0]), (6533, [1, 11, 28, 12, 0]), (6633, [1, 12, 34, 16, 0]), (7633, [1, 13, 40, 20, 0]), (4443, [1, 9, 19, 8, 0]), (5443, [1, 10, 24, 12, 0]), (6443, [1, 11, 29, 16, 0]), (5543, [1, 11, 30, 18, 0]), (6543, [1, 12, 36, 24, 0]), (6643, [1, 13, 43, 32, 0]), (7643, [1, 14, 50, 40, 0]), (5553, [1, 12, 37, 27, 0]), (6553, [1, 13, 44, 36, 0]), (6653, [1, 14, 52, 48, 0]), (7653, [1, 15, 60, 60, 0]), (6663, [1, 15, 61, 64, 0]), (7663, [1, 16, 70, 80, 0]), (7763, [1, 17, 80, 100, 0]), (8763, [1, 18, 90, 120, 0]), (4444, [1, 10, 25, 15, 1]), (5444, [1, 11, 31, 22, 2]), (6444, [1, 12, 37, 29, 3]), (5544, [1, 12, 38, 32, 4]), (6544, [1, 13, 45, 42, 6]), (6644, [1, 14, 53, 55, 9]), (7644, [1, 15, 61, 68, 12]), (5554, [1, 13, 46, 46, 8]), (6554, [1, 14, 54, 60, 12]), (6654, [1, 15, 63, 78, 18]), (7654, [1, 16, 72, 96, 24]), (6664, [1, 16, 73, 101, 27]), (7664, [1, 17, 83, 124, 36]), (7764, [1, 18, 94, 152, 48]), (8764, [1, 19, 105, 180, 60]), (5555, [1, 14, 55, 65, 16]), (6555, [1, 15, 64, 84, 24]), (6655, [1, 16, 74, 108, 36]), (7655, [1, 17, 84, 132, 48]), (6665, [1, 17, 85, 138, 54]), (7665, [1, 18, 96, 168, 72]), (7765, [1, 19, 108, 204, 96]), (8765, [1, 20, 120, 240, 120]), (6666, [1, 18, 97, 175, 81]), (7666, [1, 19, 109, 212, 108]), (7766, [1, 20, 122, 256, 144]), (8766, [1, 21, 135, 300, 180]), (7776, [1, 21, 136, 308, 192]), (8776, [1, 22, 150, 360, 240]), (8876, [1, 23, 165, 420, 300]), (9876, [1, 24, 180, 480, 360])]
noncomputable def lookL (k : Int) : List (Int × List Int) → List Int
  | [] => []
  | p :: r => if p.1 = k then p.2 else lookL k r
noncomputable def wcode : List Int → Int
  | [] => 0
  | c :: r => c + 1000 * wcode r
noncomputable def dcode : List Int → Int
  | [] => 0
  | c :: r => (c + 3) + 10 * dcode r
noncomputable def difs (a b c d : Nat) : List Int := [(a : Int), b - 1, c - 2, d - 3]
noncomputable def srecs (a b c d : Nat) : List Int := (List.range 5).map fun j => srec [(d : Int), c, b, a] j
noncomputable def sortedB : List Int → Bool
  | [] => true
  | [_] => true
  | a :: b :: r => decide (a ≤ b) && sortedB (b :: r)
noncomputable def tabOk (a b c d : Nat) : Bool :=
  let W := srecs a b c d
  let D := lookL (wcode W) tabW
  D.isPerm (difs a b c d) && sortedB D && decide (lookL (dcode D) tabD = W)
theorem tab_ok : ∀ a < 7, ∀ b < 7, ∀ c < 7, ∀ d < 7, (!(decide (a ≤ b) && decide (b ≤ c) && decide (c ≤ d)) || tabOk a b c d) = true := by decide +kernel
theorem pairwise_of_sortedB : ∀ {l : List Int}, sortedB l = true → l.Pairwise (fun x y => x ≤ y)
  | [], _ => .nil
  | [a], _ => List.pairwise_singleton _ _
  | a :: b :: r, h => by
    rw [sortedB, Bool.and_eq_true] at h
    have ih := pairwise_of_sortedB h.2
    have hab := of_decide_eq_true h.1
    rw [List.pairwise_cons] at ih ⊢
    refine ⟨fun x hx => ?_, List.pairwise_cons.mpr ih⟩
    rcases List.mem_cons.mp hx with rfl | hx
    · exact hab
    · exact Int.le_trans hab (ih.1 x hx)
theorem sorted_perm : ∀ {l l' : List Int}, l.Pairwise (fun x y => x ≤ y) → l'.Pairwise (fun x y => x ≤ y) → l.Perm l' → l = l'
  | [], l', _, _, p => (List.nil_perm.mp p).symm
  | a :: l, [], _, _, p => absurd p.symm (by simp)
  | a :: l, b :: l', h1, h2, p => by
    rw [List.pairwise_cons] at h1 h2
    have hab : a ≤ b := by
      have : b ∈ a :: l := p.mem_iff.mpr (.head _)
      rcases List.mem_cons.mp this with e | h
      · (first | lia | omega)
      · exact h1.1 b h
    have hba : b ≤ a := by
      have : a ∈ b :: l' := p.mem_iff.mp (.head _)
      rcases List.mem_cons.mp this with e | h
      · (first | lia | omega)
      · exact h2.1 a h
    obtain rfl : a = b := Int.le_antisymm hab hba
    rw [sorted_perm h1.2 h2.2 ((List.perm_cons a).mp p)]
theorem tab_at {c0 c1 c2 c3 : Nat} (hc : ∀ i, i < 4 → [c0, c1, c2, c3].getD i 0 ≤ 6) {ks nd : List Int} (hS : Sorted ks) (hP : ks.Perm (up4 c0 c1 c2 c3)) (hD : nd.Perm ((List.range 4).map fun (j : Nat) => ks.getD j 0 - (j : Int))) (ho : nd.Pairwise (fun x y => x ≤ y)) :
    nd = lookL (wcode (waysOf [c0, c1, c2, c3])) tabW ∧ waysOf [c0, c1, c2, c3] = lookL (dcode nd) tabD := by
  obtain ⟨a, b, c, d, rfl, h1, h2, h3, h4, hp⟩ := sorted_nat hc hS hP
  have t := tab_ok a (by (first | lia | omega)) b (by (first | lia | omega)) c (by (first | lia | omega)) d (by (first | lia | omega))
  rw [decide_eq_true h1, decide_eq_true h2, decide_eq_true h3] at t
  have t' : tabOk a b c d = true := by simpa using t
  have hW : waysOf [c0, c1, c2, c3] = srecs a b c d := ways_sorted h1 h2 h3 h4 hp
  unfold tabOk at t'
  simp only [Bool.and_eq_true, decide_eq_true_eq] at t'
  obtain ⟨⟨p1, p2⟩, p3⟩ := t'
  have hD' : nd.Perm (difs a b c d) := by
    have e : ((List.range 4).map fun (j : Nat) => (up4 a b c d).getD j 0 - (j : Int)) = difs a b c d := by
      simp [up4, difs, List.range_succ]
    exact e ▸ hD
  have e1 : nd = lookL (wcode (srecs a b c d)) tabW := sorted_perm ho (pairwise_of_sortedB p2) (hD'.trans (List.isPerm_iff.mp p1).symm)
  rw [hW]
  exact ⟨e1, by rw [e1]; exact p3.symm⟩
theorem plain_same {W1 W2 nd1 nd2 : List Int} (h1 : nd1 = lookL (wcode W1) tabW ∧ W1 = lookL (dcode nd1) tabD) (h2 : nd2 = lookL (wcode W2) tabW ∧ W2 = lookL (dcode nd2) tabD) : W1 = W2 ↔ nd1 = nd2 :=
  ⟨fun e => by rw [h1.1, h2.1, e], fun e => by rw [h1.2, h2.2, e]⟩
end

-- part S14
section
theorem texts_snoc {vs : List Value} {ls : List Str} (h : TextsAre vs ls) (x : Str) (t : Tok) : TextsAre (vs ++ [.str x t]) (ls ++ [x]) := by
  refine ⟨by simp [h.1], fun j hj => ?_⟩
  rw [List.length_append, List.length_singleton] at hj
  by_cases hlt : j < ls.length
  · obtain ⟨u, hu⟩ := h.2 j hlt
    refine ⟨u, ?_⟩
    rw [List.getElem?_append_left (by rw [h.1]; exact hlt), hu]
    simp [List.getD_eq_getElem?_getD, List.getElem?_append_left hlt]
  · obtain rfl : j = ls.length := Nat.le_antisymm (Nat.le_of_lt_succ hj) (Nat.not_lt.mp hlt)
    refine ⟨t, ?_⟩
    rw [← h.1]
    simp [List.getD_eq_getElem?_getD, h.1]
noncomputable def LeadG (its : Array Value) (i : Nat) (ys : List Value) : Prop := ∀ ns, IntsAre its.toList ns → TextsAre ys ((ns.take i).map leadOf)
theorem LeadG.four {d0 d1 d2 d3 : Int} {t0 t1 t2 t3 : Tok} {ys : List Value} (h : LeadG #[Value.int d0 t0, .int d1 t1, .int d2 t2, .int d3 t3] 4 ys) : TextsAre ys [leadOf d0, leadOf d1, leadOf d2, leadOf d3] :=
  h [d0, d1, d2, d3] (.cons _ _ (.cons _ _ (.cons _ _ (.cons _ _ .nil))))
theorem LeadG.step {its : Array Value} {i : Nat} {ys : List Value} {d : Int} {t u : Tok} (h : LeadG its i ys) (e : its[i]? = some (.int d t)) : LeadG its (i + 1) (ys ++ [.str (leadOf d) u]) := by
  intro ns hn
  have hi : its.toList[i]? = some (.int d t) := by simpa using e
  have hlt : i < ns.length := by rw [← hn.length]; exact (List.getElem?_eq_some_iff.mp hi).1
  obtain ⟨t', e'⟩ := intsAt hn hlt
  rw [hi] at e'
  have e9 : ns[i]? = some d := by
    rw [List.getElem?_eq_getElem hlt]
    simp only [Option.some.injEq, Value.int.injEq] at e'
    rw [e'.1, List.getD_eq_getElem?_getD, List.getElem?_eq_getElem hlt]; rfl
  rw [List.take_add_one, e9, List.map_append]
  exact texts_snoc (h ns hn) _ _
inductive IfEnd (g : Heap) (L : Addr) (led : List (Addr × Obj)) (ok : Int → Prop) (ps : Int → Tok → Tok → Tok → List (Str × Value)) (s : Shared) (f : Flow) (s' : Shared) : Prop
  | mk (f0 : f = .next) (h : Heap) (tk : Nat) (m : Str → Option Value) (far : Int) (tf u1 u2 : Tok) (f1 : s' = { s with heap := h, toks := tk }) (f2 : ok far) (f3 : Fr g L h m) (f4 : ∀ p ∈ ps far tf u1 u2, m p.1 = some p.2) (f5 : News g L h led) : IfEnd g L led ok ps s f s'
theorem if_cut {M : Model} {A : Around} {E : Value → Shared → Prop} {s : Shared} {t : Sem Flow} {Q : Flow → Shared → Prop} {g : Heap} {L : Addr} {led : List (Addr × Obj)} (_N : News g L s.heap led) (ok : Int → Prop) (ps : Int → Tok → Tok → Tok → List (Str × Value))
    (h1 : wpAny M A t (IfEnd g L led ok ps s) E s)
    (h2 : ∀ h tk m far tf u1 u2, ok far → Fr g L h m → (∀ p ∈ ps far tf u1 u2, m p.1 = some p.2) → News g L h led → Q .next { s with heap := h, toks := tk }) : wpAny M A t Q E s :=
  wpAny_mono h1 (by rintro f s' ⟨rfl, h, tk, m, far, tf, u1, u2, rfl, a, b, c, d⟩; exact h2 h tk m far tf u1 u2 a b c d) fun _ _ e => e
abbrev lps (D D9 : Addr) (f1 f2 : Int) (far : Int) (tf u1 u2 : Tok) : List (Str × Value) := [(Str.ofString "far", .int far tf), (Str.ofString "second", .int f2 u2), (Str.ofString "first", .int f1 u1), (Str.ofString "leads", .ref D), (Str.ofString "draws", .ref D9)]
inductive LawJ (ps : Tok → List (Str × Value)) (sh S1 S2 : Addr) (tl0 : List (Addr × Obj)) (i : Nat) (m : Str → Option Value) (nx : List (Addr × Obj)) : Prop
  | mk (f0 : (∃ uf, ∀ p ∈ ps uf, m p.1 = some p.2)) (shv : List Value) (nn : Nat) (tps : Array Value) (o1 o2 : Obj) (v1 v2 : Option Value) (tl : List (Addr × Obj)) (f1 : nx = (sh, listOf shv.toArray nn) :: (182, tabObj tps) :: (S2, o1) :: (S1, o2) :: tl) (f2 : o1.data = .cell v1) (f3 : o2.data = .cell v2) (f4 : TabOk tps tl) (f5 : (∀ p ∈ tl0, p ∈ tl)) (f6 : OwnOff tl [sh, 182, S2, S1]) (f7 : shv.length = i) (f8 : ∀ j, j < i → ∃ e, shv[j]? = some (.ref e) ∧ ∃ c0 c1 c2 c3 : Nat, (∀ i, i < 4 → [c0, c1, c2, c3].getD i 0 ≤ 6) ∧ ShapeC tl e c0 c1 c2 c3) : LawJ ps sh S1 S2 tl0 i m nx
theorem ShapeC.mono {a b : List (Addr × Obj)} {e : Addr} {c0 c1 c2 c3 : Nat} (h : ShapeC a e c0 c1 c2 c3) (hs : ∀ p ∈ a, (∃ vs n, p.2.data = .seq vs n) → p ∈ b) : ShapeC b e c0 c1 c2 c3 := by
  obtain ⟨x, y, va, vb, ks, nd, n1, n2, n3, h1, h2, h3, h4, r1, r2, r3, r4, r5⟩ := h
  exact ⟨x, y, va, vb, ks, nd, n1, n2, n3, hs _ h1 ⟨_, _, rfl⟩, hs _ h2 ⟨_, _, rfl⟩, h3, hs _ h4 ⟨_, _, rfl⟩, r1, r2, r3, r4, r5⟩
theorem no_iter {h₀ h : Heap} {L I l : Addr} {T : List (Addr × Obj)} {oI : Obj} {k : Int} (N : News h₀ L h T) (hI : (I, oI) ∈ T) (hd : oI.data = .fields #[.ref l, .int k 0]) :
    ∃ T2 : List (Addr × Obj), (∀ p ∈ T2, p.1 ≠ I ∧ p ∈ T) ∧ (∀ p ∈ T, p.1 ≠ I → p ∈ T2) ∧ (∀ p ∈ T, p.2.data ≠ oI.data → p ∈ T2) := by
  refine ⟨T.filter fun p => !decide ((p.1 : Nat) = I), fun p hp => ?_, fun p hp hne => List.mem_filter.mpr ⟨hp, by simpa using hne⟩, fun p hp hne => List.mem_filter.mpr ⟨hp, ?_⟩⟩
  · obtain ⟨h1, h2⟩ := List.mem_filter.mp hp
    exact ⟨by simpa using h2, h1⟩
  · have : ¬ (p.1 : Nat) = I := fun e => hne (by
      have e1 : (I, p.2) ∈ T := by
        have : p = (I, p.2) := by rw [← e]
        rw [← this]; exact hp
      rw [news_inj N e1 hI])
    simpa using this
noncomputable def ColG (z : Int) (ds : List Int) (i : Nat) (ys : List Value) : Prop := IntsAre ys ((ds.take i).map fun d => colL z 0 (leadOf d).cps.toList)
theorem ints4 {vs : List Value} {a b c d : Int} (h : IntsAre vs [a, b, c, d]) : ∃ t0 t1 t2 t3, vs = [.int a t0, .int b t1, .int c t2, .int d t3] :=
  ints_next h rfl fun _ t0 _ _ e0 f0 h l => ints_next h l fun _ t1 _ _ e1 f1 h l => ints_next h l fun _ t2 _ _ e2 f2 h l => ints_next h l fun _ t3 _ _ e3 f3 h l =>
    ⟨t0, t1, t2, t3, by cases e0; cases e1; cases e2; cases e3; exact cons_eq f0 (cons_eq f1 (cons_eq f2 (cons_eq f3 (List.eq_nil_of_length_eq_zero h.length))))⟩
theorem mem_rot {α : Type} {a b c d e : α} {T : List α} : ∀ p ∈ b :: c :: d :: e :: a :: T, p ∈ a :: b :: c :: d :: e :: T := by
  intro p hp
  simp only [List.mem_cons] at hp ⊢
  rcases hp with h | h | h | h | h | h <;> simp [h]
theorem law_body (w : World) {loose : List Str} {mean : ExcName → Option Value} {mg mb : Str → Option Value} {g : Heap} {S : Nat} {fa sl : Addr} {cd : Value} (B₉ : Below callerA g [] g) (X₉ : (Mine.hd.heap_39 w.params).In g) (T₉ : Top topProg loose mean mg mb g)
    {body : List Stmt} {env : Env} (hbody : body = bodyOf lawDef) (henv : env = lawEnv S fa cd) {h₁ : Heap} {sA : Shared} {t₁ : Nat} {Q : Flow → Shared → Prop} {E : Value → Shared → Prop} {m : Str → Option Value} {svs : List Value} {xs : List Int}
    {oA oB : Obj} {vA vB : Option Value} (hoA : oA.data = .cell vA) (hoB : oB.data = .cell vB) (lifted : g.IsList sl svs.toArray) (hI : IntsAre svs xs) (hlen : xs.length ≤ 63) (codeHd : CodeHd g 184 182) (kl0 : 182 < S)
    (F₉ : Fr g S h₁ m) (hp : ∀ p ∈ [(Str.ofString "script", Value.ref sl)], m p.1 = some p.2) (N₉ : News g S h₁ [(S + 1 + 1, oA), (S + 1, oB), (182, tabObj #[])])
    (hE : PassesOwn (model PySem.Challenge.rw_sw0054_01.row.prog w) (callerA.deeper env) env E)
    (ret : ∀ h' tk' m' sh (shv : List Value) nn tps o1 o2 tl, Fr g S h' m' → News g S h' ((sh, listOf shv.toArray nn) :: (182, tabObj tps) :: (S + 1 + 1, o1) :: (S + 1, o2) :: tl) → Q (.ret (.bool true)) { sA with heap := h', toks := tk' }) :
    wpAny (model PySem.Challenge.rw_sw0054_01.row.prog w) (callerA.deeper env) (execs body env) Q E { sA with heap := h₁, toks := t₁ } := by
  w_top off
  k_with_none
  k_with "eval Name" => (k_here; k_dflt (refine' nameX_L ?z0F ?z0v ?_ ?z0a ?z0b; (case z0F => k_asm); (case z0a => rfl); (case z0b => rfl); (case z0v => exact Eq.refl (some _)); k_whole))
  k_with "exec For Name Attribute cons nil" => (k_here; (with_unfolding_all refine' For_invVF ?z1kF ?z1k1 ?z1k2 ?_; (case z1kF => assumption); (case z1k1 => exact rfl); (case z1k2 => exact rfl); k_whole))
  k_with "exec For Name Name cons nil" => (k_here; (with_unfolding_all refine' For_invVF ?z2kF ?z2k1 ?z2k2 ?_; (case z2kF => assumption); (case z2k1 => exact rfl); (case z2k2 => exact rfl); k_whole))
  k_with "call builtin:len" => (k_here; (with_reducible show wpAny _ _ (call (Value.builtin "len") [Value.ref _]) _ _ _); k_dflt (refine' kst_len ?z3k1 ?z3k2 ?z3k3 ?z3k4 ?_; (case z3k1 => k_asm); (case z3k2 => k_mem); (case z3k3 => first | exact IntsAre.length (by assumption) | assumption); (case z3k4 => (first | lia | omega)); k_whole))
  k_with "call ref" => (k_here; k_dflt (refine' Ctr.useD (draws_spec6 _ _ _ _ _ ?z4c1 ?z4c2) ?z4k1 ?z4k2 ?z4k3 ?z4k4 ?z4k5 ?z4kK ?z4kb ?z4kd ?z4ku ?_; (case z4k1 => k_asm); (case z4k2 => k_asm); (case z4k3 => k_asm); (case z4k4 => k_asm); (case z4k5 => k_asm); (case z4c1 => assumption); (case z4c2 => (first | lia | omega)); (case z4kK => first | exact rfl | assumption); (case z4kb => first | exact trivial | assumption); (case z4kd => ktr_room); (case z4ku => ktr_units)); (intro _ _ _ _ _ _ _ _ _ _ _ _ _ _ _ _ _ _ _); (try dsimp only); (try k_fold); (try k_sweep))
  k_with "call ref" => (k_here; k_dflt (refine' Ctr.useS (lead_spec _ _ _ _) ?z5k1 ?z5k2 ?z5k3 ?z5k4 ?z5k5 ?z5kK ?z5kb ?z5kd ?z5ku ?_; (case z5k1 => k_asm); (case z5k2 => k_asm); (case z5k3 => k_asm); (case z5k4 => k_asm); (case z5k5 => k_asm); (case z5kK => first | exact rfl | assumption); (case z5kb => first | exact trivial | assumption); (case z5kd => ktr_room); (case z5ku => ktr_units)); (intro _ _ _ _ _); (try dsimp only); (try k_fold); (try k_sweep))
  k_with "call ref" => (k_here; k_dflt (refine' Ctr.useI (column_spec _ _ _ _ _ _ ?z6c1 ?z6c2) ?z6k1 ?z6k2 ?z6k3 ?z6k4 ?z6k5 ?z6kK ?z6kb ?z6kd ?z6ku ?_; (case z6k1 => k_asm); (case z6k2 => k_asm); (case z6k3 => k_asm); (case z6k4 => k_asm); (case z6k5 => k_asm); (case z6c1 => assumption); (case z6c2 => assumption); (case z6kK => first | exact rfl | assumption); (case z6kb => first | exact trivial | assumption); (case z6kd => ktr_room); (case z6ku => ktr_units)); (intro _ _ _ _ _); (try dsimp only); (try k_fold); (try k_sweep))
  k_with "call ref" => (k_here; k_dflt (refine' Ctr.useY (ways_spec _ _ _ _ _ _ _ _ _ _ _ _ ?z7c1) ?z7k1 ?z7k2 ?z7k3 ?z7k4 ?z7k5 ?z7kK ?z7kb ?z7kd ?z7ku ?_; (case z7k1 => k_asm); (case z7k2 => k_asm); (case z7k3 => k_asm); (case z7k4 => k_asm); (case z7k5 => k_asm); (case z7c1 => assumption); (case z7kK => first | exact rfl | assumption); (case z7kb => first | exact trivial | assumption); (case z7kd => ktr_room); (case z7ku => ktr_units)); (intro _ _ _ _ _ _ _ _ _); (try dsimp only); (try k_fold); (try k_sweep))
  k_with "call ref" => (k_here; k_dflt (refine' Ctr.useI (add_spec _ _ _ _ _ _) ?z8k1 ?z8k2 ?z8k3 ?z8k4 ?z8k5 ?z8kK ?z8kb ?z8kd ?z8ku ?_; (case z8k1 => k_asm); (case z8k2 => k_asm); (case z8k3 => k_asm); (case z8k4 => k_asm); (case z8k5 => k_asm); (case z8kK => first | exact rfl | assumption); (case z8kb => first | exact trivial | assumption); (case z8kd => ktr_room); (case z8ku => ktr_units)); (intro _ _ _ _ _); (try dsimp only); (try k_fold); (try k_sweep))
  k_with "call ref" => (k_here; k_dflt (refine' Ctr.useI (sub_spec _ _ _ _ _ _) ?z9k1 ?z9k2 ?z9k3 ?z9k4 ?z9k5 ?z9kK ?z9kb ?z9kd ?z9ku ?_; (case z9k1 => k_asm); (case z9k2 => k_asm); (case z9k3 => k_asm); (case z9k4 => k_asm); (case z9k5 => k_asm); (case z9kK => first | exact rfl | assumption); (case z9kb => first | exact trivial | assumption); (case z9kd => ktr_room); (case z9ku => ktr_units)); (intro _ _ _ _ _); (try dsimp only); (try k_fold); (try k_sweep))
  k_with "call ref" => (k_here; k_dflt (refine' Ctr.useIk (product_spec _ _ _ _ _ _ _ _ ?z10c1 ?z10c2 ?z10c3 ?z10c4) ?z10k1 ?z10k2 ?z10k3 ?z10k4 ?z10k5 ?z10kK ?z10kb ?z10kd ?z10ku ?_; (case z10k1 => k_asm); (case z10k2 => k_asm); (case z10k3 => k_asm); (case z10k4 => k_asm); (case z10k5 => k_asm); (case z10c1 => assumption); (case z10c2 => assumption); (case z10c3 => assumption); (case z10c4 => assumption); (case z10kK => first | exact rfl | assumption); (case z10kb => first | exact trivial | assumption); (case z10kd => ktr_room); (case z10ku => ktr_units)); (intro _ _ _ _ _ _); (try dsimp only); (try k_fold); (try k_sweep))
  k_with "exec Assign cons ListComp" => (k_here; k_dflt (refine LCg.Assign_ListComp_U (F₀ := by k_asm) (by rfl) (by with_unfolding_all rfl) (by with_unfolding_all rfl) (by decide) (by rfl) (by decide) (by rfl) (by rfl) (by rfl) ?_))
  revert X₉
  k_fill
  intro X₉
  subst hbody henv
  show wpAny _ (callerA.deeper (envX _ { kind := _, names := _, isGenerator := _, isCoroutine := _, more := _ } _ _ _ _)) (execs [_, _, _, _, _, _, _, _, _, _] (envX _ { kind := _, names := _, isGenerator := _, isCoroutine := _, more := _ } _ _ _ _)) _ _ _
  replace hE : PassesOwn _ (callerA.deeper (envX _ { kind := _, names := _, isGenerator := _, isCoroutine := _, more := _ } _ _ _ _)) (envX _ { kind := _, names := _, isGenerator := _, isCoroutine := _, more := _ } _ _ _ _) _ := hE
  replace F₉ := kst_frOut (m₀ := m) (stored := []) (x := Str.ofString "draws") hp (fun _ _ _ _ => rfl) F₉
  dsimp only [kstB] at F₉
  (try k_fold)
  (repeat' ((fail_if_success (with_reducible show wpAny _ _ (PySem.pyIter _) _ _ _)); (fail_if_success (with_reducible show wpAny _ _ (PySem.exec (PySem.Stmt.While _ _ _ _) _) _ _ _)); (fail_if_success (with_reducible show LCg.CompSrc _ _ _ _ _ _ _ _ _ _ _ _ _ _)); (fail_if_success (with_reducible show wpAny _ _ (PySem.call (PySem.Value.ref _) [_, _, _]) _ _ _)); (fail_if_success (with_reducible show wpAny _ _ (PySem.exec (PySem.Stmt.If _ _ _ _) _) _ _ _)); (fail_if_success (with_reducible show wpAny _ _ (PySem.exec (PySem.Stmt.For _ _ _ _ _) _) _ _ _)); first | (k_unfold; (try dsimp only)) | (k_end; wrow_close) | walk1 | (dsimp only; walk1) | (leave1; walk_say "STEP leave1"; try dsimp only) | fail "no step"))
  rename_i h9 tk9 D9 d0 d1 d2 d3 d4 d5 t0 t1 t2 t3 t4 t5 nn9 hd9 _ DS _ FS NS l1
  refine' LCg.CompSrc.ledger ?za ?zb ?zc ?zd ?ze ?_
  case za => rfl
  case zb => k_asm
  case zc => k_asm
  case zd => k_mem
  case ze => size_fits
  intro _
  refine' compKeep (LeadG #[Value.int d0 t0, .int d1 t1, .int d2 t2, .int d3 t3]) ?zS ?zt ?zf 4 0 [] rfl rfl ?zg
  case zS => exact .inr ⟨_, .head _, rfl, _, rfl⟩
  case zg => intro ns _; exact ⟨rfl, fun j hj => absurd hj (Nat.not_lt_zero _)⟩
  case zt =>
    intro i ys v I oI C oC D m₂ h tk E' hv hi hyl hG hoC hmx F13 N13
    obtain ⟨n, tn, rfl⟩ : ∃ n t, v = .int n t := by
      obtain rfl | rfl | rfl | rfl : i = 0 ∨ i = 1 ∨ i = 2 ∨ i = 3 := lt4 (by first | assumption | (first | lia | omega))
      all_goals (simp at hv; exact ⟨_, _, hv.symm⟩)
    show wpAny _ _ _ _ _ _
    (try k_fold)
    (repeat' ((fail_if_success (with_reducible show wpAny _ _ (PySem.pyIter _) _ _ _)); (fail_if_success (with_reducible show wpAny _ _ (PySem.exec (PySem.Stmt.While _ _ _ _) _) _ _ _)); first | ((fail_if_success (fail_if_success (with_reducible show wpAny _ _ _ _ _ (PySem.Shared.mk _ (PySem.Shared.gens (PySem.Shared.mk _ _ _ _ _)) _ _ _)))); dsimp only) | (k_unfold; (try dsimp only)) | (k_end; wrow_close) | walk1 | (dsimp only; walk1) | (leave1; walk_say "STEP leave1"; try dsimp only) | fail "no step"))
    (rename News _ _ _ _ => N14); (rename Fr _ _ _ _ => F14)
    exact ⟨_, _, rfl, F14, N14, fun _ => hG.step hv⟩
  intro ys hyl hG D h tk F13 N13 hoff
  replace hG := hG.four
  clear FS NS
  (try dsimp only)
  (repeat' ((fail_if_success (with_reducible show wpAny _ _ (PySem.pyIter _) _ _ _)); (fail_if_success (with_reducible show wpAny _ _ (PySem.exec (PySem.Stmt.While _ _ _ _) _) _ _ _)); (fail_if_success (with_reducible show LCg.CompSrc _ _ _ _ _ _ _ _ _ _ _ _ _ _)); (fail_if_success (with_reducible show wpAny _ _ (PySem.call (PySem.Value.ref _) [_, _, _]) _ _ _)); (fail_if_success (with_reducible show wpAny _ _ (PySem.exec (PySem.Stmt.If _ _ _ _) _) _ _ _)); (fail_if_success (with_reducible show wpAny _ _ (PySem.exec (PySem.Stmt.For _ _ _ _ _) _) _ _ _)); first | ((fail_if_success (fail_if_success (with_reducible show wpAny _ _ _ _ _ (PySem.Shared.mk _ (PySem.Shared.gens (PySem.Shared.mk _ _ _ _ _)) _ _ _)))); dsimp only) | (k_unfold; (try dsimp only)) | (k_end; wrow_close) | walk1 | (dsimp only; walk1) | (leave1; walk_say "STEP leave1"; try dsimp only) | fail "no step"))
  obtain ⟨f1, hf1⟩ : ∃ f1, f1 = 1 + d4.fmod 4 := ⟨_, rfl⟩
  obtain ⟨f2, hf2⟩ : ∃ f2, f2 = 1 + (f1 + (d4.fdiv 4).fmod 3).fmod 4 := ⟨_, rfl⟩
  (rename News _ _ _ _ => N8)
  refine if_cut N8 (fun far => far = d5.fdiv 2 ∨ far = -(d5.fdiv 2)) (lps D D9 f1 f2) ?zi ?_
  case zi =>
    (repeat' ((fail_if_success (with_reducible show wpAny _ _ (PySem.pyIter _) _ _ _)); (fail_if_success (with_reducible show wpAny _ _ (PySem.exec (PySem.Stmt.While _ _ _ _) _) _ _ _)); first | ((fail_if_success (fail_if_success (with_reducible show wpAny _ _ _ _ _ (PySem.Shared.mk _ (PySem.Shared.gens (PySem.Shared.mk _ _ _ _ _)) _ _ _)))); dsimp only) | (k_unfold; (try dsimp only)) | (k_end; wrow_close) | walk1 | (dsimp only; walk1) | (leave1; walk_say "STEP leave1"; try dsimp only) | fail "no step"))
    · (rename News _ _ _ _ => N14); (rename Fr _ _ _ _ => F14)
      refine' ⟨rfl, _, _, _, -(d5.fdiv 2), _, _, _, rfl, .inr rfl, F14, ?zp, N14⟩
      case zp =>
        subst hf2 hf1
        kst_all
    · (rename News _ _ _ _ => N14); (rename Fr _ _ _ _ => F14)
      refine' ⟨rfl, _, _, _, d5.fdiv 2, _, _, _, rfl, .inl rfl, F14, ?zp, N14⟩
      case zp =>
        subst hf2 hf1
        kst_all
  intro h tk m far tf u1 u2 hfar F15 hp N15
  (rename News _ _ _ _ => N16)
  replace F15 := kst_frOut (m₀ := m) (stored := []) (x := Str.ofString "few") hp (fun _ _ _ _ => rfl) F15
  dsimp only [kstB, lps] at F15
  (try dsimp only)
  (repeat' ((fail_if_success (with_reducible show wpAny _ _ (PySem.pyIter _) _ _ _)); (fail_if_success (with_reducible show wpAny _ _ (PySem.exec (PySem.Stmt.While _ _ _ _) _) _ _ _)); (fail_if_success (with_reducible show LCg.CompSrc _ _ _ _ _ _ _ _ _ _ _ _ _ _)); (fail_if_success (with_reducible show wpAny _ _ (PySem.call (PySem.Value.ref _) [_, _, _]) _ _ _)); (fail_if_success (with_reducible show wpAny _ _ (PySem.exec (PySem.Stmt.If _ _ _ _) _) _ _ _)); (fail_if_success (with_reducible show wpAny _ _ (PySem.exec (PySem.Stmt.For _ _ _ _ _) _) _ _ _)); first | ((fail_if_success (fail_if_success (with_reducible show wpAny _ _ _ _ _ (PySem.Shared.mk _ (PySem.Shared.gens (PySem.Shared.mk _ _ _ _ _)) _ _ _)))); dsimp only) | (k_unfold; (try dsimp only)) | (k_end; wrow_close) | walk1 | (dsimp only; walk1) | (leave1; walk_say "STEP leave1"; try dsimp only) | fail "no step"))
  refine for_T (by k_asm) ?_
  (repeat' ((fail_if_success (with_reducible show wpAny _ _ (PySem.pyIter _) _ _ _)); (fail_if_success (with_reducible show wpAny _ _ (PySem.exec (PySem.Stmt.While _ _ _ _) _) _ _ _)); (fail_if_success (with_reducible show LCg.CompSrc _ _ _ _ _ _ _ _ _ _ _ _ _ _)); (fail_if_success (with_reducible show wpAny _ _ (PySem.call (PySem.Value.ref _) [_, _, _]) _ _ _)); (fail_if_success (with_reducible show wpAny _ _ (PySem.exec (PySem.Stmt.If _ _ _ _) _) _ _ _)); (fail_if_success (with_reducible show wpAny _ _ (PySem.exec (PySem.Stmt.For _ _ _ _ _) _) _ _ _)); first | ((fail_if_success (fail_if_success (with_reducible show wpAny _ _ _ _ _ (PySem.Shared.mk _ (PySem.Shared.gens (PySem.Shared.mk _ _ _ _ _)) _ _ _)))); dsimp only) | (k_unfold; (try dsimp only)) | (k_end; wrow_close) | walk1 | (dsimp only; walk1) | (leave1; walk_say "STEP leave1"; try dsimp only) | fail "no step"))
  rename_i sh _ hsh _ LS _ F17 N17 hLS
  obtain ⟨few, hfew⟩ : ∃ few, few = 1 + d5.fmod 3 := ⟨_, rfl⟩
  have N18' : News _ _ _ ((sh, listOf #[] 0) :: (182, tabObj #[]) :: (S + 1 + 1, oA) :: (S + 1, oB) :: [(D, LCg.lst ys), (LS, listOf #[Value.int f1 u1, .int f2 u2] 0)]) := kst_newsOf N17 (by kst_inAny)
  obtain ⟨cD, hcD⟩ : ∃ c, LCg.lst ys = listOf ys.toArray c := ⟨_, rfl⟩
  rw [hcD] at N18'
  have N18 : News _ _ _ ((sh, listOf ([] : List Value).toArray 0) :: (182, tabObj #[]) :: (S + 1 + 1, oA) :: (S + 1, oB) :: [(D, listOf ys.toArray cD), (LS, listOf [Value.int f1 u1, .int f2 u2].toArray 0)]) := N18'
  have hsh182 : sh ≠ (182 : Nat) := Nat.ne_of_gt hsh.2.2.2.2.2
  have hS1182 : S + 1 ≠ (182 : Nat) := Nat.ne_of_gt (Nat.lt_succ_of_lt kl0)
  have hS2182 : S + 1 + 1 ≠ (182 : Nat) := Nat.ne_of_gt (Nat.lt_succ_of_lt (Nat.lt_succ_of_lt kl0))
  refine turns_list (LawJ (fps sh D far few tf) sh (S + 1) (S + 1 + 1) [(D, listOf ys.toArray cD), (LS, listOf [Value.int f1 u1, .int f2 u2].toArray 0)]) (by rfl) (vs := [Value.int f1 u1, .int f2 u2]) (.tail _ (.tail _ (.tail _ (.tail _ (.tail _ (.head _)))))) F17 N18 ?zj ?zt ?zd
  case zj =>
    refine' ⟨⟨_, ?zq⟩, [], 0, #[], oA, oB, _, _, _, rfl, hoA, hoB, .inl rfl, fun p hp => hp, ?zo, rfl, fun j hj => absurd hj (Nat.not_lt_zero _)⟩
    case zq => subst hfew; kst_all
    intro p hp b hb
    simp only [List.mem_cons, List.not_mem_nil, or_false] at hp hb
    have hDn := hoff
    simp only [LCg.Off1, and_true] at hDn
    obtain ⟨b1, b2, b3, b4, b5⟩ := hDn
    obtain ⟨a1, a2, a3, a4, a5, a6⟩ := hsh
    obtain ⟨e0, e1, e2, e3, e4, e5, e6⟩ := hLS
    rcases hp with rfl | rfl <;> rcases hb with rfl | rfl | rfl | rfl <;> dsimp only <;> first | exact Ne.symm b5 | exact Ne.symm b4 | exact Ne.symm b3 | exact Nat.ne_of_lt a1 | exact Nat.ne_of_gt e0 | exact Nat.ne_of_gt e4 | exact Nat.ne_of_gt e5 | exact Nat.ne_of_gt e6
  case zt =>
    rintro i v m₁ news₁ h tk own I hle hv ⟨⟨uf, hp1⟩, shv, nn, tps, o1, o2, v1, v2, tl, rfl, ho1, ho2, hTab, hsub, hOff, hshl, hshs⟩ hoffI hown hIo hIn F19 N19
    obtain ⟨z, tz, hz1, hz4, hzi, rfl⟩ : ∃ z tz, 1 ≤ z ∧ z ≤ 4 ∧ z = [f1, f2].getD i 0 ∧ v = .int z tz := by
      have r1 : 1 ≤ f1 ∧ f1 ≤ 4 := by
        rw [hf1, Int.fmod_eq_emod_of_nonneg d4 (by decide)]; exact r14 _
      have r2 : 1 ≤ f2 ∧ f2 ≤ 4 := by
        rw [hf2, Int.fmod_eq_emod_of_nonneg (f1 + (d4.fdiv 4).fmod 3) (by decide)]; exact r14 _
      have hi2 : i < 2 := (List.getElem?_eq_some_iff.mp hv).1
      obtain rfl | rfl : i = 0 ∨ i = 1 := lt2 (by first | assumption | (first | lia | omega))
      · exact ⟨f1, u1, r1.1, r1.2, rfl, (Option.some.inj hv).symm⟩
      · exact ⟨f2, u2, r2.1, r2.2, rfl, (Option.some.inj hv).symm⟩
    replace F19 := kst_frOut (m₀ := m₁) (stored := []) (x := Str.ofString "ways") hp1 (fun _ _ _ _ => rfl) F19
    dsimp only [kstB, fps] at F19
    have hO9 : OwnOff (tl ++ own) [sh, 182, S + 1 + 1, S + 1] := by
      intro p hp b hb
      rcases List.mem_append.mp hp with hp | hp
      · exact hOff p hp b hb
      · rcases hown p hp with e | e
        · rw [e]
          simp only [List.mem_cons, List.not_mem_nil, or_false] at hb
          rcases hb with rfl | rfl | rfl | rfl
          · exact Ne.symm (hoffI _ (.head _))
          · exact Ne.symm (hoffI _ (.tail _ (.head _)))
          · exact Ne.symm (hoffI _ (.tail _ (.tail _ (.head _))))
          · exact Ne.symm (hoffI _ (.tail _ (.tail _ (.tail _ (.head _)))))
        · rw [e]
          exact hOff _ (hsub (LS, _) (.tail _ (.head _))) b hb
    have hT9 : TabOk tps (tl ++ own) := hTab.mono fun p hp => List.mem_append_left _ hp
    have hl9 : (D, listOf ys.toArray cD) ∈ tl ++ own := List.mem_append_left _ (hsub _ (.head _))
    simp only [List.cons_append] at N19
    generalize hT : tl ++ own = T9 at N19 hO9 hT9 hl9
    refine wpAny_assign_Name ?_
    (repeat' ((fail_if_success (with_reducible show wpAny _ _ (PySem.pyIter _) _ _ _)); (fail_if_success (with_reducible show wpAny _ _ (PySem.exec (PySem.Stmt.While _ _ _ _) _) _ _ _)); (fail_if_success (with_reducible show LCg.CompSrc _ _ _ _ _ _ _ _ _ _ _ _ _ _)); (fail_if_success (with_reducible show wpAny _ _ (PySem.call (PySem.Value.ref _) [_, _, _]) _ _ _)); (fail_if_success (with_reducible show wpAny _ _ (PySem.exec (PySem.Stmt.If _ _ _ _) _) _ _ _)); (fail_if_success (with_reducible show wpAny _ _ (PySem.exec (PySem.Stmt.For _ _ _ _ _) _) _ _ _)); first | ((fail_if_success (fail_if_success (with_reducible show wpAny _ _ _ _ _ (PySem.Shared.mk _ (PySem.Shared.gens (PySem.Shared.mk _ _ _ _ _)) _ _ _)))); dsimp only) | (k_unfold; (try dsimp only)) | (k_end; wrow_close) | walk1 | (dsimp only; walk1) | (leave1; walk_say "STEP leave1"; try dsimp only) | fail "no step"))
    rename_i _ oS FS2 NS2 hoS
    refine' LCg.CompSrc.ledger (its := ys.toArray) ?ya ?yb ?yc ?yd ?ye ?_
    case ya => rfl
    case yb => k_asm
    case yc => k_asm
    case yd => exact .tail _ (.tail _ (.tail _ (.tail _ hl9)))
    case ye => rw [List.size_toArray, hyl, PySem.sizeLine_eq]; (first | lia | omega)
    intro g7
    refine' compKeep (n := ys.toArray.size) (ColG z [d0, d1, d2, d3]) ?yS ?yt ?yf _ 0 [] (Nat.zero_add _) rfl ?yg
    case yS => exact .inr ⟨_, .tail _ (.tail _ (.tail _ (.tail _ hl9))), rfl, _, rfl⟩
    case yg => exact .nil
    case yt =>
      intro i ys2 v I2 oI2 C2 oC2 D2 m₂ h2 tk2 E' hv2 hi2 hyl2 hG2 hoC2 hmx2 F13 N13
      have hi4 : i < 4 := by rw [List.size_toArray, hyl] at hi2; exact hi2
      obtain ⟨n2, hn2, tn2, rfl⟩ : ∃ n2, [d0, d1, d2, d3][i]? = some n2 ∧ ∃ t, v = .str (leadOf n2) t := by
        obtain ⟨t9, e9⟩ := hG.2 i (by simpa using hi4)
        have hv2' : ys[i]? = some v := by simpa using hv2
        rw [hv2'] at e9
        obtain rfl | rfl | rfl | rfl : i = 0 ∨ i = 1 ∨ i = 2 ∨ i = 3 := lt4 (by first | assumption | (first | lia | omega))
        all_goals exact ⟨_, rfl, t9, Option.some.inj e9⟩
      have hasc2 : (leadOf n2).cps.all (· < 128) = true := (lead_ok n2).2.2.2.2
      show wpAny _ _ _ _ _ _
      (try k_fold)
      (repeat' ((fail_if_success (with_reducible show wpAny _ _ (PySem.pyIter _) _ _ _)); (fail_if_success (with_reducible show wpAny _ _ (PySem.exec (PySem.Stmt.While _ _ _ _) _) _ _ _)); first | ((fail_if_success (fail_if_success (with_reducible show wpAny _ _ _ _ _ (PySem.Shared.mk _ (PySem.Shared.gens (PySem.Shared.mk _ _ _ _ _)) _ _ _)))); dsimp only) | (k_unfold; (try dsimp only)) | (k_end; wrow_close) | walk1 | (dsimp only; walk1) | (leave1; walk_say "STEP leave1"; try dsimp only) | fail "no step"))
      (rename News _ _ _ _ => N14); (rename Fr _ _ _ _ => F14)
      refine ⟨_, _, rfl, F14, N14, fun _ => ?_⟩
      unfold ColG at hG2 ⊢
      rw [List.take_add_one, hn2, List.map_append]
      exact hG2.append (.cons _ _ .nil)
    intro ys2 hyl2 hG2 DC h2 tk2 F13 N13 hoff2
    have hG3 : IntsAre ys2 [colL z 0 (leadOf d0).cps.toList, colL z 0 (leadOf d1).cps.toList, colL z 0 (leadOf d2).cps.toList, colL z 0 (leadOf d3).cps.toList] := by
      have h9 := hG2
      rw [List.size_toArray, hyl] at h9
      exact h9
    clear hG2
    have ok0 := col_ok d0 hz1 hz4
    have ok1 := col_ok d1 hz1 hz4
    have ok2 := col_ok d2 hz1 hz4
    have ok3 := col_ok d3 hz1 hz4
    obtain ⟨c0, hc0⟩ : ∃ c : Nat, colL z 0 (leadOf d0).cps.toList = c := ⟨_, (Int.toNat_of_nonneg ok0.1).symm⟩
    obtain ⟨c1, hc1⟩ : ∃ c : Nat, colL z 0 (leadOf d1).cps.toList = c := ⟨_, (Int.toNat_of_nonneg ok1.1).symm⟩
    obtain ⟨c2, hc2⟩ : ∃ c : Nat, colL z 0 (leadOf d2).cps.toList = c := ⟨_, (Int.toNat_of_nonneg ok2.1).symm⟩
    obtain ⟨c3, hc3⟩ : ∃ c : Nat, colL z 0 (leadOf d3).cps.toList = c := ⟨_, (Int.toNat_of_nonneg ok3.1).symm⟩
    rw [hc0, hc1, hc2, hc3] at hG3
    rw [hc0] at ok0
    rw [hc1] at ok1
    rw [hc2] at ok2
    rw [hc3] at ok3
    obtain ⟨q0, q1, q2, q3, rfl⟩ := ints4 hG3
    have hc6 : ∀ i, i < 4 → [c0, c1, c2, c3].getD i 0 ≤ 6 := by
      intro i hi
      obtain rfl | rfl | rfl | rfl : i = 0 ∨ i = 1 ∨ i = 2 ∨ i = 3 := lt4 (by first | assumption | (first | lia | omega))
      · exact Int.ofNat_le.mp ok0.2
      · exact Int.ofNat_le.mp ok1.2
      · exact Int.ofNat_le.mp ok2.2
      · exact Int.ofNat_le.mp ok3.2
    obtain ⟨cC, hcC⟩ : ∃ c, LCg.lst [Value.int c0 q0, .int c1 q1, .int c2 q2, .int c3 q3] = listOf [Value.int c0 q0, .int c1 q1, .int c2 q2, .int c3 q3].toArray c := ⟨_, rfl⟩
    rw [hcC] at N13
    (try dsimp only)
    (repeat' ((fail_if_success (with_reducible show wpAny _ _ (PySem.pyIter _) _ _ _)); (fail_if_success (with_reducible show wpAny _ _ (PySem.exec (PySem.Stmt.While _ _ _ _) _) _ _ _)); (fail_if_success (with_reducible show LCg.CompSrc _ _ _ _ _ _ _ _ _ _ _ _ _ _)); (fail_if_success (with_reducible show wpAny _ _ (PySem.call (PySem.Value.ref _) [_, _, _]) _ _ _)); (fail_if_success (with_reducible show wpAny _ _ (PySem.exec (PySem.Stmt.If _ _ _ _) _) _ _ _)); (fail_if_success (with_reducible show wpAny _ _ (PySem.exec (PySem.Stmt.For _ _ _ _ _) _) _ _ _)); first | ((fail_if_success (fail_if_success (with_reducible show wpAny _ _ _ _ _ (PySem.Shared.mk _ (PySem.Shared.gens (PySem.Shared.mk _ _ _ _ _)) _ _ _)))); dsimp only) | (k_unfold; (try dsimp only)) | (k_end; wrow_close) | walk1 | (dsimp only; walk1) | (leave1; walk_say "STEP leave1"; try dsimp only) | fail "no step"))
    rename_i W9 ys9 nd9 hI9 hW9 _ F20 N20
    have hO10 : OwnOff ((W9, listOf ys9.toArray nd9) :: T9) [sh, 182, S + 1 + 1, S + 1] := by
      intro p hp b hb
      rcases List.mem_cons.mp hp with rfl | hp
      · simp only [List.mem_cons, List.not_mem_nil, or_false] at hb
        rcases hb with rfl | rfl | rfl | rfl
        · exact Ne.symm (hW9 _ (.head _))
        · exact Ne.symm (hW9 _ (.tail _ (.head _)))
        · exact Ne.symm (hW9 _ (.tail _ (.tail _ (.head _))))
        · exact Ne.symm (hW9 _ (.tail _ (.tail _ (.tail _ (.head _)))))
      · exact hO9 p hp b hb
    have hleads50 : ∀ lt ∈ [leadOf d0, leadOf d1, leadOf d2, leadOf d3], lt.length ≤ 50 := by
      intro lt hlt
      simp only [List.mem_cons, List.not_mem_nil, or_false] at hlt
      rcases hlt with rfl | rfl | rfl | rfl <;> exact (lead_ok _).2.2.2.1
    have hleadsA : ∀ lt ∈ [leadOf d0, leadOf d1, leadOf d2, leadOf d3], lt.cps.all (· < 128) = true := by
      intro lt hlt
      simp only [List.mem_cons, List.not_mem_nil, or_false] at hlt
      rcases hlt with rfl | rfl | rfl | rfl <;> exact (lead_ok _).2.2.2.2
    refine' Ctr.useR (row_law _ sh (S + 1) (S + 1 + 1) D shv nn tps o1 oS v1 _ ((W9, listOf ys9.toArray nd9) :: T9) ys [leadOf d0, leadOf d1, leadOf d2, leadOf d3] cD z 0 tz _ ho1 hoS hsh182 hS1182 hS2182 (hT9.mono fun p hp => .tail _ hp) hO10 (.tail _ hl9) hG (Nat.le_of_ble_eq_true rfl) hleads50 hleadsA hz1 hz4 (by decide) (by decide)) ?w1 ?w2 ?w3 ?w4 ?w5 ?wK ?wb ?wd ?wu ?_
    case w1 => k_asm
    case w2 => k_asm
    case w3 => k_asm
    case w4 => exact kst_newsOf N20 (fun p hp => mem_rot p hp)
    case w5 => k_asm
    case wK => first | exact rfl | assumption
    case wb => assumption
    case wd => ktr_room
    case wu => ktr_units
    intro h9 tk9 hle9 R rys ks nR tps2 T10 hRm hTs hTab2 hOff2 hIr hSr hPr htkr F21 N21
    unfold lawLed at N21
    have hWm : (W9, listOf ys9.toArray nd9) ∈ T10 := hTs _ (.head _)
    have hDm : (D, listOf ys.toArray cD) ∈ T10 := hTs _ (.tail _ hl9)
    (try dsimp only)
    (try k_fold)
    (repeat' ((fail_if_success (with_reducible show wpAny _ _ (PySem.pyIter _) _ _ _)); (fail_if_success (with_reducible show wpAny _ _ (PySem.exec (PySem.Stmt.While _ _ _ _) _) _ _ _)); (fail_if_success (with_reducible show wpAny _ _ (PySem.call (PySem.Value.ref _) [_, _, _]) _ _ _)); (fail_if_success (with_reducible show wpAny _ _ (PySem.execs (_ :: _) _) _ _ _)); first | ((fail_if_success (fail_if_success (with_reducible show wpAny _ _ _ _ _ (PySem.Shared.mk _ (PySem.Shared.gens (PySem.Shared.mk _ _ _ _ _)) _ _ _)))); dsimp only) | (k_unfold; (try dsimp only)) | (k_end; wrow_close) | walk1 | (dsimp only; walk1) | (leave1; walk_say "STEP leave1"; try dsimp only) | fail "no step"))
    rename_i _ oR _ _ hoR
    refine keepToks ?_
    intro tkX hX
    (try dsimp only at hX)
    have hP4 : ks.Perm (up4 c0 c1 c2 c3) := by
      have e9 : [leadOf d0, leadOf d1, leadOf d2, leadOf d3].map (levOf z 0) = up4 c0 c1 c2 c3 := by
        simp only [List.map_cons, List.map_nil, up4, lev_col _ hz1 hz4 (Int.le_refl 0) (by decide : (0 : Int) < 4), hc0, hc1, hc2, hc3, Int.add_zero]
      exact e9 ▸ hPr
    have hkl : ks.length = 4 := hP4.length_eq
    have hkb : ∀ k ∈ ks, 0 ≤ k ∧ k ≤ 20 := fun k hk => by
      have := hP4.mem_iff.mp hk
      simp only [up4, List.map_cons, List.map_nil, List.mem_cons, List.not_mem_nil, or_false] at this
      exact b20 (hc6 0 (by decide)) (hc6 1 (by decide)) (hc6 2 (by decide)) (hc6 3 (by decide)) this
    have hkl100 : ks.length ≤ 100 := hkl.symm ▸ (by decide : 4 ≤ 100)
    have hI10 : IntsAre ys9 (waysOf [c0, c1, c2, c3]) := hI9
    (repeat' ((fail_if_success (with_reducible show wpAny _ _ (PySem.pyIter _) _ _ _)); (fail_if_success (with_reducible show wpAny _ _ (PySem.exec (PySem.Stmt.While _ _ _ _) _) _ _ _)); (fail_if_success (with_reducible show LCg.CompSrc _ _ _ _ _ _ _ _ _ _ _ _ _ _)); (fail_if_success (with_reducible show wpAny _ _ (PySem.call (PySem.Value.ref _) [_, _, _]) _ _ _)); (fail_if_success (with_reducible show wpAny _ _ (PySem.exec (PySem.Stmt.If _ _ _ _) _) _ _ _)); (fail_if_success (with_reducible show wpAny _ _ (PySem.exec (PySem.Stmt.For _ _ _ _ _) _) _ _ _)); first | ((fail_if_success (fail_if_success (with_reducible show wpAny _ _ _ _ _ (PySem.Shared.mk _ (PySem.Shared.gens (PySem.Shared.mk _ _ _ _ _)) _ _ _)))); dsimp only) | (k_unfold; (try dsimp only)) | (k_end; wrow_close) | walk1 | (dsimp only; walk1) | (leave1; walk_say "STEP leave1"; try dsimp only) | fail "no step"))
    refine for_T (by k_asm) ?_
    (repeat' ((fail_if_success (with_reducible show wpAny _ _ (PySem.pyIter _) _ _ _)); (fail_if_success (with_reducible show wpAny _ _ (PySem.exec (PySem.Stmt.While _ _ _ _) _) _ _ _)); (fail_if_success (with_reducible show LCg.CompSrc _ _ _ _ _ _ _ _ _ _ _ _ _ _)); (fail_if_success (with_reducible show wpAny _ _ (PySem.call (PySem.Value.ref _) [_, _, _]) _ _ _)); (fail_if_success (with_reducible show wpAny _ _ (PySem.exec (PySem.Stmt.If _ _ _ _) _) _ _ _)); (fail_if_success (with_reducible show wpAny _ _ (PySem.exec (PySem.Stmt.For _ _ _ _ _) _) _ _ _)); first | ((fail_if_success (fail_if_success (with_reducible show wpAny _ _ _ _ _ (PySem.Shared.mk _ (PySem.Shared.gens (PySem.Shared.mk _ _ _ _ _)) _ _ _)))); dsimp only) | (k_unfold; (try dsimp only)) | (k_end; wrow_close) | walk1 | (dsimp only; walk1) | (leave1; walk_say "STEP leave1"; try dsimp only) | fail "no step"))
    rename_i LX _ F22 N22 lLX
    obtain ⟨tx0, N22'⟩ : ∃ tx0, News _ _ _ ((LX, listOf [Value.int 0 tx0, .int far tf].toArray 0) :: (sh, listOf shv.toArray nn) :: (182, tabObj tps2) :: (S + 1 + 1, oR) :: (S + 1, oS) :: T10) := ⟨_, N22⟩
    have hd5 := hd9 d5 (.tail _ (.tail _ (.tail _ (.tail _ (.tail _ (.head _))))))
    have hfarb : far.natAbs ≤ 40000000 := by
      rw [Int.fdiv_eq_ediv_of_nonneg _ (by decide)] at hfar
      exact far_b hfar hd5
    refine turns_list (XJ (gps W9 sh D far few tf uf) ((LX, listOf [Value.int 0 tx0, .int far tf].toArray 0) :: (sh, listOf shv.toArray nn) :: (182, tabObj tps2) :: (S + 1 + 1, oR) :: (S + 1, oS) :: T10)) (by rfl) (vs := [Value.int 0 tx0, .int far tf]) (nn := 0) (.head _) F22 N22' ?xj ?xt ?xd
    case xj => exact ⟨by kst_all, rfl⟩
    case xt =>
      rintro i3 v3 m₂ news₂ h3 tk3 own3 I3 hle3 hv3 ⟨hp3, rfl⟩ hoffI3 hown3 hIo3 hIn3 F23 N23
      obtain ⟨x, tx, hxx, rfl⟩ : ∃ x tx, (x = 0 ∨ x = far) ∧ v3 = .int x tx := by
        have hi3 : i3 < 2 := (List.getElem?_eq_some_iff.mp hv3).1
        obtain rfl | rfl : i3 = 0 ∨ i3 = 1 := lt2 (by first | assumption | (first | lia | omega))
        · exact ⟨0, tx0, .inl rfl, (Option.some.inj hv3).symm⟩
        · exact ⟨far, tf, .inr rfl, (Option.some.inj hv3).symm⟩
      have hx : x.natAbs ≤ 40000000 := hxx.elim (fun e => by rw [e]; decide) (fun e => by rw [e]; exact hfarb)
      have hsm := small_sum hkb hkl100 hx
      have hpl : prodTo ks x ks.length = dueTo (waysOf [c0, c1, c2, c3]) 4 x (waysOf [c0, c1, c2, c3]).length := by rw [waysOf_len]; exact plain_ways hc6 hSr hP4 x
      replace F23 := kst_frOut (m₀ := m₂) (stored := []) (x := Str.ofString "x") hp3 (fun _ _ _ _ => rfl) F23
      dsimp only [kstB, gps, fps] at F23
      have hR11 : (R, listOf rys.toArray nR) ∈ ((LX, listOf [Value.int 0 tx0, .int far tf].toArray 0) :: (sh, listOf shv.toArray nn) :: (182, tabObj tps2) :: (S + 1 + 1, oR) :: (S + 1, oS) :: T10) ++ own3 := List.mem_append_left _ (.tail _ (.tail _ (.tail _ (.tail _ (.tail _ hRm)))))
      have hW11 : (W9, listOf ys9.toArray nd9) ∈ ((LX, listOf [Value.int 0 tx0, .int far tf].toArray 0) :: (sh, listOf shv.toArray nn) :: (182, tabObj tps2) :: (S + 1 + 1, oR) :: (S + 1, oS) :: T10) ++ own3 := List.mem_append_left _ (.tail _ (.tail _ (.tail _ (.tail _ (.tail _ hWm)))))
      have hC11 : (S + 1 + 1, oR) ∈ ((LX, listOf [Value.int 0 tx0, .int far tf].toArray 0) :: (sh, listOf shv.toArray nn) :: (182, tabObj tps2) :: (S + 1 + 1, oR) :: (S + 1, oS) :: T10) ++ own3 := List.mem_append_left _ (.tail _ (.tail _ (.tail _ (.head _))))
      generalize hL3 : ((LX, listOf [Value.int 0 tx0, .int far tf].toArray 0) :: (sh, listOf shv.toArray nn) :: (182, tabObj tps2) :: (S + 1 + 1, oR) :: (S + 1, oS) :: T10) ++ own3 = T11 at N23 hR11 hW11 hC11
      refine wpAny_assign_Name ?_
      (repeat' ((fail_if_success (with_reducible show wpAny _ _ (PySem.pyIter _) _ _ _)); (fail_if_success (with_reducible show wpAny _ _ (PySem.exec (PySem.Stmt.While _ _ _ _) _) _ _ _)); (fail_if_success (with_reducible show wpAny _ _ (PySem.call (PySem.Value.ref _) [_, _, _]) _ _ _)); first | ((fail_if_success (fail_if_success (with_reducible show wpAny _ _ _ _ _ (PySem.Shared.mk _ (PySem.Shared.gens (PySem.Shared.mk _ _ _ _ _)) _ _ _)))); dsimp only) | (k_unfold; (try dsimp only)) | (k_end; wrow_close) | walk1 | (dsimp only; walk1) | (leave1; walk_say "STEP leave1"; try dsimp only) | fail "no step"))
      (rename News _ _ _ _ => N24)
      refine' Ctr.useIk (due_spec _ W9 ys9 (waysOf [c0, c1, c2, c3]) nd9 4 x _ tx _ hW11 hI10 (by rw [waysOf_len]; decide) (by decide) (Nat.lt_of_le_of_lt hx (by decide))) ?x1 ?x2 ?x3 ?x4 ?x5 ?xK ?xb ?xd2 ?xu ?_
      case x1 => k_asm
      case x2 => k_asm
      case x3 => k_asm
      case x4 => k_asm
      case x5 => k_asm
      case xK => first | exact rfl | assumption
      case xb => exact trivial
      case xd2 => ktr_room
      case xu => ktr_units
      intro h8 tk8 hle8 t8 F24 N25
      (try dsimp only)
      (try k_fold)
      (repeat' ((fail_if_success (with_reducible show wpAny _ _ (PySem.pyIter _) _ _ _)); (fail_if_success (with_reducible show wpAny _ _ (PySem.exec (PySem.Stmt.While _ _ _ _) _) _ _ _)); first | ((fail_if_success (fail_if_success (with_reducible show wpAny _ _ _ _ _ (PySem.Shared.mk _ (PySem.Shared.gens (PySem.Shared.mk _ _ _ _ _)) _ _ _)))); dsimp only) | (k_unfold; (try dsimp only)) | (k_end; wrow_close) | walk1 | (dsimp only; walk1) | (leave1; walk_say "STEP leave1"; try dsimp only) | fail "no step"))
      · exact absurd hpl (by assumption)
      · dsimp only [GPost]
        (rename News _ _ _ _ => N26); (rename Fr _ _ _ _ => F26)
        refine ⟨_, _, _, _, rfl, F26, hL3 ▸ N26, fun p hp q => hoffI3 p hp (List.mem_singleton.mp q), by kst_all, rfl⟩
    rintro m₂ news₂ h3 tk3 hle3 ⟨hp3, rfl⟩ F23 N23
    (try dsimp only at hle3)
    replace F23 := kst_frOut (m₀ := m₂) (stored := []) (x := Str.ofString "reach") hp3 (fun _ _ _ _ => rfl) F23
    dsimp only [kstB, gps, fps] at F23
    (try dsimp only)
    (repeat' ((fail_if_success (with_reducible show wpAny _ _ (PySem.pyIter _) _ _ _)); (fail_if_success (with_reducible show wpAny _ _ (PySem.exec (PySem.Stmt.While _ _ _ _) _) _ _ _)); (fail_if_success (with_reducible show wpAny _ _ (PySem.call (PySem.Value.ref _) [_, _, _]) _ _ _)); first | ((fail_if_success (fail_if_success (with_reducible show wpAny _ _ _ _ _ (PySem.Shared.mk _ (PySem.Shared.gens (PySem.Shared.mk _ _ _ _ _)) _ _ _)))); dsimp only) | (k_unfold; (try dsimp only)) | (k_end; wrow_close) | walk1 | (dsimp only; walk1) | (leave1; walk_say "STEP leave1"; try dsimp only) | fail "no step"))
    have hfew1 : 1 ≤ few ∧ few < 4 := by
      have := fmod3 d5
      (first | lia | omega)
    refine' Ctr.useR (row_law _ sh (S + 1) (S + 1 + 1) D shv nn tps2 oR oS _ _ T10 ys [leadOf d0, leadOf d1, leadOf d2, leadOf d3] cD z few tz _ hoR hoS hsh182 hS1182 hS2182 hTab2 hOff2 hDm hG (Nat.le_of_ble_eq_true rfl) hleads50 hleadsA hz1 hz4 (Int.le_trans (by decide) hfew1.1) hfew1.2) ?u1 ?u2 ?u3 ?u4 ?u5 ?uK ?ub ?ud ?uu ?_
    case u1 => k_asm
    case u2 => k_asm
    case u3 => k_asm
    case u4 => exact kst_newsOf N23 (by
      intro p hp
      exact .tail _ hp)
    case u5 => k_asm
    case uK => first | exact rfl | assumption
    case ub => assumption
    case ud => ktr_room
    case uu => ktr_units
    intro h7 tk7 hle7 R2 rys2 ks2 nR2 tps3 T13 hRm2 hTs3 hTab3 hOff3 hIr2 hSr2 hPr2 htkr2 F27 N27
    unfold lawLed at N27
    have hP42 : ks2.Perm ((up4 c0 c1 c2 c3).map (· + few)) := by
      have e9 : [leadOf d0, leadOf d1, leadOf d2, leadOf d3].map (levOf z few) = (up4 c0 c1 c2 c3).map (· + few) := by
        simp only [List.map_cons, List.map_nil, up4, lev_col _ hz1 hz4 (Int.le_trans (by decide) hfew1.1 : 0 ≤ few) hfew1.2, hc0, hc1, hc2, hc3]
      exact e9 ▸ hPr2
    have hkl2 : ks2.length ≤ 100 := by rw [hP42.length_eq]; exact Nat.le_of_ble_eq_true rfl
    have hkb2 : ∀ k ∈ ks2, 0 ≤ k ∧ k ≤ 20 := fun k hk => by
      have := hP42.mem_iff.mp hk
      simp only [up4, List.map_cons, List.map_nil, List.mem_cons, List.not_mem_nil, or_false] at this
      exact b20f (hc6 0 (by decide)) (hc6 1 (by decide)) (hc6 2 (by decide)) (hc6 3 (by decide)) hfew1 this
    have hsm2 := small_sum (x := 0) hkb2 hkl2 (by decide)
    have hpl2 : prodTo ks2 0 ks2.length = dueTo (waysOf [c0, c1, c2, c3]) 4 few (waysOf [c0, c1, c2, c3]).length := by rw [waysOf_len]; exact plain_few hc6 few hSr2 hP42
    have hWm3 := hTs3 _ hWm
    have hRm3 := hTs3 _ hRm
    have hDm3 := hTs3 _ hDm
    have hR12 : (R2, listOf rys2.toArray nR2) ∈ (sh, listOf shv.toArray nn) :: (182, tabObj tps3) :: (S + 1 + 1, oR) :: (S + 1, oS) :: T13 := .tail _ (.tail _ (.tail _ (.tail _ hRm2)))
    have hW12 : (W9, listOf ys9.toArray nd9) ∈ (sh, listOf shv.toArray nn) :: (182, tabObj tps3) :: (S + 1 + 1, oR) :: (S + 1, oS) :: T13 := .tail _ (.tail _ (.tail _ (.tail _ hWm3)))
    generalize hL4 : (sh, listOf shv.toArray nn) :: (182, tabObj tps3) :: (S + 1 + 1, oR) :: (S + 1, oS) :: T13 = T14 at N27 hR12 hW12
    (try dsimp only)
    (try k_fold)
    (repeat' ((fail_if_success (with_reducible show wpAny _ _ (PySem.pyIter _) _ _ _)); (fail_if_success (with_reducible show wpAny _ _ (PySem.exec (PySem.Stmt.While _ _ _ _) _) _ _ _)); (fail_if_success (with_reducible show wpAny _ _ (PySem.call (PySem.Value.ref _) [_, _, _]) _ _ _)); first | ((fail_if_success (fail_if_success (with_reducible show wpAny _ _ _ _ _ (PySem.Shared.mk _ (PySem.Shared.gens (PySem.Shared.mk _ _ _ _ _)) _ _ _)))); dsimp only) | (k_unfold; (try dsimp only)) | (k_end; wrow_close) | walk1 | (dsimp only; walk1) | (leave1; walk_say "STEP leave1"; try dsimp only) | fail "no step"))
    (rename News _ _ _ _ => N28)
    refine' Ctr.useIk (due_spec _ W9 ys9 (waysOf [c0, c1, c2, c3]) nd9 4 few _ _ _ hW12 hI10 (by rw [waysOf_len]; decide) (by decide) (few60 hfew1)) ?t1 ?t2 ?t3 ?t4 ?t5 ?tK ?tb ?td ?tu ?_
    case t1 => k_asm
    case t2 => k_asm
    case t3 => k_asm
    case t4 => exact N28
    case t5 => k_asm
    case tK => first | exact rfl | assumption
    case tb => exact trivial
    case td => ktr_room
    case tu => ktr_units
    intro h8 tk8 hle8 t8 F24 N25
    (try dsimp only at hle8 hle7)
    rw [← hL4] at N25
    (try dsimp only)
    (try k_fold)
    (repeat' ((fail_if_success (with_reducible show wpAny _ _ (PySem.pyIter _) _ _ _)); (fail_if_success (with_reducible show wpAny _ _ (PySem.exec (PySem.Stmt.While _ _ _ _) _) _ _ _)); (fail_if_success (with_reducible show wpAny _ _ (PySem.call (PySem.Value.ref _) [_, _, _]) _ _ _)); (fail_if_success (with_reducible show wpAny _ _ (PySem.execs (_ :: _) _) _ _ _)); first | ((fail_if_success (fail_if_success (with_reducible show wpAny _ _ _ _ _ (PySem.Shared.mk _ (PySem.Shared.gens (PySem.Shared.mk _ _ _ _ _)) _ _ _)))); dsimp only) | (k_unfold; (try dsimp only)) | (k_end; wrow_close) | walk1 | (dsimp only; walk1) | (leave1; walk_say "STEP leave1"; try dsimp only) | fail "no step"))
    · exact absurd hpl2 (by assumption)
    refine keepToks ?_
    intro tkY hY
    (try dsimp only at hY)
    walk1
    (repeat' ((fail_if_success (with_reducible show wpAny _ _ (PySem.pyIter _) _ _ _)); (fail_if_success (with_reducible show wpAny _ _ (PySem.exec (PySem.Stmt.While _ _ _ _) _) _ _ _)); (fail_if_success (with_reducible show wpAny _ _ (PySem.call (PySem.Value.ref _) [_, _, _]) _ _ _)); (fail_if_success (with_reducible show wpAny _ _ (PySem.execs (_ :: _) _) _ _ _)); first | ((fail_if_success (fail_if_success (with_reducible show wpAny _ _ _ _ _ (PySem.Shared.mk _ (PySem.Shared.gens (PySem.Shared.mk _ _ _ _ _)) _ _ _)))); dsimp only) | (k_unfold; (try dsimp only)) | (k_end; wrow_close) | walk1 | (dsimp only; walk1) | (leave1; walk_say "STEP leave1"; try dsimp only) | fail "no step"))
    refine keepToks ?_
    intro tkZ hZ
    (try dsimp only at hZ)
    walk1
    (repeat' ((fail_if_success (with_reducible show wpAny _ _ (PySem.pyIter _) _ _ _)); (fail_if_success (with_reducible show wpAny _ _ (PySem.exec (PySem.Stmt.While _ _ _ _) _) _ _ _)); (fail_if_success (with_reducible show wpAny _ _ (PySem.call (PySem.Value.ref _) [_, _, _]) _ _ _)); (fail_if_success (with_reducible show wpAny _ _ (PySem.execs (_ :: _) _) _ _ _)); first | ((fail_if_success (fail_if_success (with_reducible show wpAny _ _ _ _ _ (PySem.Shared.mk _ (PySem.Shared.gens (PySem.Shared.mk _ _ _ _ _)) _ _ _)))); dsimp only) | (k_unfold; (try dsimp only)) | (k_end; wrow_close) | walk1 | (dsimp only; walk1) | (leave1; walk_say "STEP leave1"; try dsimp only) | fail "no step"))
    rename_i HL _ lHL _ F29 N29
    obtain ⟨oI, kI, hoI, hdI⟩ := hIo
    refine' tail_part _ (by assumption) (by assumption) (by assumption) rfl rfl sh W9 D R HL _ _ shv nn tps3 oR oS T13 far few z tf uf _ rys ys9 nR nd9 c0 c1 c2 c3 ks F29 ?v1 N29 hoR hRm3 hWm3 hIr hSr hP4 hI10 hc6 ?v2 hfarb hOff3 lHL rfl rfl hsh182 ⟨Nat.ne_of_gt hsh.2.2.2.1, Nat.ne_of_gt hsh.2.2.2.2.1⟩ ?v4 ?v5 ?v6
    case v1 => kst_all
    case v2 => exact fun i t hm => ⟨(htkr i t hm).1, Nat.lt_of_lt_of_le (htkr i t hm).2 (by (try dsimp only); (first | lia | omega))⟩
    case v4 => first | passes_own | with_unfolding_all passes_own
    case v6 =>
      have hi2 : i < 2 := (List.getElem?_eq_some_iff.mp hv).1
      (first | lia | omega)
    case v5 =>
      intro h30 tk30 m30 T30 e nn30 F30 hp30 N30 hsT hOff30 hSh
      have hT9T : ∀ p ∈ tl ++ own, p ∈ T30 := fun p hp => hsT _ (hTs3 _ (hTs _ (.tail _ (hT ▸ hp))))
      have hIT : (I, oI) ∈ T30 := hT9T _ (List.mem_append_right _ hoI)
      obtain ⟨T2, k1, k2, k3⟩ := no_iter (T := T30) (fun p hp => N30 p (.tail _ (.tail _ (.tail _ (.tail _ hp))))) hIT hdI
      have hold : ∀ p ∈ tl, p ∈ T2 := fun p hp => k2 p (hT9T _ (List.mem_append_left _ hp)) (hoffI p (.tail _ (.tail _ (.tail _ (.tail _ hp)))))
      dsimp only [GPost]
      refine ⟨_, _, _, (sh, listOf (shv ++ [Value.ref e]).toArray nn30) :: (182, tabObj tps3) :: (S + 1 + 1, oR) :: (S + 1, oS) :: T2, rfl, F30, kst_newsOf N30 (fun p hp => ?_), fun p hp q => ?_, ⟨uf, hp30⟩, _, _, _, _, _, _, _, _, rfl, hoR, hoS, ?_, fun p hp => hold p (hsub p hp), fun p hp b hb => hOff30 p (k1 p hp).2 b hb, ?_, ?_⟩
      · simp only [List.cons_append, List.mem_cons, List.mem_append] at hp
        simp only [lawLed, List.mem_cons]
        rcases hp with h | h | h | h | h | h
        · exact .inl h
        · exact .inr (.inl h)
        · exact .inr (.inr (.inl h))
        · exact .inr (.inr (.inr (.inl h)))
        · exact .inr (.inr (.inr (.inr (k1 p h).2)))
        · exact .inr (.inr (.inr (.inr (hT9T _ (List.mem_append_right _ h)))))
      · have q := List.mem_singleton.mp q
        rcases List.mem_cons.mp hp with rfl | hp
        · exact hoffI _ (.head _) q
        rcases List.mem_cons.mp hp with rfl | hp
        · exact hoffI _ (.tail _ (.head _)) q
        rcases List.mem_cons.mp hp with rfl | hp
        · exact hoffI _ (.tail _ (.tail _ (.head _))) q
        rcases List.mem_cons.mp hp with rfl | hp
        · exact hoffI _ (.tail _ (.tail _ (.tail _ (.head _)))) q
        · exact (k1 p hp).1 q
      · rcases hTab3 with rfl | ⟨c', oc, vs, t, rfl, hc, hd, hv9⟩
        · exact .inl rfl
        · refine .inr ⟨c', oc, vs, t, rfl, k3 _ (hsT _ hc) (fun q => ?_), hd, hv9⟩
          have q : oc.data = oI.data := q
          rw [hd, hdI] at q
          injection q with q
          subst q
          simp at hv9
      · rw [List.length_append, hshl]; rfl
      · intro j hj
        by_cases hlt : j < i
        · obtain ⟨e', he', b0, b1, b2, b3, hb6', hs'⟩ := hshs j hlt
          exact ⟨e', by rw [List.getElem?_append_left (hshl.symm ▸ hlt)]; exact he', b0, b1, b2, b3, hb6', hs'.mono fun p hp _ => hold p hp⟩
        · obtain rfl : j = i := Nat.le_antisymm (Nat.le_of_lt_succ hj) (Nat.not_lt.mp hlt)
          exact ⟨e, by rw [List.getElem?_append_right (Nat.le_of_eq hshl), hshl]; simp, c0, c1, c2, c3, hc6, hSh.mono fun p hp ⟨vs, n, q⟩ => k3 p hp (by rw [q, hdI]; intro z; cases z)⟩
  rintro m₁ news₁ h tk hle ⟨⟨uf, hp1⟩, shv, nn, tps, o1, o2, v1, v2, tl, rfl, ho1, ho2, hTab, hsub, hOff, hshl, hshs⟩ F19 N19
  replace F19 := kst_frOut (m₀ := m₁) (stored := []) (x := Str.ofString "x") hp1 (fun _ _ _ _ => rfl) F19
  dsimp only [kstB, fps] at F19
  obtain ⟨e1, he1, a0, a1, a2, a3, ha6, hs1⟩ := hshs 0 (Nat.succ_pos _)
  obtain ⟨e2, he2, b0, b1, b2, b3, hb6, hs2⟩ := hshs 1 (Nat.lt_succ_self 1)
  obtain ⟨s1, rfl⟩ : ∃ _ : Unit, shv = [.ref e1, .ref e2] := by
    refine ⟨(), ?_⟩
    rcases shv with _ | ⟨x, shv⟩; · simp at hshl
    rcases shv with _ | ⟨y, shv⟩; · simp at hshl
    rcases shv with _ | ⟨w, shv⟩
    · simp at he1 he2
      rw [he1, he2]
    · simp at hshl
  clear hshs he1 he2
  obtain ⟨wa, da, vwa, vda, ksa, nda, n1, n2, n3, x1, x2, x3, x4, x5, x6, x7, x8, x9⟩ := hs1
  obtain ⟨wb, db, vwb, vdb, ksb, ndb, m1, m2, m3, y1, y2, y3, y4, y5, y6, y7, y8, y9⟩ := hs2
  have hiff := plain_same (tab_at ha6 x6 x7 x8 x9) (tab_at hb6 y6 y7 y8 y9)
  obtain ⟨led, hled⟩ : ∃ led, led = (sh, listOf [Value.ref e1, .ref e2].toArray nn) :: (182, tabObj tps) :: (S + 1 + 1, o1) :: (S + 1, o2) :: tl := ⟨_, rfl⟩
  have inl : ∀ p ∈ tl, p ∈ led := fun p hp => by rw [hled]; exact .tail _ (.tail _ (.tail _ (.tail _ hp)))
  rw [← hled] at N19
  (try dsimp only)
  refine end_part _ (by assumption) (by assumption) (by assumption) rfl rfl sh e1 e2 wa wb da db led nn n1 n2 n3 m1 m2 m3 vwa vwb vda vdb _ _ nda ndb F19 ?_ N19 (by rw [hled]; exact .head _) (inl _ x1) (inl _ x2) x3 (inl _ x4) x5 (inl _ y1) (inl _ y2) y3 (inl _ y4) y5 hiff ?_
  · kst_all
  intro h40 tk40 m40 F40 N40
  subst hled
  exact ret _ _ _ _ _ _ _ _ _ _ F40 N40
theorem law_t : PySem.Challenge.rw_sw0054_01.Holds := hd (by
  w_top off
  k_with_none
  k_with "eval Name" => (k_here; k_dflt (refine' nameX_L ?z0F ?z0v ?_ ?z0a ?z0b; (case z0F => k_asm); (case z0a => rfl); (case z0b => rfl); (case z0v => exact Eq.refl (some _)); k_whole))
  k_with "exec For Name Attribute cons nil" => (k_here; (with_unfolding_all refine' For_invVF ?z1kF ?z1k1 ?z1k2 ?_; (case z1kF => assumption); (case z1k1 => exact rfl); (case z1k2 => exact rfl); k_whole))
  k_with "exec For Name Name cons nil" => (k_here; (with_unfolding_all refine' For_invVF ?z2kF ?z2k1 ?z2k2 ?_; (case z2kF => assumption); (case z2k1 => exact rfl); (case z2k2 => exact rfl); k_whole))
  k_with "call builtin:len" => (k_here; (with_reducible show wpAny _ _ (call (Value.builtin "len") [Value.ref _]) _ _ _); k_dflt (refine' kst_len ?z3k1 ?z3k2 ?z3k3 ?z3k4 ?_; (case z3k1 => k_asm); (case z3k2 => k_mem); (case z3k3 => first | exact IntsAre.length (by assumption) | assumption); (case z3k4 => (first | lia | omega)); k_whole))
  k_with "call ref" => (k_here; k_dflt (refine' Ctr.useD (draws_spec6 _ _ _ _ _ ?z4c1 ?z4c2) ?z4k1 ?z4k2 ?z4k3 ?z4k4 ?z4k5 ?z4kK ?z4kb ?z4kd ?z4ku ?_; (case z4k1 => k_asm); (case z4k2 => k_asm); (case z4k3 => k_asm); (case z4k4 => k_asm); (case z4k5 => k_asm); (case z4c1 => assumption); (case z4c2 => (first | lia | omega)); (case z4kK => first | exact rfl | assumption); (case z4kb => first | exact trivial | assumption); (case z4kd => ktr_room); (case z4ku => ktr_units)); (intro _ _ _ _ _ _ _ _ _ _ _ _ _ _ _ _ _ _ _); (try dsimp only); (try k_fold); (try k_sweep))
  k_with "call ref" => (k_here; k_dflt (refine' Ctr.useS (lead_spec _ _ _ _) ?z5k1 ?z5k2 ?z5k3 ?z5k4 ?z5k5 ?z5kK ?z5kb ?z5kd ?z5ku ?_; (case z5k1 => k_asm); (case z5k2 => k_asm); (case z5k3 => k_asm); (case z5k4 => k_asm); (case z5k5 => k_asm); (case z5kK => first | exact rfl | assumption); (case z5kb => first | exact trivial | assumption); (case z5kd => ktr_room); (case z5ku => ktr_units)); (intro _ _ _ _ _); (try dsimp only); (try k_fold); (try k_sweep))
  k_with "call ref" => (k_here; k_dflt (refine' Ctr.useI (column_spec _ _ _ _ _ _ ?z6c1 ?z6c2) ?z6k1 ?z6k2 ?z6k3 ?z6k4 ?z6k5 ?z6kK ?z6kb ?z6kd ?z6ku ?_; (case z6k1 => k_asm); (case z6k2 => k_asm); (case z6k3 => k_asm); (case z6k4 => k_asm); (case z6k5 => k_asm); (case z6c1 => assumption); (case z6c2 => assumption); (case z6kK => first | exact rfl | assumption); (case z6kb => first | exact trivial | assumption); (case z6kd => ktr_room); (case z6ku => ktr_units)); (intro _ _ _ _ _); (try dsimp only); (try k_fold); (try k_sweep))
  k_with "call ref" => (k_here; k_dflt (refine' Ctr.useY (ways_spec _ _ _ _ _ _ _ _ _ _ _ _ ?z7c1) ?z7k1 ?z7k2 ?z7k3 ?z7k4 ?z7k5 ?z7kK ?z7kb ?z7kd ?z7ku ?_; (case z7k1 => k_asm); (case z7k2 => k_asm); (case z7k3 => k_asm); (case z7k4 => k_asm); (case z7k5 => k_asm); (case z7c1 => assumption); (case z7kK => first | exact rfl | assumption); (case z7kb => first | exact trivial | assumption); (case z7kd => ktr_room); (case z7ku => ktr_units)); (intro _ _ _ _ _ _ _ _ _); (try dsimp only); (try k_fold); (try k_sweep))
  k_with "call ref" => (k_here; k_dflt (refine' Ctr.useI (add_spec _ _ _ _ _ _) ?z8k1 ?z8k2 ?z8k3 ?z8k4 ?z8k5 ?z8kK ?z8kb ?z8kd ?z8ku ?_; (case z8k1 => k_asm); (case z8k2 => k_asm); (case z8k3 => k_asm); (case z8k4 => k_asm); (case z8k5 => k_asm); (case z8kK => first | exact rfl | assumption); (case z8kb => first | exact trivial | assumption); (case z8kd => ktr_room); (case z8ku => ktr_units)); (intro _ _ _ _ _); (try dsimp only); (try k_fold); (try k_sweep))
  k_with "call ref" => (k_here; k_dflt (refine' Ctr.useI (sub_spec _ _ _ _ _ _) ?z9k1 ?z9k2 ?z9k3 ?z9k4 ?z9k5 ?z9kK ?z9kb ?z9kd ?z9ku ?_; (case z9k1 => k_asm); (case z9k2 => k_asm); (case z9k3 => k_asm); (case z9k4 => k_asm); (case z9k5 => k_asm); (case z9kK => first | exact rfl | assumption); (case z9kb => first | exact trivial | assumption); (case z9kd => ktr_room); (case z9ku => ktr_units)); (intro _ _ _ _ _); (try dsimp only); (try k_fold); (try k_sweep))
  k_with "call ref" => (k_here; k_dflt (refine' Ctr.useIk (product_spec _ _ _ _ _ _ _ _ ?z10c1 ?z10c2 ?z10c3 ?z10c4) ?z10k1 ?z10k2 ?z10k3 ?z10k4 ?z10k5 ?z10kK ?z10kb ?z10kd ?z10ku ?_; (case z10k1 => k_asm); (case z10k2 => k_asm); (case z10k3 => k_asm); (case z10k4 => k_asm); (case z10k5 => k_asm); (case z10c1 => assumption); (case z10c2 => assumption); (case z10c3 => assumption); (case z10c4 => assumption); (case z10kK => first | exact rfl | assumption); (case z10kb => first | exact trivial | assumption); (case z10kd => ktr_room); (case z10ku => ktr_units)); (intro _ _ _ _ _ _); (try dsimp only); (try k_fold); (try k_sweep))
  k_with "exec Assign cons ListComp" => (k_here; k_dflt (refine LCg.Assign_ListComp_U (F₀ := by k_asm) (by rfl) (by with_unfolding_all rfl) (by with_unfolding_all rfl) (by decide) (by rfl) (by decide) (by rfl) (by rfl) (by rfl) ?_))
  k_go0
  (rename Shared => sA)
  rename_i oA oB hoA hoB kX0 kX kT kK kF kN kl0
  refine' law_body _ kK kX kT rfl rfl hoA hoB (by assumption) (by assumption) (by (first | lia | omega)) (by assumption) kl0 kF ?hp kN ?hE ?_
  case hp => exact fun p hp => by obtain rfl := List.mem_singleton.mp hp; with_unfolding_all rfl
  case hE => first | passes_own | with_unfolding_all passes_own
  intro h40 tk40 m40 sh shv nn tps o1 o2 tl F40 N40
  (try dsimp only)
  (repeat' ((fail_if_success (with_reducible show wpAny _ _ (PySem.pyIter _) _ _ _)); (fail_if_success (with_reducible show wpAny _ _ (PySem.exec (PySem.Stmt.While _ _ _ _) _) _ _ _)); first | ((fail_if_success (fail_if_success (with_reducible show wpAny _ _ _ _ _ (PySem.Shared.mk _ (PySem.Shared.gens (PySem.Shared.mk _ _ _ _ _)) _ _ _)))); dsimp only) | (k_unfold; (try dsimp only)) | (k_end; wrow_close) | walk1 | (dsimp only; walk1) | (leave1; walk_say "STEP leave1"; try dsimp only) | fail "no step"))
  )
end

end Mine
theorem PySem.Challenge.cw_sw0054_01_holds : PySem.Challenge.rw_sw0054_01.Holds :=
  Mine.law_t
