import PyProof.Rows.All
import Wide.All
import OpenK.AllK
import Wide.FinOn
import PySem.Challenge.RW_vj0010_01
set_option Elab.async false
namespace Mine
section
open PySem PySem.W PyProof.Rows
set_option maxRecDepth 100000
set_option maxHeartbeats 8000000
open_top hd for PySem.Challenge.rw_vj0010_01
end
section
open PySem PySem.W PyProof.Rows
local macro_rules | `(tactic| walk_at "idle 0") => `(tactic| skip)
theorem fillT (P : Prop) (h : (PySem.Challenge.rw_vj0010_01 = PySem.Challenge.rw_vj0010_01 ∧ hd.heap_39 = hd.heap_39) → P) : P := h ⟨rfl, rfl⟩
/-- what a call of the def at f does: from any frame, with the ledger news; R: what it hands back, and the ledger behind it -/
def Tell (w : World) (p : Program) (loose : List Str) (mean : ExcName → Option Value) (mg mb : Str → Option Value) (f : Addr) (D U : Nat) (news : List (Addr × Obj)) (vs : List Value) (R : Value → List (Addr × Obj) → Prop) : Prop :=
  ∀ (dp un : Nat) (gd : Option (List Code)) (cn : Str) (cs : Scope) (a : Addr) (ccd : Value) (cl : List (Str × Addr)) (outer : List Env) (A₀ : Around) (base h₀ : Heap) (L : Addr) (m : Str → Option Value) (s : Shared) (Q E : Value → Shared → Prop),
    Below A₀ base outer h₀ → Fr h₀ L s.heap m → (hd.heap_39 w.params).In h₀ → News h₀ L s.heap news → Top p loose mean mg mb h₀ → cs.kind = .function → dp + D < recursionLimit → un + U < cLine →
    (∀ v news' h' tk', R v news' → Fr h₀ L h' m → News h₀ L h' news' → Q v { s with heap := h', toks := tk' }) →
    wpAny (model PySem.Challenge.pw_vj0010_01 w) (ktrTop dp un gd cn cs L a ccd cl outer) (call (.ref f) vs) Q E s
theorem Tell.use {w : World} {p : Program} {loose : List Str} {mean : ExcName → Option Value} {mg mb : Str → Option Value} {f : Addr} {D U : Nat} {news : List (Addr × Obj)} {vs : List Value} {R : Value → List (Addr × Obj) → Prop}
    {dp un : Nat} {gd : Option (List Code)} {cn : Str} {cs : Scope} {a : Addr} {ccd : Value} {cl : List (Str × Addr)} {outer : List Env} {A₀ : Around} {base h₀ : Heap} {L : Addr} {m : Str → Option Value} {s : Shared} {Q E : Value → Shared → Prop}
    (B : Below A₀ base outer h₀) (F : Fr h₀ L s.heap m) (X : (hd.heap_39 w.params).In h₀) (N : News h₀ L s.heap news) (T : Top p loose mean mg mb h₀) (hk : cs.kind = .function) (C : Tell w p loose mean mg mb f D U news vs R) (hd : dp + D < recursionLimit) (hu : un + U < cLine)
    (ret : ∀ v news' h' tk', R v news' → Fr h₀ L h' m → News h₀ L h' news' → Q v { s with heap := h', toks := tk' }) :
    wpAny (model PySem.Challenge.pw_vj0010_01 w) (ktrTop dp un gd cn cs L a ccd cl outer) (call (.ref f) vs) Q E s :=
  C _ _ _ _ _ _ _ _ _ _ _ _ _ _ _ _ _ B F X N T hk hd hu ret
end
section
open PySem PySem.W PyProof.Rows
set_option maxRecDepth 100000
set_option maxHeartbeats 8000000
local macro_rules | `(tactic| walk_at "idle 0") => `(tactic| skip)
local macro_rules | `(tactic| walk_at "idle 1") => `(tactic| skip)
variable {w : World} {p : Program} {loose : List Str} {mean : ExcName → Option Value} {mg mb : Str → Option Value}
local macro_rules | `(tactic| k_all) => `(tactic| assumption)
theorem take_ok {rest : List (Addr × Obj)} {l D : Addr} {ws : List Value} {ns : List Int} {k n : Nat} {at0 many : Int} {t u : Tok}
    (hD : D ≠ l) (hI : IntsAre ws ns) (hn : ns.length ≤ 70) (h0 : 0 ≤ at0) (h1 : at0 < 1000) (hm : 0 < many) (hm2 : many < 1000)
    (hrest : ∀ q ∈ rest, q.1 ≠ l) :
    Tell w p loose mean mg mb 648 1 8 ((l, W.listOf #[.ref D, .int at0 t] n) :: (D, W.listOf ws.toArray k) :: rest) [.ref l, .int many u]
      (fun v news' => ∃ x tv ta, v = .int x tv ∧ 0 ≤ x ∧ x < many ∧ news' = (l, W.listOf #[.ref D, .int (at0 + 1) ta] n) :: (D, W.listOf ws.toArray k) :: rest) := by
  unfold Tell
  intro dp un gd cn cs a ccd cl outer A₀ base h₀ L m s Q E B F X N T hk hdp hun hret
  refine fillT _ ?_
  k_fill
  intro _
  refine wpAny_call ?_
  k_dflt cell_enter
  k_steps
  all_goals
    (rename Fr _ _ _ _ => kF); (rename News _ _ _ _ => kN)
    exact hret _ _ _ _ ⟨_, _, _, rfl, Int.fmod_nonneg_of_pos _ hm, Int.fmod_lt_of_pos _ hm, rfl⟩ kF (cb_drop kN (fun _ h => .tail _ h))
end
section
open PySem PySem.W PyProof.Rows
open PySem.Builtin.Int (intBits)
/-! a small language of ints, and what the walk makes of it -/
inductive IE where
  | loc (i : Nat)
  | glo (j : Nat)
  | lit (x : Int)
  | bin (op : Operator) (l r : IE)
  | item (i : Nat) (k : Nat)
inductive IS where
  | set (i : Nat) (e : IE)
  | aug (i : Nat) (op : Operator) (e : IE)
  | tup (is : List Nat) (es : List IE)
inductive IV where
  | i (x : Int)
  | t (xs : List Int)
def lineB : Nat := 8000
def binV (op : Operator) (a b : Int) : Option Int := match op with
  | .Add => some (a + b)
  | .Sub => some (a - b)
  | .Mult => if intBits a ≤ lineB ∧ intBits b ≤ lineB then some (a * b) else none
  | .FloorDiv => if b ≠ 0 ∧ intBits a ≤ lineB ∧ intBits b ≤ lineB then some (a.fdiv b) else none
  | .Mod => if b ≠ 0 then some (a.fmod b) else none
  | .Pow => if 0 ≤ b ∧ b ≤ 8 ∧ intBits a ≤ lineB then some (a ^ b.toNat) else none
  | .BitAnd => some (Builtin.bitAnd a b)
  | .BitOr => some (Builtin.bitOr a b)
  | .BitXor => some (Builtin.bitXor a b)
  | .LShift => if 0 ≤ b ∧ b ≤ 1000 ∧ intBits a ≤ lineB then some (a * 2 ^ b.toNat) else none
  | .RShift => if 0 ≤ b then some (a.fdiv (2 ^ b.toNat)) else none
  | _ => none
def evI (gm : List (Str × Int)) (ρ : List (Option IV)) : IE → Option Int
  | .loc i => match ρ[i]? with
    | some (some (.i x)) => some x
    | _ => none
  | .glo j => (gm[j]?).map (·.2)
  | .lit x => some x
  | .bin op l r => (evI gm ρ l).bind fun a => (evI gm ρ r).bind fun b => binV op a b
  | .item i k => match ρ[i]? with
    | some (some (.t xs)) => xs[k]?
    | _ => none
def evL (gm : List (Str × Int)) (ρ : List (Option IV)) : List IE → Option (List Int)
  | [] => some []
  | e :: r => (evI gm ρ e).bind fun v => (evL gm ρ r).map (v :: ·)
def puts (ρ : List (Option IV)) : List Nat → List Int → List (Option IV)
  | i :: is, v :: vs => puts (ρ.set i (some (.i v))) is vs
  | _, _ => ρ
def evS (gm : List (Str × Int)) (ρ : List (Option IV)) : IS → Option (List (Option IV))
  | .set i e => (evI gm ρ e).map fun v => ρ.set i (some (.i v))
  | .aug i op e => if op = .BitOr then (evI gm ρ (.loc i)).bind fun a => (evI gm ρ e).bind fun b => some (ρ.set i (some (.i (Builtin.bitOr a b)))) else none
  | .tup is es => if is.length = es.length ∧ es.length ≤ 8 then (evL gm ρ es).map fun vs => puts ρ is vs else none
def evSs (gm : List (Str × Int)) (ρ : List (Option IV)) : List IS → Option (List (Option IV))
  | [] => some ρ
  | s :: r => (evS gm ρ s).bind fun ρ' => evSs gm ρ' r
/-! the text against it -/
def isE (nm : List Str) (gm : List (Str × Int)) : IE → Expr → Bool
  | .loc i, .Name x _ => nm[i]? == some x
  | .glo j, .Name x _ => (gm[j]?).map (·.1) == some x
  | .lit v, .Constant (.int w) _ _ => v == w
  | .bin op l r, .BinOp l' op' r' _ => op == op' && isE nm gm l l' && isE nm gm r r'
  | .item i k, .Subscript (.Name x _) (.Constant (.int w) _ _) _ => nm[i]? == some x && w == (k : Int) && decide (k < 1000)
  | _, _ => false
def isL (nm : List Str) (gm : List (Str × Int)) : List IE → List Expr → Bool
  | [], [] => true
  | e :: r, e' :: r' => isE nm gm e e' && isL nm gm r r'
  | _, _ => false
def isN (nm : List Str) : List Nat → List Expr → Bool
  | [], [] => true
  | i :: r, .Name x _ :: r' => nm[i]? == some x && isN nm r r'
  | _, _ => false
def isS (nm : List Str) (gm : List (Str × Int)) : IS → Stmt → Bool
  | .set i e, .Assign [.Name x _] v _ => nm[i]? == some x && isE nm gm e v
  | .aug i op e, .AugAssign (.Name x _) op' v _ => nm[i]? == some x && op == op' && isE nm gm e v
  | .tup is es, .Assign [.Tuple ts _ _] (.Tuple vs _ _) _ => isN nm is ts && isL nm gm es vs && decide (4 ≤ ts.length)
  | _, _ => false
def isSs (nm : List Str) (gm : List (Str × Int)) : List IS → List Stmt → Option (List Stmt)
  | [], r => some r
  | s :: r, s' :: r' => if isS nm gm s s' then isSs nm gm r r' else none
  | _, _ => none
/-- the names are the def's own, the others the top's ints -/
structure Sco (nm : List Str) (gm : List (Str × Int)) (sc : Scope) : Prop where
  fn : sc.kind = .function
  own : ∀ x ∈ nm, sc.names.lookup x = some .local
  ownD : ∀ x ∈ nm, (x == ("__debug__" : Str)) = false
  glo : ∀ g ∈ gm, sc.names.lookup g.1 = some .globalImplicit
  gloD : ∀ g ∈ gm, (g.1 == ("__debug__" : Str)) = false
  nd : nm.Nodup
def Glos (K : Frag) (gm : List (Str × Int)) : Prop := ∀ g ∈ gm, ∃ t, nsIn K mainGlobals g.1 = some (some (.int g.2 t))
def HoldsV (news : List (Addr × Obj)) (o : Option Value) : IV → Prop
  | .i x => ∃ t, o = some (.int x t)
  | .t xs => ∃ D vs n, o = some (.ref D) ∧ (D, ({ cls := .type "tuple", data := .seq (List.toArray vs) n } : Obj)) ∈ news ∧ IntsAre vs xs
def Agr (nm : List Str) (news : List (Addr × Obj)) (m : Str → Option Value) (ρ : List (Option IV)) : Prop :=
  ∀ (i : Nat) (x : Str) (v : IV), nm[i]? = some x → ρ[i]? = some (some v) → HoldsV news (m x) v
theorem kind_own {nm : List Str} {gm : List (Str × Int)} {sc : Scope} (S : Sco nm gm sc) {qual : Str} {L f : Addr} {cd : Value} {x : Str} (hx : x ∈ nm) : (envOf qual sc L f cd).kindOf x = some .local := by
  have h := S.own x hx
  unfold Env.kindOf
  show (sc.names.lookup x) = _
  exact h
section
variable {prog : Program} {w : World} {A : Around} {E : Value → Shared → Prop} {s : Shared}
theorem mulOk {a b : Int} (ha : intBits a ≤ lineB) (hb : intBits b ≤ lineB) : IntMulOk a b := by
  unfold IntMulOk
  have h : Builtin.Int.intTooBig ((intBits a : Int) + (intBits b : Int)) = false := by
    unfold Builtin.Int.intTooBig
    refine decide_eq_false ?_
    have hl : bitsLine = 134217728 := by decide
    unfold lineB at ha hb
    omega
  rw [h]
  simp
theorem noPy {a b : Int} (hb : intBits b ≤ lineB) : Builtin.divisionGoesByPylong a b = false := by
  unfold Builtin.divisionGoesByPylong
  have h : decide ((if b == 0 then 0 else b.natAbs.log2 / 30 + 1) > 300) = false := by
    refine decide_eq_false ?_
    unfold intBits lineB at hb
    split
    · omega
    · rename_i h0
      rw [if_neg h0] at hb
      omega
  show (decide ((if b == 0 then 0 else b.natAbs.log2 / 30 + 1) > 300) && _) = false
  rw [h]
  rfl
theorem bin_ok {op : Operator} {a b v : Int} {t u : Tok} {Q : Value → Shared → Prop} (h : binV op a b = some v) (hQ : ∀ t k, Q (.int v t) { s with toks := k }) :
    wpAny (model prog w) A (binaryOp op (.int a t) (.int b u)) Q E s := by
  cases op <;> simp only [binV, Option.some.injEq, reduceCtorEq] at h
  case Add => subst h; exact PyProof.Rows.add_int (hQ _ _)
  case Sub => subst h; exact PyProof.Rows.sub_int (hQ _ _)
  case Mult =>
    split at h
    · rename_i c; cases h; exact PyProof.Rows.mul_int (hQ _ _) (mulOk c.1 c.2)
    · cases h
  case Mod =>
    split at h
    · rename_i c; cases h; exact PyProof.Rows.mod_int c (hQ _ _)
    · cases h
  case Pow =>
    split at h
    · rename_i c; cases h
      refine PyProof.Rows.pow_int c.1 ?_ (hQ _ _)
      have h1 := c.2.2
      unfold lineB at h1
      have h2 : (intBits a : Int) * b ≤ 8000 * 8 := by
        have := c.2.1
        calc (intBits a : Int) * b ≤ 8000 * b := Int.mul_le_mul_of_nonneg_right (by omega) c.1
          _ ≤ 8000 * 8 := by omega
      omega
    · cases h
  case LShift =>
    split at h
    · rename_i c; cases h
      refine PyProof.Rows.lshift_int c.1 ?_ (hQ _ _)
      have h1 := c.2.2
      unfold lineB at h1
      omega
    · cases h
  case RShift =>
    split at h
    · rename_i c; cases h; exact PyProof.Rows.rshift_int c (hQ _ _)
    · cases h
  case BitOr => subst h; exact PyProof.Rows.or_int (hQ _ _)
  case BitXor => subst h; exact PyProof.Rows.xor_int (hQ _ _)
  case BitAnd => subst h; exact PyProof.Rows.and_int (hQ _ _)
  case FloorDiv =>
    split at h
    · rename_i c; cases h; exact PyProof.Rows.floordiv_int c.1 (hQ _ _) (.inl (noPy c.2.2))
    · cases h
end
theorem ints_at {vs : List Value} {ns : List Int} (h : IntsAre vs ns) {k : Nat} {x : Int} (hx : ns[k]? = some x) : ∃ t, vs[k]? = some (.int x t) := by
  obtain ⟨t, ht⟩ := h.get k x hx
  exact ⟨t, ht⟩
section
variable {prog : Program} {w : World} {A : Around} {E : Value → Shared → Prop} {K : Frag} {p : Program} {loose : List Str} {mg mb : Str → Option Value} {h₀ : Heap} {L f : Addr} {qual : Str} {sc : Scope} {cd : Value} {m : Str → Option Value} {news : List (Addr × Obj)} {nm : List Str} {gm : List (Str × Int)} {ρ : List (Option IV)}
theorem evI_ok (S : Sco nm gm sc) (GK : Glos K gm) (X : K.In h₀) (T : TopRead p loose mg mb h₀) (Ag : Agr nm news m ρ) :
    ∀ (e : IE) (x : Expr) (v : Int) (Q : Value → Shared → Prop) (s : Shared), isE nm gm e x = true → evI gm ρ e = some v → Fr h₀ L s.heap m → News h₀ L s.heap news → (∀ t k, Q (.int v t) { s with toks := k }) →
      wpAny (model prog w) A (eval x (envOf qual sc L f cd)) Q E s := by
  intro e
  induction e with
  | loc i =>
    intro x v Q s hx hv F N hQ
    cases x <;> simp only [isE, Bool.false_eq_true, beq_iff_eq] at hx
    rename_i y pos
    unfold evI at hv
    split at hv
    · rename_i z hz
      cases hv
      obtain ⟨t, ht⟩ := Ag i y _ hx hz
      exact ld F ht (hQ t s.toks) S.fn (kind_own S (List.mem_of_getElem? hx)) (S.ownD _ (List.mem_of_getElem? hx))
    · cases hv
  | glo j =>
    intro x v Q s hx hv F N hQ
    cases x <;> simp only [isE, Bool.false_eq_true, beq_iff_eq] at hx
    rename_i y pos
    unfold evI at hv
    cases hg : gm[j]? with
    | none => rw [hg] at hv; cases hv
    | some g =>
      rw [hg] at hv hx
      have hy : g.1 = y := by simpa using hx
      have hv' : g.2 = v := by simpa using hv
      subst hy hv'
      obtain ⟨t, ht⟩ := GK g (List.mem_of_getElem? hg)
      exact name_K F X T ht (hQ t s.toks) S.fn (S.glo g (List.mem_of_getElem? hg)) (S.gloD g (List.mem_of_getElem? hg))
  | lit c =>
    intro x v Q s hx hv F N hQ
    cases x <;> (try simp only [isE, Bool.false_eq_true] at hx)
    rename_i c' k pos
    cases c' <;> simp only [isE, Bool.false_eq_true, beq_iff_eq] at hx
    cases hv
    subst hx
    exact wpAny_Constant_int (hQ _ _)
  | bin op l r ihl ihr =>
    intro x v Q s hx hv F N hQ
    cases x <;> simp only [isE, Bool.false_eq_true, Bool.and_eq_true, beq_iff_eq] at hx
    rename_i l' op' r' pos
    obtain ⟨⟨h1, h2⟩, h3⟩ := hx
    subst h1
    unfold evI at hv
    cases ha : evI gm ρ l with
    | none => rw [ha] at hv; cases hv
    | some a =>
      cases hb : evI gm ρ r with
      | none => rw [ha, hb] at hv; cases hv
      | some b =>
        rw [ha, hb] at hv
        have hv' : binV op a b = some v := hv
        refine wpAny_BinOp (ihl l' a _ s h2 ha F N fun t k => ?_)
        refine ihr r' b _ _ h3 hb F N fun t' k' => ?_
        exact bin_ok hv' fun t'' k'' => hQ t'' k''
  | item i k =>
    intro x v Q s hx hv F N hQ
    cases x <;> (try simp only [isE, Bool.false_eq_true] at hx)
    rename_i o c pos
    cases o <;> (try simp only [isE, Bool.false_eq_true] at hx)
    rename_i y pos'
    cases c <;> (try simp only [isE, Bool.false_eq_true] at hx)
    rename_i c' k' pos''
    cases c' <;> simp only [isE, Bool.false_eq_true, Bool.and_eq_true, beq_iff_eq, decide_eq_true_eq] at hx
    rename_i z
    obtain ⟨⟨h1, h2⟩, h3⟩ := hx
    subst h2
    unfold evI at hv
    split at hv
    · rename_i xs hz
      obtain ⟨D, vs, n, hD, hN, hI⟩ := Ag i y _ h1 hz
      obtain ⟨t, ht⟩ := ints_at hI hv
      refine Subscript_ (ld F hD ?_ S.fn (kind_own S (List.mem_of_getElem? h1)) (S.ownD _ (List.mem_of_getElem? h1)))
      refine wpAny_Constant_int ?_
      have hk : k < vs.length := by
        have := List.getElem?_eq_some_iff.mp ht
        exact this.1
      refine item_tupleT (t := D) (l := vs) (j := k) (x := .int v t) ⟨_, (N _ hN).1, rfl, n, rfl⟩ (by omega) (by omega) ?_ ht (hQ t _)
      unfold seqIndex?
      simp
      omega
    · cases hv
end
theorem star_of {nm : List Str} {gm : List (Str × Int)} {e : IE} {x : Expr} {rest : List Expr} {env : Env} (h : isE nm gm e x = true) : starEach (x :: rest) env = (false, eval x env) :: starEach rest env := by
  cases x <;> first | rfl | (exfalso; revert h; cases e <;> simp [isE])
theorem each_of {nm : List Str} : ∀ {is : List Nat} {ts : List Expr} {env : Env}, isN nm is ts = true → assignEach ts env = ts.map fun t => (false, assign t env)
  | [], [], _, _ => rfl
  | [], _ :: _, _, h => by simp [isN] at h
  | _ :: _, [], _, h => by simp [isN] at h
  | i :: is, t :: ts, env, h => by
    cases t <;> simp only [isN, Bool.false_eq_true, Bool.and_eq_true] at h
    rename_i x pos
    have ih := each_of (env := env) h.2
    show (false, assign (.Name x pos) env) :: assignEach ts env = _
    rw [ih]
    rfl
theorem isN_length {nm : List Str} : ∀ {is : List Nat} {ts : List Expr}, isN nm is ts = true → is.length = ts.length
  | [], [], _ => rfl
  | [], _ :: _, h => by simp [isN] at h
  | _ :: _, [], h => by simp [isN] at h
  | i :: is, t :: ts, h => by
    cases t <;> simp only [isN, Bool.false_eq_true, Bool.and_eq_true] at h
    simp [isN_length h.2]
theorem agr_set {nm : List Str} {news : List (Addr × Obj)} {m : Str → Option Value} {ρ : List (Option IV)} (nd : nm.Nodup) (Ag : Agr nm news m ρ) {i : Nat} {x : Str} (hx : nm[i]? = some x) (v : Int) (t : Tok) :
    Agr nm news (fun y => if y = x then some (.int v t) else m y) (ρ.set i (some (.i v))) := by
  intro j y v' hy hv
  by_cases hij : i = j
  · subst hij
    have e : y = x := by rw [hx] at hy; exact (Option.some.inj hy).symm
    subst e
    by_cases hl : i < ρ.length
    · rw [List.getElem?_set_self hl] at hv
      cases hv
      exact ⟨t, by simp⟩
    · rw [List.getElem?_eq_none (by simpa using hl)] at hv
      cases hv
  · rw [List.getElem?_set_ne hij] at hv
    have hne : y ≠ x := by
      intro e
      subst e
      exact hij ((List.getElem?_inj (List.getElem?_eq_some_iff.mp hx).1 nd).mp (hx.trans hy.symm))
    have := Ag j y v' hy hv
    simp only [if_neg hne]
    exact this
section
variable {prog : Program} {w : World} {A : Around} {E : Value → Shared → Prop} {K : Frag} {p : Program} {loose : List Str} {mg mb : Str → Option Value} {h₀ : Heap} {L f : Addr} {qual : Str} {sc : Scope} {cd : Value} {news : List (Addr × Obj)} {nm : List Str} {gm : List (Str × Int)}
theorem evL_ok {m : Str → Option Value} {ρ : List (Option IV)} {pos : Pos} (S : Sco nm gm sc) (GK : Glos K gm) (X : K.In h₀) (T : TopRead p loose mg mb h₀) (Ag : Agr nm news m ρ) :
    ∀ (es : List IE) (xs : List Expr) (ns : List Int) (Q : List Value → Shared → Prop) (s : Shared), isL nm gm es xs = true → evL gm ρ es = some ns → Fr h₀ L s.heap m → News h₀ L s.heap news → (∀ vs k, IntsAre vs ns → Q vs { s with toks := k }) →
      wpAny (model prog w) A (spliced (backTo pos (starEach xs (envOf qual sc L f cd)))) Q E s
  | [], [], ns, Q, s, _, hv, F, N, hQ => by
    cases hv
    exact spliced_none (hQ [] s.toks .nil)
  | [], _ :: _, _, _, _, h, _, _, _, _ => by simp [isL] at h
  | _ :: _, [], _, _, _, h, _, _, _, _ => by simp [isL] at h
  | e :: es, x :: xs, ns, Q, s, h, hv, F, N, hQ => by
    simp only [isL, Bool.and_eq_true] at h
    unfold evL at hv
    cases ha : evI gm ρ e with
    | none => rw [ha] at hv; cases hv
    | some a =>
      cases hb : evL gm ρ es with
      | none => rw [ha, hb] at hv; cases hv
      | some bs =>
        rw [ha, hb] at hv
        have hv' : a :: bs = ns := Option.some.inj hv
        subst hv'
        refine spliced_more (evI_ok S GK X T Ag e x a _ s h.1 ha F N fun t k => ?_) (star_of h.1)
        exact evL_ok S GK X T Ag es xs bs _ _ h.2 hb F N fun vs k' hI => hQ _ _ (.cons a t hI)
theorem evL_length {ρ : List (Option IV)} : ∀ {es : List IE} {ns : List Int}, evL gm ρ es = some ns → ns.length = es.length
  | [], _, h => by cases h; rfl
  | e :: es, ns, h => by
    unfold evL at h
    cases ha : evI gm ρ e with
    | none => rw [ha] at h; cases h
    | some a =>
      cases hb : evL gm ρ es with
      | none => rw [ha, hb] at h; cases h
      | some bs =>
        rw [ha, hb] at h
        have h' : a :: bs = ns := Option.some.inj h
        subst h'
        simp [evL_length hb]
/-- stores in order -/
inductive Stores (M : Model) (A : Around) (E : Value → Shared → Prop) (env : Env) : List (Value → Sem Unit) → List Str → Prop
  | nil : Stores M A E env [] []
  | cons {t ts x xs} : (∀ v Q s, wpAny M A (storeName env x v) Q E s → wpAny M A (t v) Q E s) → Stores M A E env ts xs → Stores M A E env (t :: ts) (x :: xs)
theorem store_all (S : Sco nm gm sc) : ∀ {ts : List (Value → Sem Unit)} {xs : List Str} {is : List Nat} {vs : List Value} {ns : List Int} {m : Str → Option Value} {ρ : List (Option IV)} {Q : Unit → Shared → Prop} {s : Shared},
    Stores (model prog w) A E (envOf qual sc L f cd) ts xs → is.map (nm[·]?) = xs.map some → IntsAre vs ns → ts.length = vs.length → Agr nm news m ρ → Fr h₀ L s.heap m → News h₀ L s.heap news →
    (∀ h' m' k, Fr h₀ L h' m' → News h₀ L h' news → Agr nm news m' (puts ρ is ns) → Q () { s with heap := h', toks := k }) → wpAny (model prog w) A (assignInOrder ts vs) Q E s
  | _, _, [], vs, ns, m, ρ, Q, s, .nil, hi, hI, hl, Ag, F, N, hQ => by
    refine assignInOrder_nil ?_
    have := hQ s.heap m s.toks F N (by cases ns <;> exact Ag)
    exact this
  | _, _, _ :: _, _, _, _, _, _, _, .nil, hi, _, _, _, _, _, _ => by simp at hi
  | _, _, [], _, _, _, _, _, _, .cons _ _, hi, _, _, _, _, _, _ => by simp at hi
  | _, _, _, [], _, _, _, _, _, .cons _ _, _, _, hl, _, _, _, _ => by simp at hl
  | _, _, i :: is, v :: vs, ns, m, ρ, Q, s, .cons (t := t) (x := x) ht hts, hi, hI, hl, Ag, F, N, hQ => by
    cases hI with
    | cons n tk hI =>
      simp only [List.map_cons, List.cons.injEq] at hi
      refine assignInOrder_cons (ht _ _ _ ?_)
      refine stN F N (fun h' F' N' => ?_) S.fn (kind_own S (List.mem_of_getElem? hi.1))
      exact store_all S hts hi.2 hI (by simpa using hl) (agr_set S.nd Ag hi.1 n tk) F' N' fun h'' m'' k F'' N'' Ag'' => hQ h'' m'' k F'' N'' Ag''
theorem stores_names {env : Env} : ∀ {is : List Nat} {ts : List Expr}, isN nm is ts = true → ∃ xs, Stores (model prog w) A E env (ts.map fun t => assign t env) xs ∧ is.map (nm[·]?) = xs.map some
  | [], [], _ => ⟨[], .nil, rfl⟩
  | [], _ :: _, h => by simp [isN] at h
  | _ :: _, [], h => by simp [isN] at h
  | i :: is, t :: ts, h => by
    cases t <;> simp only [isN, Bool.false_eq_true, Bool.and_eq_true, beq_iff_eq] at h
    rename_i x pos
    obtain ⟨xs, h1, h2⟩ := stores_names (env := env) h.2
    exact ⟨x :: xs, .cons (fun v Q s hh => assign_Name hh) h1, by simp only [List.map_cons, h.1, h2]⟩
end
section
variable {prog : Program} {w : World} {A : Around} {E : Value → Shared → Prop} {K : Frag} {p : Program} {loose : List Str} {mg mb : Str → Option Value} {h₀ : Heap} {L f : Addr} {qual : Str} {sc : Scope} {cd : Value} {news : List (Addr × Obj)} {nm : List Str} {gm : List (Str × Int)}
theorem agr_news {m : Str → Option Value} {ρ : List (Option IV)} {news' : List (Addr × Obj)} (Ag : Agr nm news m ρ) (hs : ∀ q ∈ news, q ∈ news') : Agr nm news' m ρ := by
  intro i x v hx hv
  have h := Ag i x v hx hv
  cases v with
  | i z => exact h
  | t xs =>
    obtain ⟨D, vs, n, h1, h2, h3⟩ := h
    exact ⟨D, vs, n, h1, hs _ h2, h3⟩
theorem swaps_no {xs : List Expr} {k : Nat} {pos : Pos} {ts : List Expr} {line : Nat} {env : Env} : swapsWithSole [.Tuple ts k pos] (.Tuple xs k pos) line env = pure false := rfl
theorem evS_ok {m : Str → Option Value} {ρ ρ' : List (Option IV)} (hh : A.handled = none) (S : Sco nm gm sc) (GK : Glos K gm) (X : K.In h₀) (T : TopRead p loose mg mb h₀) (Ag : Agr nm news m ρ)
    {st : IS} {x : Stmt} {Q : Flow → Shared → Prop} {s : Shared} (hx : isS nm gm st x = true) (hv : evS gm ρ st = some ρ') (F : Fr h₀ L s.heap m) (N : News h₀ L s.heap news)
    (hQ : ∀ h' m' k, Fr h₀ L h' m' → News h₀ L h' news → Agr nm news m' ρ' → Q .next { s with heap := h', toks := k }) : wpAny (model prog w) A (exec x (envOf qual sc L f cd)) Q E s := by
  cases st with
  | set i e =>
    cases x with
    | Assign ts v pos =>
      match ts, hx with
      | [.Name y pos'], hx =>
        simp only [isS, Bool.and_eq_true, beq_iff_eq] at hx
        simp only [evS] at hv
        cases ha : evI gm ρ e with
        | none => rw [ha] at hv; cases hv
        | some a =>
          rw [ha] at hv
          have hv' : ρ.set i (some (.i a)) = ρ' := Option.some.inj hv
          subst hv'
          refine wpAny_Assign_Name (evI_ok S GK X T Ag e v a _ s hx.2 ha F N fun t k => ?_) ?_
          · refine stN F N (fun h' F' N' => ?_) S.fn (kind_own S (List.mem_of_getElem? hx.1))
            exact hQ h' _ _ F' N' (agr_set S.nd Ag hx.1 a t)
          · have h2 := hx.2
            cases v <;> first | rfl | (exfalso; revert h2; cases e <;> simp [isE])
    | _ => exact absurd hx (by simp [isS])
  | aug i op e =>
    cases x with
    | AugAssign tg op' v pos =>
      match tg, hx with
      | .Name y pos', hx =>
        simp only [isS, Bool.and_eq_true, beq_iff_eq] at hx
        obtain ⟨⟨h1, h2⟩, h3⟩ := hx
        subst h2
        simp only [evS] at hv
        split at hv
        · rename_i ho
          subst ho
          cases ha : evI gm ρ (.loc i) with
          | none => rw [ha] at hv; cases hv
          | some a =>
            cases hb : evI gm ρ e with
            | none => rw [ha, hb] at hv; cases hv
            | some b =>
              rw [ha, hb] at hv
              have hv' : ρ.set i (some (.i (Builtin.bitOr a b))) = ρ' := Option.some.inj hv
              subst hv'
              unfold evI at ha
              split at ha
              · rename_i z hz
                cases ha
                obtain ⟨t, ht⟩ := Ag i y _ h1 hz
                refine wpAny_AugAssign_Name (ldn F ht ?_ S.fn (kind_own S (List.mem_of_getElem? h1)))
                refine evI_ok S GK X T Ag e v b _ s h3 hb F N fun t' k' => ?_
                refine PyProof.Rows.ior_int ?_
                refine stN F N (fun h' F' N' => ?_) S.fn (kind_own S (List.mem_of_getElem? h1))
                exact hQ h' _ _ F' N' (agr_set S.nd Ag h1 _ _)
              · cases ha
        · cases hv
    | _ => exact absurd hx (by simp [isS])
  | tup is es =>
    cases x with
    | Assign ts v pos =>
      match ts, v, hx with
      | [.Tuple ts k tpos], .Tuple vs k' vpos, hx =>
        simp only [isS, Bool.and_eq_true, decide_eq_true_eq] at hx
        obtain ⟨⟨h1, h2⟩, h3⟩ := hx
        simp only [evS] at hv
        split at hv
        · rename_i hc
          cases hb : evL gm ρ es with
          | none => rw [hb] at hv; cases hv
          | some bs =>
            rw [hb] at hv
            have hv' : puts ρ is bs = ρ' := Option.some.inj hv
            subst hv'
            refine Assign_Tuple (Tuple_ (evL_ok S GK X T Ag es vs bs _ s h2 hb F N fun us k'' hI => ?_)) rfl ?_
            · have hl1 := isN_length h1
              have hl2 : us.length = bs.length := hI.length
              have hl3 : bs.length = es.length := evL_length hb
              refine newTuple_N F N (fun h' F' N' => ?_) (by rw [hl2, hl3, sizeLine_eq]; omega)
              obtain ⟨xs, hst, hxs⟩ := stores_names (prog := prog) (w := w) (A := A) (E := E) (env := envOf qual sc L f cd) h1
              refine unpackN_ (items := us.toArray) F' N' ⟨_, (N' _ (.head _)).1, rfl, _, rfl⟩ hh ?_ ?_ fun h'' F'' N'' => ?_
              · rw [each_of h1, List.length_map, List.size_toArray]; omega
              · rw [each_of h1]
                simp [List.findIdx?_map, List.findIdx?_eq_none_iff]
              · rw [each_of h1, List.map_map]
                have hst' : Stores (model prog w) A E (envOf qual sc L f cd) (ts.map ((fun q => q.2) ∘ fun t => (false, assign t (envOf qual sc L f cd)))) xs := hst
                refine store_all S hst' hxs (by simpa using hI) (by simp; omega) Ag F'' (fun q hq => N'' q (.tail _ hq)) fun h3' m3 k3 F3 N3 Ag3 => hQ h3' m3 k3 F3 N3 Ag3
            · unfold swappedStores
              have hne : (!(ts.length == 2 || ts.length == 3) || vs.length != ts.length || (envOf qual sc L f cd).blockKind != .function) = true := by
                have : (ts.length == 2 || ts.length == 3) = false := by
                  rw [Bool.or_eq_false_iff]
                  exact ⟨by simp; omega, by simp; omega⟩
                rw [this]; rfl
              dsimp only
              rw [if_pos hne]
        · cases hv
    | _ => exact absurd hx (by simp [isS])
theorem evSs_ok (hh : A.handled = none) (S : Sco nm gm sc) (GK : Glos K gm) (X : K.In h₀) (T : TopRead p loose mg mb h₀) :
    ∀ {ss : List IS} {xs rest : List Stmt} {m : Str → Option Value} {ρ ρ' : List (Option IV)} {Q : Flow → Shared → Prop} {s : Shared}, isSs nm gm ss xs = some rest → evSs gm ρ ss = some ρ' → Agr nm news m ρ → Fr h₀ L s.heap m → News h₀ L s.heap news →
      (∀ h' m' k, Fr h₀ L h' m' → News h₀ L h' news → Agr nm news m' ρ' → wpAny (model prog w) A (execs rest (envOf qual sc L f cd)) Q E { s with heap := h', toks := k }) →
      wpAny (model prog w) A (execs xs (envOf qual sc L f cd)) Q E s
  | [], xs, rest, m, ρ, ρ', Q, s, hx, hv, Ag, F, N, hQ => by
    cases hx
    cases hv
    exact hQ s.heap m s.toks F N Ag
  | _ :: _, [], _, _, _, _, _, _, hx, _, _, _, _, _ => by simp [isSs] at hx
  | st :: ss, x :: xs, rest, m, ρ, ρ', Q, s, hx, hv, Ag, F, N, hQ => by
    unfold isSs at hx
    split at hx
    · rename_i h1
      unfold evSs at hv
      cases ha : evS gm ρ st with
      | none => rw [ha] at hv; cases hv
      | some ρ₁ =>
        rw [ha] at hv
        refine wpAny_execs_cons (evS_ok hh S GK X T Ag h1 ha F N fun h' m' k F' N' Ag' => ?_)
        exact evSs_ok hh S GK X T hx hv Ag' F' N' fun h'' m'' k' F'' N'' Ag'' => hQ h'' m'' k' F'' N'' Ag''
    · cases hx
end
end
section
open PySem PySem.W PyProof.Rows
open PySem.Builtin.Int (intBits)
/-! bits and signs, ahead of the run -/
local macro_rules | `(tactic| walk_at "idle 0") => `(tactic| skip)
structure Ab where
  k : Nat
  nn : Bool
  c : Option Int
  deriving DecidableEq
inductive AV where
  | i (a : Ab)
  | t (as : List Ab)
  deriving DecidableEq
def abB (op : Operator) (A B : Ab) : Option Ab := match op with
  | .Add => some ⟨max A.k B.k + 1, A.nn && B.nn, none⟩
  | .Sub => some ⟨max A.k B.k + 1, false, none⟩
  | .Mult => if A.k ≤ lineB ∧ B.k ≤ lineB then some ⟨A.k + B.k, A.nn && B.nn, none⟩ else none
  | .Mod => match B.c with
    | some c => if 0 < c then some ⟨intBits c, true, none⟩ else none
    | none => none
  | .Pow => match B.c with
    | some c => if 0 ≤ c ∧ c ≤ 8 ∧ A.k ≤ lineB then some ⟨A.k * c.toNat + 1, A.nn, none⟩ else none
    | none => none
  | .BitAnd => if A.nn = true ∧ B.nn = true then some ⟨min A.k B.k, true, none⟩ else none
  | .BitOr => if A.nn = true ∧ B.nn = true then some ⟨max A.k B.k, true, none⟩ else none
  | .BitXor => if A.nn = true ∧ B.nn = true then some ⟨max A.k B.k, true, none⟩ else none
  | .LShift => match B.c with
    | some c => if 0 ≤ c ∧ c ≤ 1000 ∧ A.k ≤ lineB then some ⟨A.k + c.toNat, A.nn, none⟩ else none
    | none => none
  | .RShift => match B.c with
    | some c => if 0 ≤ c ∧ A.nn = true then some ⟨A.k - c.toNat, true, none⟩ else none
    | none => none
  | _ => none
def abC (x : Int) : Ab := ⟨intBits x, decide (0 ≤ x), some x⟩
def abI (gm : List (Str × Int)) (β : List (Option AV)) : IE → Option Ab
  | .loc i => match β[i]? with
    | some (some (.i A)) => some A
    | _ => none
  | .glo j => (gm[j]?).map fun g => abC g.2
  | .lit x => some (abC x)
  | .bin op l r => (abI gm β l).bind fun a => (abI gm β r).bind fun b => abB op a b
  | .item i k => match β[i]? with
    | some (some (.t xs)) => xs[k]?
    | _ => none
def abL (gm : List (Str × Int)) (β : List (Option AV)) : List IE → Option (List Ab)
  | [] => some []
  | e :: r => (abI gm β e).bind fun v => (abL gm β r).map (v :: ·)
def putsA (β : List (Option AV)) : List Nat → List Ab → List (Option AV)
  | i :: is, v :: vs => putsA (β.set i (some (.i v))) is vs
  | _, _ => β
def abS (gm : List (Str × Int)) (β : List (Option AV)) : IS → Option (List (Option AV))
  | .set i e => (abI gm β e).map fun v => β.set i (some (.i v))
  | .aug i op e => if op = .BitOr then (abI gm β (.loc i)).bind fun a => (abI gm β e).bind fun b => (abB .BitOr a b).map fun c => β.set i (some (.i c)) else none
  | .tup is es => if is.length = es.length ∧ es.length ≤ 8 then (abL gm β es).map fun vs => putsA β is vs else none
def abSs (gm : List (Str × Int)) (β : List (Option AV)) : List IS → Option (List (Option AV))
  | [] => some β
  | s :: r => (abS gm β s).bind fun β' => abSs gm β' r
def okA (A : Ab) (v : Int) : Prop := intBits v ≤ A.k ∧ (A.nn = true → 0 ≤ v) ∧ ∀ z : Int, A.c = some z → v = z
theorem okA_C (x : Int) : okA (abC x) x := ⟨Nat.le_refl _, fun h => of_decide_eq_true h, fun z h => Option.some.inj h⟩
theorem and_nat {a b : Int} (ha : 0 ≤ a) (hb : 0 ≤ b) : Builtin.bitAnd a b = ((a.toNat &&& b.toNat : Nat) : Int) := by
  unfold Builtin.bitAnd
  rw [decide_eq_true ha, decide_eq_true hb]
theorem or_nat {a b : Int} (ha : 0 ≤ a) (hb : 0 ≤ b) : Builtin.bitOr a b = ((a.toNat ||| b.toNat : Nat) : Int) := by
  unfold Builtin.bitOr Builtin.bitAnd Builtin.bitNot
  rw [decide_eq_false (by omega), decide_eq_false (by omega)]
  have h1 : -(-a - 1) - 1 = a := by omega
  have h2 : -(-b - 1) - 1 = b := by omega
  dsimp only
  rw [h1, h2]
  omega
theorem and_le_or (a b : Nat) : a &&& b ≤ a ||| b := Nat.le_trans Nat.and_le_left Nat.left_le_or
theorem xor_bounds {a b : Int} (ha : 0 ≤ a) (hb : 0 ≤ b) : 0 ≤ Builtin.bitXor a b ∧ Builtin.bitXor a b ≤ Builtin.bitOr a b := by
  unfold Builtin.bitXor
  rw [and_nat ha hb, or_nat ha hb]
  have := and_le_or a.toNat b.toNat
  omega
theorem nn_bits {v : Int} {k : Nat} (h0 : 0 ≤ v) (h : v.toNat < 2 ^ k) : intBits v ≤ k := by
  refine intBits_le_iff.mpr ?_
  have e : v.natAbs = v.toNat := by omega
  rw [e]
  exact h
theorem bits_nn {v : Int} {k : Nat} (h0 : 0 ≤ v) (h : intBits v ≤ k) : v.toNat < 2 ^ k := by
  have := intBits_le_iff.mp h
  omega
theorem shr_bits {v : Int} {k c : Nat} (h0 : 0 ≤ v) (h : intBits v ≤ k) : 0 ≤ v.fdiv (2 ^ c) ∧ intBits (v.fdiv (2 ^ c)) ≤ k - c := by
  obtain ⟨n, rfl⟩ := Int.eq_ofNat_of_zero_le h0
  have hn := bits_nn h0 h
  have e : ((n : Int)).fdiv (2 ^ c) = ((n / 2 ^ c : Nat) : Int) := by
    rw [Int.fdiv_eq_ediv_of_nonneg _ (by exact Int.le_of_lt (Int.pow_pos (by decide)))]
    push_cast
    rfl
  have hn' : n < 2 ^ k := by simpa using hn
  rw [e]
  refine ⟨Int.natCast_nonneg _, nn_bits (Int.natCast_nonneg _) ?_⟩
  rw [Int.toNat_natCast]
  rw [Nat.div_lt_iff_lt_mul (Nat.two_pow_pos c), ← Nat.pow_add]
  exact Nat.lt_of_lt_of_le hn' (Nat.pow_le_pow_right (by decide) (by omega))
theorem shl_bits {v : Int} {k c : Nat} (h : intBits v ≤ k) : intBits (v * 2 ^ c) ≤ k + c := by
  have h1 := intBits_le_iff.mp h
  refine intBits_le_iff.mpr ?_
  rw [Int.natAbs_mul, Int.natAbs_pow, Nat.pow_add]
  exact Nat.mul_lt_mul_of_pos_right h1 (Nat.two_pow_pos c)
theorem abB_ok {op : Operator} {A B C : Ab} {a b : Int} (ha : okA A a) (hb : okA B b) (h : abB op A B = some C) : ∃ v, binV op a b = some v ∧ okA C v := by
  obtain ⟨a1, a2, a3⟩ := ha
  obtain ⟨b1, b2, b3⟩ := hb
  have noc : ∀ {v : Int} {z : Int}, (none : Option Int) = some z → v = z := fun h => by cases h
  cases op <;> simp only [abB, Option.some.injEq, reduceCtorEq] at h
  case Add =>
    subst h
    refine ⟨_, rfl, intBits_add_le a1 b1, fun h => ?_, fun _ => noc⟩
    simp only [Bool.and_eq_true] at h
    have := a2 h.1
    have := b2 h.2
    omega
  case Sub =>
    subst h
    exact ⟨_, rfl, intBits_sub_le a1 b1, (fun h => absurd h Bool.false_ne_true), fun _ => noc⟩
  case Mult =>
    split at h
    · rename_i c; cases h
      refine ⟨_, if_pos ⟨Nat.le_trans a1 c.1, Nat.le_trans b1 c.2⟩, intBits_mul_le a1 b1, fun h => ?_, fun _ => noc⟩
      simp only [Bool.and_eq_true] at h
      exact Int.mul_nonneg (a2 h.1) (b2 h.2)
    · cases h
  case Mod =>
    split at h
    · rename_i c hc
      split at h
      · rename_i h0; cases h
        have e := b3 _ hc
        subst e
        refine ⟨_, if_pos (by omega), ?_, fun _ => Int.fmod_nonneg_of_pos _ h0, fun _ => noc⟩
        have h1 := Int.fmod_nonneg_of_pos a h0
        have h2 := Int.fmod_lt_of_pos a h0
        exact intBits_le_of_natAbs (y := b) (by omega) (Nat.le_refl _)
      · cases h
    · cases h
  case Pow =>
    split at h
    · rename_i c hc
      split at h
      · rename_i h0; cases h
        have e := b3 _ hc
        subst e
        refine ⟨_, if_pos ⟨h0.1, h0.2.1, Nat.le_trans a1 h0.2.2⟩, intBits_pow_le a1 _, fun h => Int.pow_nonneg (a2 h), fun _ => noc⟩
      · cases h
    · cases h
  case BitAnd =>
    split at h
    · rename_i c; cases h
      have na := a2 c.1
      have nb := b2 c.2
      refine ⟨_, rfl, ?_, fun _ => ?_, fun _ => noc⟩
      · rw [and_nat na nb]
        refine nn_bits (Int.natCast_nonneg _) ?_
        rw [Int.toNat_natCast]
        have h1 := bits_nn na a1
        have h2 := bits_nn nb b1
        show _ < 2 ^ (min A.k B.k)
        rcases Nat.le_total A.k B.k with q | q
        · rw [Nat.min_eq_left q]; exact Nat.lt_of_le_of_lt Nat.and_le_left h1
        · rw [Nat.min_eq_right q]; exact Nat.lt_of_le_of_lt Nat.and_le_right h2
      · rw [and_nat na nb]; exact Int.natCast_nonneg _
    · cases h
  case BitOr =>
    split at h
    · rename_i c; cases h
      have na := a2 c.1
      have nb := b2 c.2
      refine ⟨_, rfl, ?_, fun _ => ?_, fun _ => noc⟩
      · rw [or_nat na nb]
        refine nn_bits (Int.natCast_nonneg _) ?_
        rw [Int.toNat_natCast]
        exact Nat.or_lt_two_pow (Nat.lt_of_lt_of_le (bits_nn na a1) (Nat.pow_le_pow_right (by decide) (Nat.le_max_left _ _))) (Nat.lt_of_lt_of_le (bits_nn nb b1) (Nat.pow_le_pow_right (by decide) (Nat.le_max_right _ _)))
      · rw [or_nat na nb]; exact Int.natCast_nonneg _
    · cases h
  case BitXor =>
    split at h
    · rename_i c; cases h
      have na := a2 c.1
      have nb := b2 c.2
      obtain ⟨x1, x2⟩ := xor_bounds na nb
      refine ⟨_, rfl, ?_, fun _ => x1, fun _ => noc⟩
      have h1 : (Builtin.bitOr a b).toNat < 2 ^ (max A.k B.k) := by
        rw [or_nat na nb, Int.toNat_natCast]
        exact Nat.or_lt_two_pow (Nat.lt_of_lt_of_le (bits_nn na a1) (Nat.pow_le_pow_right (by decide) (Nat.le_max_left _ _))) (Nat.lt_of_lt_of_le (bits_nn nb b1) (Nat.pow_le_pow_right (by decide) (Nat.le_max_right _ _)))
      refine nn_bits x1 ?_
      show _ < 2 ^ (max A.k B.k)
      omega
    · cases h
  case LShift =>
    split at h
    · rename_i c hc
      split at h
      · rename_i h0; cases h
        have e := b3 _ hc
        subst e
        refine ⟨_, if_pos ⟨h0.1, h0.2.1, Nat.le_trans a1 h0.2.2⟩, shl_bits a1, fun h => Int.mul_nonneg (a2 h) (Int.le_of_lt (Int.pow_pos (by decide))), fun _ => noc⟩
      · cases h
    · cases h
  case RShift =>
    split at h
    · rename_i c hc
      split at h
      · rename_i h0; cases h
        have e := b3 _ hc
        subst e
        obtain ⟨x1, x2⟩ := shr_bits (c := b.toNat) (a2 h0.2) a1
        exact ⟨_, if_pos h0.1, x2, fun _ => x1, fun _ => noc⟩
      · cases h
    · cases h
def okV : AV → IV → Prop
  | .i A, .i v => okA A v
  | .t As, .t vs => As.length = vs.length ∧ ∀ (k : Nat) (A : Ab), As[k]? = some A → ∃ v, vs[k]? = some v ∧ okA A v
  | _, _ => False
inductive OkAll : List Ab → List Int → Prop
  | nil : OkAll [] []
  | cons {A : Ab} {v : Int} {As : List Ab} {vs : List Int} : okA A v → OkAll As vs → OkAll (A :: As) (v :: vs)
/-- what is known ahead of the names holds of them -/
def Fits (β : List (Option AV)) (ρ : List (Option IV)) : Prop := β.length = ρ.length ∧ ∀ (i : Nat) (a : AV), β[i]? = some (some a) → ∃ v, ρ[i]? = some (some v) ∧ okV a v
theorem abI_ok {gm : List (Str × Int)} {β : List (Option AV)} {ρ : List (Option IV)} (H : Fits β ρ) : ∀ {e : IE} {A : Ab}, abI gm β e = some A → ∃ v, evI gm ρ e = some v ∧ okA A v
  | .loc i, A, h => by
    unfold abI at h
    split at h
    · rename_i B hB
      cases h
      obtain ⟨v, hv, ho⟩ := H.2 i _ hB
      cases v with
      | i x => exact ⟨x, by unfold evI; rw [hv], ho⟩
      | t xs => exact ho.elim
    · cases h
  | .glo j, A, h => by
    unfold abI at h
    cases hg : gm[j]? with
    | none => rw [hg] at h; cases h
    | some g =>
      rw [hg] at h
      have h' : abC g.2 = A := Option.some.inj h
      subst h'
      exact ⟨g.2, by unfold evI; rw [hg]; rfl, okA_C _⟩
  | .lit x, A, h => by
    have h' : abC x = A := Option.some.inj h
    subst h'
    exact ⟨x, rfl, okA_C _⟩
  | .bin op l r, C, h => by
    unfold abI at h
    cases ha : abI gm β l with
    | none => rw [ha] at h; cases h
    | some A =>
      cases hb : abI gm β r with
      | none => rw [ha, hb] at h; cases h
      | some B =>
        rw [ha, hb] at h
        have h' : abB op A B = some C := h
        obtain ⟨a, h1, h2⟩ := abI_ok H ha
        obtain ⟨b, h3, h4⟩ := abI_ok H hb
        obtain ⟨v, h5, h6⟩ := abB_ok h2 h4 h'
        exact ⟨v, by unfold evI; rw [h1, h3]; exact h5, h6⟩
  | .item i k, A, h => by
    unfold abI at h
    split at h
    · rename_i As hAs
      obtain ⟨v, hv, ho⟩ := H.2 i _ hAs
      cases v with
      | i x => exact ho.elim
      | t xs =>
        obtain ⟨x, hx, hk⟩ := ho.2 k A h
        exact ⟨x, by unfold evI; rw [hv]; exact hx, hk⟩
    · cases h
theorem abL_ok {gm : List (Str × Int)} {β : List (Option AV)} {ρ : List (Option IV)} (H : Fits β ρ) : ∀ {es : List IE} {As : List Ab}, abL gm β es = some As → ∃ vs, evL gm ρ es = some vs ∧ OkAll As vs
  | [], As, h => by
    have h' : [] = As := Option.some.inj h
    subst h'
    exact ⟨[], rfl, .nil⟩
  | e :: es, As, h => by
    unfold abL at h
    cases ha : abI gm β e with
    | none => rw [ha] at h; cases h
    | some A =>
      cases hb : abL gm β es with
      | none => rw [ha, hb] at h; cases h
      | some Bs =>
        rw [ha, hb] at h
        have h' : A :: Bs = As := Option.some.inj h
        subst h'
        obtain ⟨v, h1, h2⟩ := abI_ok H ha
        obtain ⟨vs, h3, h4⟩ := abL_ok H hb
        exact ⟨v :: vs, by unfold evL; rw [h1, h3]; rfl, .cons h2 h4⟩
theorem fits_set {β : List (Option AV)} {ρ : List (Option IV)} (H : Fits β ρ) (i : Nat) {A : Ab} {v : Int} (h : okA A v) : Fits (β.set i (some (.i A))) (ρ.set i (some (.i v))) := by
  refine ⟨by simp [H.1], fun j a hj => ?_⟩
  by_cases e : i = j
  · subst e
    by_cases hl : i < β.length
    · rw [List.getElem?_set_self hl] at hj
      cases hj
      exact ⟨.i v, List.getElem?_set_self (by rw [← H.1]; exact hl), h⟩
    · rw [List.getElem?_eq_none (by simpa using hl)] at hj
      cases hj
  · rw [List.getElem?_set_ne e] at hj
    obtain ⟨u, h1, h2⟩ := H.2 j a hj
    exact ⟨u, by rw [List.getElem?_set_ne e]; exact h1, h2⟩
theorem fits_puts : ∀ {is : List Nat} {As : List Ab} {vs : List Int} {β : List (Option AV)} {ρ : List (Option IV)}, Fits β ρ → OkAll As vs → Fits (putsA β is As) (puts ρ is vs)
  | [], _, _, _, _, H, _ => H
  | _ :: _, _, _, _, _, H, .nil => H
  | i :: is, A :: As, v :: vs, β, ρ, H, .cons h t => @fits_puts is As vs (β.set i (some (.i A))) (ρ.set i (some (.i v))) (fits_set H i h) t
theorem abS_ok {gm : List (Str × Int)} {β β' : List (Option AV)} {ρ : List (Option IV)} (H : Fits β ρ) : ∀ {st : IS}, abS gm β st = some β' → ∃ ρ', evS gm ρ st = some ρ' ∧ Fits β' ρ'
  | .set i e, h => by
    simp only [abS] at h
    cases ha : abI gm β e with
    | none => rw [ha] at h; cases h
    | some A =>
      rw [ha] at h
      have h' : β.set i (some (.i A)) = β' := Option.some.inj h
      subst h'
      obtain ⟨v, h1, h2⟩ := abI_ok H ha
      exact ⟨ρ.set i (some (.i v)), by simp only [evS, h1, Option.map_some], fits_set H i h2⟩
  | .aug i op e, h => by
    simp only [abS] at h
    split at h
    · rename_i ho
      subst ho
      cases ha : abI gm β (.loc i) with
      | none => rw [ha] at h; cases h
      | some A =>
        cases hb : abI gm β e with
        | none => rw [ha, hb] at h; cases h
        | some B =>
          rw [ha, hb] at h
          cases hc : abB .BitOr A B with
          | none => simp [hc] at h
          | some C =>
            simp only [Option.bind_some, hc, Option.map_some] at h
            have h' : β.set i (some (.i C)) = β' := Option.some.inj h
            subst h'
            obtain ⟨a, h1, h2⟩ := abI_ok H ha
            obtain ⟨b, h3, h4⟩ := abI_ok H hb
            obtain ⟨v, h5, h6⟩ := abB_ok h2 h4 hc
            have h7 : Builtin.bitOr a b = v := Option.some.inj h5
            subst h7
            exact ⟨_, by simp only [evS, if_true, h1, h3, Option.bind_some], fits_set H i h6⟩
    · cases h
  | .tup is es, h => by
    simp only [abS] at h
    split at h
    · rename_i hc
      cases hb : abL gm β es with
      | none => rw [hb] at h; cases h
      | some Bs =>
        rw [hb] at h
        have h' : putsA β is Bs = β' := Option.some.inj h
        subst h'
        obtain ⟨vs, h1, h2⟩ := abL_ok H hb
        exact ⟨puts ρ is vs, by simp only [evS, if_pos hc, h1, Option.map_some], fits_puts H h2⟩
    · cases h
theorem abSs_ok {gm : List (Str × Int)} : ∀ {ss : List IS} {β β' : List (Option AV)} {ρ : List (Option IV)}, Fits β ρ → abSs gm β ss = some β' → ∃ ρ', evSs gm ρ ss = some ρ' ∧ Fits β' ρ'
  | [], β, β', ρ, H, h => by
    have h' : β = β' := Option.some.inj h
    subst h'
    exact ⟨ρ, rfl, H⟩
  | st :: ss, β, β', ρ, H, h => by
    unfold abSs at h
    cases ha : abS gm β st with
    | none => rw [ha] at h; cases h
    | some β₁ =>
      rw [ha] at h
      obtain ⟨ρ₁, h1, h2⟩ := abS_ok H ha
      obtain ⟨ρ', h3, h4⟩ := abSs_ok h2 h
      exact ⟨ρ', by unfold evSs; rw [h1]; exact h3, h4⟩
end
section
open PySem PySem.W PyProof.Rows
open PySem.Builtin.Int (intBits)
set_option maxRecDepth 100000
set_option maxHeartbeats 8000000
local macro_rules | `(tactic| walk_at "idle 0") => `(tactic| skip)
local macro_rules | `(tactic| walk_at "idle 1") => `(tactic| skip)
local macro_rules | `(tactic| walk_at "idle 2") => `(tactic| skip)
def mixNm : List Str := [Str.ofString "p0", Str.ofString "p1", Str.ofString "p2", Str.ofString "p3", Str.ofString "p4", Str.ofString "constant", Str.ofString "word", Str.ofString "row", Str.ofString "n0", Str.ofString "n1", Str.ofString "n2", Str.ofString "n3", Str.ofString "n4"]
def mixIs : List IS := [
  .set 6 (.bin .BitXor (.bin .BitXor (.bin .BitXor (.bin .BitXor (.loc 0) (.loc 1)) (.loc 2)) (.loc 3)) (.loc 4)),
  .set 7 (.bin .BitOr (.bin .BitAnd (.bin .LShift (.loc 6) (.lit 1)) (.glo 0)) (.bin .BitAnd (.bin .RShift (.loc 6) (.lit 63)) (.glo 1))),
  .set 7 (.bin .BitXor (.bin .BitOr (.bin .BitAnd (.bin .LShift (.loc 6) (.lit 64)) (.glo 2)) (.bin .RShift (.loc 6) (.lit 256))) (.bin .BitOr (.bin .RShift (.loc 7) (.lit 64)) (.bin .LShift (.bin .BitAnd (.loc 7) (.glo 3)) (.lit 256)))),
  .tup [0, 1, 2, 3, 4] [(.bin .BitXor (.loc 0) (.loc 7)), (.bin .BitXor (.loc 1) (.loc 7)), (.bin .BitXor (.loc 2) (.loc 7)), (.bin .BitXor (.loc 3) (.loc 7)), (.bin .BitXor (.loc 4) (.loc 7))],
  .set 6 (.bin .BitAnd (.loc 0) (.glo 3)),
  .set 7 (.loc 6),
  .set 6 (.bin .BitAnd (.bin .RShift (.loc 1) (.lit 64)) (.glo 3)),
  .aug 7 .BitOr (.bin .LShift (.bin .BitAnd (.bin .BitOr (.bin .LShift (.loc 6) (.lit 44)) (.bin .RShift (.loc 6) (.lit 20))) (.glo 3)) (.lit 64)),
  .set 6 (.bin .BitAnd (.bin .RShift (.loc 2) (.lit 128)) (.glo 3)),
  .aug 7 .BitOr (.bin .LShift (.bin .BitAnd (.bin .BitOr (.bin .LShift (.loc 6) (.lit 43)) (.bin .RShift (.loc 6) (.lit 21))) (.glo 3)) (.lit 128)),
  .set 6 (.bin .BitAnd (.bin .RShift (.loc 3) (.lit 192)) (.glo 3)),
  .aug 7 .BitOr (.bin .LShift (.bin .BitAnd (.bin .BitOr (.bin .LShift (.loc 6) (.lit 21)) (.bin .RShift (.loc 6) (.lit 43))) (.glo 3)) (.lit 192)),
  .set 6 (.bin .RShift (.loc 4) (.lit 256)),
  .aug 7 .BitOr (.bin .LShift (.bin .BitAnd (.bin .BitOr (.bin .LShift (.loc 6) (.lit 14)) (.bin .RShift (.loc 6) (.lit 50))) (.glo 3)) (.lit 256)),
  .set 8 (.bin .BitXor (.loc 7) (.bin .BitAnd (.bin .BitXor (.bin .BitOr (.bin .RShift (.loc 7) (.lit 64)) (.bin .LShift (.bin .BitAnd (.loc 7) (.glo 3)) (.lit 256))) (.glo 2)) (.bin .BitOr (.bin .RShift (.loc 7) (.lit 128)) (.bin .LShift (.bin .BitAnd (.loc 7) (.glo 4)) (.lit 192))))),
  .set 6 (.bin .BitAnd (.bin .RShift (.loc 0) (.lit 192)) (.glo 3)),
  .set 7 (.bin .BitAnd (.bin .BitOr (.bin .LShift (.loc 6) (.lit 28)) (.bin .RShift (.loc 6) (.lit 36))) (.glo 3)),
  .set 6 (.bin .RShift (.loc 1) (.lit 256)),
  .aug 7 .BitOr (.bin .LShift (.bin .BitAnd (.bin .BitOr (.bin .LShift (.loc 6) (.lit 20)) (.bin .RShift (.loc 6) (.lit 44))) (.glo 3)) (.lit 64)),
  .set 6 (.bin .BitAnd (.loc 2) (.glo 3)),
  .aug 7 .BitOr (.bin .LShift (.bin .BitAnd (.bin .BitOr (.bin .LShift (.loc 6) (.lit 3)) (.bin .RShift (.loc 6) (.lit 61))) (.glo 3)) (.lit 128)),
  .set 6 (.bin .BitAnd (.bin .RShift (.loc 3) (.lit 64)) (.glo 3)),
  .aug 7 .BitOr (.bin .LShift (.bin .BitAnd (.bin .BitOr (.bin .LShift (.loc 6) (.lit 45)) (.bin .RShift (.loc 6) (.lit 19))) (.glo 3)) (.lit 192)),
  .set 6 (.bin .BitAnd (.bin .RShift (.loc 4) (.lit 128)) (.glo 3)),
  .aug 7 .BitOr (.bin .LShift (.bin .BitAnd (.bin .BitOr (.bin .LShift (.loc 6) (.lit 61)) (.bin .RShift (.loc 6) (.lit 3))) (.glo 3)) (.lit 256)),
  .set 9 (.bin .BitXor (.loc 7) (.bin .BitAnd (.bin .BitXor (.bin .BitOr (.bin .RShift (.loc 7) (.lit 64)) (.bin .LShift (.bin .BitAnd (.loc 7) (.glo 3)) (.lit 256))) (.glo 2)) (.bin .BitOr (.bin .RShift (.loc 7) (.lit 128)) (.bin .LShift (.bin .BitAnd (.loc 7) (.glo 4)) (.lit 192))))),
  .set 6 (.bin .BitAnd (.bin .RShift (.loc 0) (.lit 64)) (.glo 3)),
  .set 7 (.bin .BitAnd (.bin .BitOr (.bin .LShift (.loc 6) (.lit 1)) (.bin .RShift (.loc 6) (.lit 63))) (.glo 3)),
  .set 6 (.bin .BitAnd (.bin .RShift (.loc 1) (.lit 128)) (.glo 3)),
  .aug 7 .BitOr (.bin .LShift (.bin .BitAnd (.bin .BitOr (.bin .LShift (.loc 6) (.lit 6)) (.bin .RShift (.loc 6) (.lit 58))) (.glo 3)) (.lit 64)),
  .set 6 (.bin .BitAnd (.bin .RShift (.loc 2) (.lit 192)) (.glo 3)),
  .aug 7 .BitOr (.bin .LShift (.bin .BitAnd (.bin .BitOr (.bin .LShift (.loc 6) (.lit 25)) (.bin .RShift (.loc 6) (.lit 39))) (.glo 3)) (.lit 128)),
  .set 6 (.bin .RShift (.loc 3) (.lit 256)),
  .aug 7 .BitOr (.bin .LShift (.bin .BitAnd (.bin .BitOr (.bin .LShift (.loc 6) (.lit 8)) (.bin .RShift (.loc 6) (.lit 56))) (.glo 3)) (.lit 192)),
  .set 6 (.bin .BitAnd (.loc 4) (.glo 3)),
  .aug 7 .BitOr (.bin .LShift (.bin .BitAnd (.bin .BitOr (.bin .LShift (.loc 6) (.lit 18)) (.bin .RShift (.loc 6) (.lit 46))) (.glo 3)) (.lit 256)),
  .set 10 (.bin .BitXor (.loc 7) (.bin .BitAnd (.bin .BitXor (.bin .BitOr (.bin .RShift (.loc 7) (.lit 64)) (.bin .LShift (.bin .BitAnd (.loc 7) (.glo 3)) (.lit 256))) (.glo 2)) (.bin .BitOr (.bin .RShift (.loc 7) (.lit 128)) (.bin .LShift (.bin .BitAnd (.loc 7) (.glo 4)) (.lit 192))))),
  .set 6 (.bin .RShift (.loc 0) (.lit 256)),
  .set 7 (.bin .BitAnd (.bin .BitOr (.bin .LShift (.loc 6) (.lit 27)) (.bin .RShift (.loc 6) (.lit 37))) (.glo 3)),
  .set 6 (.bin .BitAnd (.loc 1) (.glo 3)),
  .aug 7 .BitOr (.bin .LShift (.bin .BitAnd (.bin .BitOr (.bin .LShift (.loc 6) (.lit 36)) (.bin .RShift (.loc 6) (.lit 28))) (.glo 3)) (.lit 64)),
  .set 6 (.bin .BitAnd (.bin .RShift (.loc 2) (.lit 64)) (.glo 3)),
  .aug 7 .BitOr (.bin .LShift (.bin .BitAnd (.bin .BitOr (.bin .LShift (.loc 6) (.lit 10)) (.bin .RShift (.loc 6) (.lit 54))) (.glo 3)) (.lit 128)),
  .set 6 (.bin .BitAnd (.bin .RShift (.loc 3) (.lit 128)) (.glo 3)),
  .aug 7 .BitOr (.bin .LShift (.bin .BitAnd (.bin .BitOr (.bin .LShift (.loc 6) (.lit 15)) (.bin .RShift (.loc 6) (.lit 49))) (.glo 3)) (.lit 192)),
  .set 6 (.bin .BitAnd (.bin .RShift (.loc 4) (.lit 192)) (.glo 3)),
  .aug 7 .BitOr (.bin .LShift (.bin .BitAnd (.bin .BitOr (.bin .LShift (.loc 6) (.lit 56)) (.bin .RShift (.loc 6) (.lit 8))) (.glo 3)) (.lit 256)),
  .set 11 (.bin .BitXor (.loc 7) (.bin .BitAnd (.bin .BitXor (.bin .BitOr (.bin .RShift (.loc 7) (.lit 64)) (.bin .LShift (.bin .BitAnd (.loc 7) (.glo 3)) (.lit 256))) (.glo 2)) (.bin .BitOr (.bin .RShift (.loc 7) (.lit 128)) (.bin .LShift (.bin .BitAnd (.loc 7) (.glo 4)) (.lit 192))))),
  .set 6 (.bin .BitAnd (.bin .RShift (.loc 0) (.lit 128)) (.glo 3)),
  .set 7 (.bin .BitAnd (.bin .BitOr (.bin .LShift (.loc 6) (.lit 62)) (.bin .RShift (.loc 6) (.lit 2))) (.glo 3)),
  .set 6 (.bin .BitAnd (.bin .RShift (.loc 1) (.lit 192)) (.glo 3)),
  .aug 7 .BitOr (.bin .LShift (.bin .BitAnd (.bin .BitOr (.bin .LShift (.loc 6) (.lit 55)) (.bin .RShift (.loc 6) (.lit 9))) (.glo 3)) (.lit 64)),
  .set 6 (.bin .RShift (.loc 2) (.lit 256)),
  .aug 7 .BitOr (.bin .LShift (.bin .BitAnd (.bin .BitOr (.bin .LShift (.loc 6) (.lit 39)) (.bin .RShift (.loc 6) (.lit 25))) (.glo 3)) (.lit 128)),
  .set 6 (.bin .BitAnd (.loc 3) (.glo 3)),
  .aug 7 .BitOr (.bin .LShift (.bin .BitAnd (.bin .BitOr (.bin .LShift (.loc 6) (.lit 41)) (.bin .RShift (.loc 6) (.lit 23))) (.glo 3)) (.lit 192)),
  .set 6 (.bin .BitAnd (.bin .RShift (.loc 4) (.lit 64)) (.glo 3)),
  .aug 7 .BitOr (.bin .LShift (.bin .BitAnd (.bin .BitOr (.bin .LShift (.loc 6) (.lit 2)) (.bin .RShift (.loc 6) (.lit 62))) (.glo 3)) (.lit 256)),
  .set 12 (.bin .BitXor (.loc 7) (.bin .BitAnd (.bin .BitXor (.bin .BitOr (.bin .RShift (.loc 7) (.lit 64)) (.bin .LShift (.bin .BitAnd (.loc 7) (.glo 3)) (.lit 256))) (.glo 2)) (.bin .BitOr (.bin .RShift (.loc 7) (.lit 128)) (.bin .LShift (.bin .BitAnd (.loc 7) (.glo 4)) (.lit 192))))),
  .tup [0, 1, 2, 3, 4] [(.bin .BitXor (.loc 8) (.loc 5)), (.loc 9), (.loc 10), (.loc 11), (.loc 12)]]
def mixGm : List (Str × Int) := [(Str.ofString "_OTHERS", 2135987035920910082279229616932235919172856435612578181329595551366450556861598789219079445020670), (Str.ofString "_FIRST", 115792089237316195429848086744074588617446056455769168919041760803882641915905), (Str.ofString "_ALL", 2135987035920910082395021706169552114602704522356652769947041607822219725780640550022962086936575), (Str.ofString "_LANE", 18446744073709551615), (Str.ofString "_TWO", 340282366920938463463374607431768211455)]
def Good5 (ps : List Int) : Prop := ps.length = 5 ∧ ∀ x ∈ ps, 0 ≤ x ∧ intBits x ≤ 320
def rhoOf (ps : List Int) (c : Int) : List (Option IV) := ps.map (fun x => some (.i x)) ++ (some (.i c) :: List.replicate 7 none)
def theI : Option IV → Int
  | some (.i x) => x
  | _ => 0
def rnd (ps : List Int) (c : Int) : List Int := match evSs mixGm (rhoOf ps c) mixIs with
  | some ρ => (ρ.take 5).map theI
  | none => ps
def wide : Option AV := some (.i ⟨320, true, none⟩)
def mixB : List (Option AV) := List.replicate 5 wide ++ (some (.i ⟨64, true, none⟩) :: List.replicate 7 none)
def topOk : List (Option AV) → Bool
  | l => l.length == 13 && (l.take 5).all fun a => match a with
    | some (.i A) => A.nn && decide (A.k ≤ 320)
    | _ => false
theorem mix_abs : (match abSs mixGm mixB mixIs with | some β => topOk β | none => false) = true := by decide +kernel
theorem mix_nd : mixNm.Nodup := by decide +kernel
theorem good5_cases {ps : List Int} (h : Good5 ps) : ∃ a b c d e, ps = [a, b, c, d, e] := by
  obtain ⟨hl, _⟩ := h
  match ps, hl with
  | [a, b, c, d, e], _ => exact ⟨a, b, c, d, e, rfl⟩
theorem mix_fits {ps : List Int} {c : Int} (h : Good5 ps) (h0 : 0 ≤ c) (h1 : intBits c ≤ 64) : Fits mixB (rhoOf ps c) := by
  obtain ⟨a, b, d, e, f, rfl⟩ := good5_cases h
  have hw : ∀ x ∈ [a, b, d, e, f], okV (.i ⟨320, true, none⟩) (.i x) := fun x hx => ⟨(h.2 x hx).2, fun _ => (h.2 x hx).1, fun _ q => by cases q⟩
  refine ⟨rfl, fun i A hA => ?_⟩
  match i, hA with
  | 0, hA => cases hA; exact ⟨.i a, rfl, hw a (by simp)⟩
  | 1, hA => cases hA; exact ⟨.i b, rfl, hw b (by simp)⟩
  | 2, hA => cases hA; exact ⟨.i d, rfl, hw d (by simp)⟩
  | 3, hA => cases hA; exact ⟨.i e, rfl, hw e (by simp)⟩
  | 4, hA => cases hA; exact ⟨.i f, rfl, hw f (by simp)⟩
  | 5, hA => cases hA; exact ⟨.i c, rfl, h1, fun _ => h0, fun _ q => by cases q⟩
  | 6, hA => cases hA
  | 7, hA => cases hA
  | 8, hA => cases hA
  | 9, hA => cases hA
  | 10, hA => cases hA
  | 11, hA => cases hA
  | 12, hA => cases hA
  | n + 13, hA => simp [mixB] at hA
theorem rnd_ok {ps : List Int} {c : Int} (h : Good5 ps) (h0 : 0 ≤ c) (h1 : intBits c ≤ 64) :
    ∃ ρ' : List (Option IV), evSs mixGm (rhoOf ps c) mixIs = some ρ' ∧ (∀ (i : Nat) (x : Int), (rnd ps c)[i]? = some x → ρ'[i]? = some (some (IV.i x))) ∧ Good5 (rnd ps c) := by
  have ha := mix_abs
  split at ha
  · rename_i β hβ
    obtain ⟨ρ', h2, h3⟩ := abSs_ok (mix_fits h h0 h1) hβ
    have hr : rnd ps c = (ρ'.take 5).map theI := by unfold rnd; rw [h2]
    unfold topOk at ha
    simp only [Bool.and_eq_true, beq_iff_eq] at ha
    obtain ⟨hl, ht⟩ := ha
    have hl' : ρ'.length = 13 := by rw [← h3.1, hl]
    have key : ∀ i, i < 5 → ∃ x, ρ'[i]? = some (some (.i x)) ∧ 0 ≤ x ∧ intBits x ≤ 320 := by
      intro i hi
      have hb : i < (β.take 5).length := by rw [List.length_take]; omega
      have h4 := List.all_eq_true.mp ht _ (List.getElem_mem hb)
      have h5 : β[i]? = some ((β.take 5)[i]) := by
        rw [List.getElem_take]
        exact List.getElem?_eq_getElem (by omega)
      generalize (β.take 5)[i] = q at h4 h5
      match q, h4, h5 with
      | some (.i A), h4, h5 =>
        simp only [Bool.and_eq_true, decide_eq_true_eq] at h4
        obtain ⟨v, h6, h7⟩ := h3.2 i _ h5
        cases v with
        | i x => exact ⟨x, h6, h7.2.1 h4.1, Nat.le_trans h7.1 h4.2⟩
        | t xs => exact h7.elim
    refine ⟨ρ', h2, fun i x hx => ?_, ?_, fun x hx => ?_⟩
    · rw [hr, List.getElem?_map, List.getElem?_take] at hx
      split at hx
      · rename_i hi
        obtain ⟨y, h6, _⟩ := key i hi
        rw [h6] at hx ⊢
        have e : y = x := Option.some.inj hx
        rw [e]
      · cases hx
    · rw [hr, List.length_map, List.length_take]; omega
    · rw [hr] at hx
      obtain ⟨i, hi, e⟩ := List.getElem_of_mem hx
      have hi5 : i < 5 := by
        rw [List.length_map, List.length_take] at hi; omega
      obtain ⟨y, h6, h7, h8⟩ := key i hi5
      have e2 : ((ρ'.take 5).map theI)[i]? = some x := by rw [List.getElem?_eq_getElem hi, e]
      rw [List.getElem?_map, List.getElem?_take, if_pos hi5, h6] at e2
      have e3 : y = x := Option.some.inj e2
      rw [← e3]
      exact ⟨h7, h8⟩
  · cases ha
def rounds : List Int := [1, 32898, 9223372036854808714, 9223372039002292224, 32907, 2147483649, 9223372039002292353, 9223372036854808585, 138, 136, 2147516425, 2147483658, 2147516555, 9223372036854775947, 9223372036854808713, 9223372036854808579, 9223372036854808578, 9223372036854775936, 32778, 9223372039002259466, 9223372039002292353, 9223372036854808704, 2147483649, 9223372039002292232]
theorem rounds_ok : (rounds.all fun c => decide (0 ≤ c) && decide (intBits c ≤ 64)) = true := by decide +kernel
def mixF (ps : List Int) : List Int := rounds.foldl rnd ps
theorem fold_good {ps : List Int} (h : Good5 ps) : ∀ i, Good5 ((rounds.take i).foldl rnd ps) := by
  have go : ∀ (cs : List Int), (∀ c ∈ cs, c ∈ rounds) → ∀ ps, Good5 ps → Good5 (cs.foldl rnd ps) := by
    intro cs
    induction cs with
    | nil => intro _ ps h; exact h
    | cons c cs ih =>
      intro hc ps h
      have h2 := List.all_eq_true.mp rounds_ok c (hc c (.head _))
      simp only [Bool.and_eq_true, decide_eq_true_eq] at h2
      obtain ⟨_, _, _, h3⟩ := rnd_ok h h2.1 h2.2
      exact ih (fun d hd => hc d (.tail _ hd)) _ h3
  exact fun i => go _ (fun c hc => List.mem_of_mem_take hc) ps h
theorem mixF_good {ps : List Int} (h : Good5 ps) : Good5 (mixF ps) := by
  have := fold_good h rounds.length
  rwa [List.take_length] at this
section
variable {prog : Program} {w : World} {A : Around} {E : Value → Shared → Prop} {s : Shared} {env : Env} {h₀ : Heap} {x : Str} {body : List Stmt} {Q : Flow → Shared → Prop}
theorem iter_tupN {t : Addr} {items : Array Value} {m₀ : Str → Option Value} {news : List (Addr × Obj)} (J : Nat → (Str → Option Value) → List (Addr × Obj) → Prop)
    (hT : IsTup h₀ t items) (hh : A.handled = none) (F : Fr h₀ env.locals s.heap m₀) (N : News h₀ env.locals s.heap news) (hj : J 0 m₀ news)
    (turn : ∀ i v m₁ news₁ h tk own, items[i]? = some v → J i m₁ news₁ → OwnOff own (news.map (·.1)) → news₁.map (·.1) = news.map (·.1) → Fr h₀ env.locals h (fun y => if y = x then some v else m₁ y) → News h₀ env.locals h (news₁ ++ own) →
      wpAny (model prog w) A (execs body env) (InvPostN h₀ env.locals (J (i + 1)) own (news.map (·.1)) { s with heap := h, toks := tk } Q) E { s with heap := h, toks := tk })
    (done : ∀ m₁ news₁ h tk, J items.size m₁ news₁ → Fr h₀ env.locals h m₁ → News h₀ env.locals h news₁ → Q .next { s with heap := h, toks := tk }) :
    wpAny (model prog w) A (pyIter (.ref t)) (fun it s₂ => LoopAtV prog w A h₀ env x body Q E it s₂) E s := by
  have ht : s.heap.IsTuple t items := IsTup.keeps hT F.keep
  obtain ⟨o, ho, _⟩ := id hT
  have hlt : t < h₀.objs.size := Heap.lt_size ho
  have hne : t ≠ s.heap.objs.size := Nat.ne_of_lt (Nat.lt_trans (Nat.lt_of_lt_of_le hlt F.above) F.ns.lt)
  refine wpAny_pyIter_tuple ht ?_
  refine loop_invN J (Walks.tuple (prog := prog) (w := w) hh s.heap.objs.size t hne items) ?_ ?_ ?_ ?_ ⟨⟨_, Heap.get?_push_size _ rfl, rfl, rfl⟩, ht.at fun o e => Heap.get?_push_of_some _ e⟩ (F.push _) (fun p hp => ⟨Heap.get?_push_of_some _ (N p hp).1, (N p hp).2⟩) hj ?_ ?_
  · intro hm
    rcases List.mem_cons.mp hm with e | hm
    · exact absurd F.ns.lt (e ▸ Nat.lt_irrefl _)
    · exact absurd (Nat.lt_of_lt_of_le hlt F.above) ((List.mem_singleton.mp hm) ▸ Nat.lt_irrefl _)
  · intro b hb
    rw [List.mem_singleton.mp hb]
    exact next_is_new F
  · intro p hp hI
    exact absurd (Heap.lt_size (N p hp).1) ((List.mem_singleton.mp hI) ▸ Nat.lt_irrefl _)
  · intro q hq hI
    rcases List.mem_cons.mp hI with e | hm
    · exact absurd (Heap.lt_size (N q hq).1) (e ▸ Nat.lt_irrefl _)
    · have h3 := (N q hq).2.2
      rw [List.mem_singleton.mp hm, ho] at h3
      cases h3
  · rintro i v m₁ news₁ h tk own hi hP hadr hoff hJ F₁ N₁
    exact turn i v m₁ news₁ h tk own hP hJ hoff hadr F₁ N₁
  · intro m₁ news₁ h tk hJ F₁ N₁
    exact done m₁ news₁ h tk hJ F₁ N₁
end
def rhoL (ps : List Int) : List (Option IV) := ps.map (fun x => some (.i x)) ++ List.replicate 8 none
theorem agr_rhoL {news : List (Addr × Obj)} {m : Str → Option Value} {ps : List Int} {ρ : List (Option IV)} (Ag : Agr mixNm news m ρ) (h : ∀ (i : Nat) (x : Int), ps[i]? = some x → ρ[i]? = some (some (IV.i x))) : Agr mixNm [] m (rhoL ps) := by
  intro i x v hx hv
  unfold rhoL at hv
  by_cases hi : i < ps.length
  · rw [List.getElem?_append_left (by simpa using hi), List.getElem?_map, List.getElem?_eq_getElem hi] at hv
    have e : IV.i ps[i] = v := Option.some.inj (Option.some.inj hv)
    subst e
    exact Ag i x (.i ps[i]) hx (h i _ (List.getElem?_eq_getElem hi))
  · rw [List.getElem?_append_right (by simpa using hi), List.getElem?_replicate] at hv
    split at hv <;> cases hv
variable {w : World} {p : Program} {loose : List Str} {mean : ExcName → Option Value} {mg mb : Str → Option Value}
def tupO (vs : List Value) (n : Nat) : Obj := { cls := .type "tuple", data := .seq (List.toArray vs) n }
theorem mix_glos (P : Params) : Glos (hd.heap_39 P) mixGm := by
  refine fillT _ ?_
  k_fill
  intro _ g hg
  simp only [mixGm, List.mem_cons, List.not_mem_nil, or_false] at hg
  rcases hg with rfl | rfl | rfl | rfl | rfl
  all_goals exact ⟨_, by k_is⟩
theorem rounds_at (P : Params) : ∃ vs, (hd.heap_39 P).lookup 22 = some ⟨.type "tuple", none, .seq (List.toArray vs) 0, #[]⟩ ∧ IntsAre vs rounds := by
  refine fillT _ ?_
  k_fill
  intro _
  refine ⟨_, by k_is, ?_⟩
  repeat constructor
theorem agr_map {m : Str → Option Value} {x0 x1 x2 x3 x4 : Int} (Ag : Agr mixNm [] m (rhoL [x0, x1, x2, x3, x4])) : ∃ u0 u1 u2 u3 u4 : Tok, m = fun y =>
    if y = Str.ofString "p0" then some (.int x0 u0) else if y = Str.ofString "p1" then some (.int x1 u1) else if y = Str.ofString "p2" then some (.int x2 u2) else if y = Str.ofString "p3" then some (.int x3 u3) else if y = Str.ofString "p4" then some (.int x4 u4) else m y := by
  obtain ⟨u0, h0⟩ := Ag 0 _ (.i x0) rfl rfl
  obtain ⟨u1, h1⟩ := Ag 1 _ (.i x1) rfl rfl
  obtain ⟨u2, h2⟩ := Ag 2 _ (.i x2) rfl rfl
  obtain ⟨u3, h3⟩ := Ag 3 _ (.i x3) rfl rfl
  obtain ⟨u4, h4⟩ := Ag 4 _ (.i x4) rfl rfl
  refine ⟨u0, u1, u2, u3, u4, funext fun y => ?_⟩
  split
  · rename_i q; rw [q]; exact h0
  split
  · rename_i q; rw [q]; exact h1
  split
  · rename_i q; rw [q]; exact h2
  split
  · rename_i q; rw [q]; exact h3
  split
  · rename_i q; rw [q]; exact h4
  rfl
local macro_rules | `(tactic| walk_at "exec For Name Name cons nil") => `(tactic| (k_here; (rename Fr _ _ _ _ => lF'); (with_unfolding_all refine' For_invVF lF' ?k1 ?k2 ?_; (case k1 => exact rfl); (case k2 => exact rfl); k_whole)))
theorem mixed_ok {news : List (Addr × Obj)} {a b c d e : Int} {t0 t1 t2 t3 t4 : Tok} (hg : Good5 [a, b, c, d, e]) :
    Tell w p loose mean mg mb 75 1 8 news [.int a t0, .int b t1, .int c t2, .int d t3, .int e t4]
      (fun v news' => ∃ D vs n, v = .ref D ∧ IntsAre vs (mixF [a, b, c, d, e]) ∧ AllLt D news ∧ news' = (D, tupO vs n) :: news) := by
  unfold Tell
  intro dp un gd cn cs a' ccd cl outer A₀ base h₀ L m s Q E B F X N T hk hdp hun hret
  refine fillT _ ?_
  k_fill
  intro _
  refine wpAny_call ?_
  k_dflt cell_enter
  iterate 4 (first | walk1 | (dsimp only; walk1))
  (rename Fr _ _ _ _ => F'); (rename News _ _ _ _ => N'); (rename Frag.In _ _ => X'); (rename Top _ _ _ _ _ _ => T')
  obtain ⟨rs, hr1, hr2⟩ := rounds_at w.params
  refine iter_tupN (J := fun i m nx => nx = news ∧ Agr mixNm [] m (rhoL ((rounds.take i).foldl rnd [a, b, c, d, e]))) (tupK X' hr1) rfl F' N' ⟨rfl, ?start⟩ ?turn ?done
  case start =>
    intro i x v hx hv
    match i, hx, hv with
    | 0, hx, hv => cases hx; cases hv; exact ⟨_, rfl⟩
    | 1, hx, hv => cases hx; cases hv; exact ⟨_, rfl⟩
    | 2, hx, hv => cases hx; cases hv; exact ⟨_, rfl⟩
    | 3, hx, hv => cases hx; cases hv; exact ⟨_, rfl⟩
    | 4, hx, hv => cases hx; cases hv; exact ⟨_, rfl⟩
    | 5, hx, hv => cases hv
    | 6, hx, hv => cases hv
    | 7, hx, hv => cases hv
    | 8, hx, hv => cases hv
    | 9, hx, hv => cases hv
    | 10, hx, hv => cases hv
    | 11, hx, hv => cases hv
    | 12, hx, hv => cases hv
    | n + 13, hx, hv => simp [mixNm] at hx
  case turn =>
    rintro i v m₁ news₁ h tk own hi ⟨hn, Ag⟩ hoff hadr F₁ N₁
    subst hn
    obtain ⟨n, t, rfl, hc⟩ := hr2.at i v (by simpa using hi)
    have hcs := List.all_eq_true.mp rounds_ok n (List.mem_of_getElem? hc)
    simp only [Bool.and_eq_true, decide_eq_true_eq] at hcs
    have hp := fold_good hg i
    have e1 : (rounds.take (i + 1)).foldl rnd [a, b, c, d, e] = rnd ((rounds.take i).foldl rnd [a, b, c, d, e]) n := by
      rw [List.take_add_one, hc]; simp
    rw [e1]
    generalize (rounds.take i).foldl rnd [a, b, c, d, e] = ps at hp Ag
    obtain ⟨ρ', h1, h2, h3⟩ := rnd_ok hp hcs.1 hcs.2
    have Ag₁ := agr_set mix_nd Ag (i := 5) (x := Str.ofString "constant") rfl n t
    have e2 : (rhoL ps).set 5 (some (.i n)) = rhoOf ps n := by
      obtain ⟨x0, x1, x2, x3, x4, rfl⟩ := good5_cases hp
      rfl
    rw [e2] at Ag₁
    refine evSs_ok (ss := mixIs) (gm := mixGm) (nm := mixNm) (rest := []) (T := topRead_of T') rfl ⟨rfl, by decide +kernel, by decide +kernel, by decide +kernel, by decide +kernel, mix_nd⟩ (mix_glos _) X' (by kernel_rfl) h1 (agr_news Ag₁ (fun _ h => nomatch h)) F₁ N₁ fun h' m' k F'' N'' Ag'' => ?_
    refine wpAny_execs_nil ?_
    exact ⟨h', k, m', news₁ ++ own, news₁, rfl, F'', N'', fun q hq => List.mem_append_left _ hq, fun q hq => List.mem_append_right _ hq, rfl, rfl, agr_rhoL Ag'' h2⟩
  case done =>
    rintro m₁ news₁ h tk ⟨hn, Ag⟩ F₁ N₁
    subst hn
    have hsz : rs.toArray.size = rounds.length := by rw [List.size_toArray]; exact hr2.length
    rw [hsz, List.take_length] at Ag
    have hgm : Good5 (mixF [a, b, c, d, e]) := mixF_good hg
    unfold mixF at hret hgm
    generalize rounds.foldl rnd [a, b, c, d, e] = ps at hgm Ag hret
    obtain ⟨x0, x1, x2, x3, x4, rfl⟩ := good5_cases hgm
    obtain ⟨u0, u1, u2, u3, u4, em⟩ := agr_map Ag
    dsimp only at F₁ N₁ ⊢
    rw [em] at F₁
    k_steps
    (rename Fr _ _ _ _ => kF); (rename News _ _ _ _ => kN); (rename (∀ q ∈ _, _ < _) => hl)
    exact hret _ _ _ _ ⟨_, [_, _, _, _, _], 0, rfl, .cons _ _ (.cons _ _ (.cons _ _ (.cons _ _ (.cons _ _ .nil)))), allLt_of hl, rfl⟩ kF kN
end
section
open PySem PySem.W PyProof.Rows
open PySem.Builtin.Int (intBits)
set_option maxRecDepth 100000
set_option maxHeartbeats 800000
/-! octets -/
def zeros (n : Nat) : List UInt8 := List.replicate n 0
section
variable {prog : Program} {w : World} {A : Around} {E : Value → Shared → Prop} {s : Shared} {value slice : PySem.Expr} {b c : Array UInt8} {t u : Tok} {h₀ : Heap} {L : Addr} {m : Str → Option Value} {news : List (Addr × Obj)}
theorem mulZ {n : Int} {k : Nat} {Q : Value → Shared → Prop} (e : n = (k : Int)) (h2 : 2 ≤ k) (hn : k ≤ 1000) (h : ∀ t' k', Q (.bytes (zeros k).toArray t') { s with toks := k' }) : wpAny (model prog w) A (binaryOp .Mult (.bytes #[0] t) (.int n u)) Q E s := by
  subst e
  exact bytes_mul_K (b := [0]) (d := zeros k) (List.cons_ne_nil _ _) (by omega) (by omega) (by simp; omega) (by rw [Int.toNat_natCast]; simp [zeros]) h
theorem addB {n k : Nat} {Q : Value → Shared → Prop} (hb : b.size = n) (hc : c.size = k) (hs : n + k ≤ 16777216) (h : ∀ t' k', (b ++ c).size = n + k → Q (.bytes (b ++ c) t') { s with toks := k' }) : wpAny (model prog w) A (binaryOp .Add (.bytes b t) (.bytes c u)) Q E s :=
  KBy.add_bytes (by rw [hb, hc]; exact hs) fun t' k' => h t' k' (by rw [Array.size_append, hb, hc])
def cut (b : Array UInt8) (i j : Nat) : Array UInt8 := ((b.toList.drop i).take (j - i)).toArray
theorem cut_size {b : Array UInt8} {i j n : Nat} (hb : b.size = n) (hj : j ≤ n) : (cut b i j).size = j - i := by
  unfold cut
  rw [List.size_toArray, List.length_take, List.length_drop, Array.length_toList, hb]
  omega
theorem sliceB {n : Nat} {l u : Value} {lo hi : Option Int} {i j : Nat} {Q : Value → Shared → Prop} (hF : Fr h₀ L s.heap m) (hN : News h₀ L s.heap news) (hb : b.size = n) (hl : IsPart l lo) (hu : IsPart u hi) (hz : n ≤ 16777216)
    {d : Nat} (ei : lo.elim 0 (clipAt n) = i) (ej : hi.elim n (clipAt n) = j) (hj : j ≤ n) (hd : j - i = d)
    (h : ∀ h' t' k, Fr h₀ L h' m → News h₀ L h' news → (cut b i j).size = d → Q (.bytes (cut b i j) t') { s with heap := h', toks := k })
    (hs : subscripted slice false (.bytes b t) (.ref s.heap.objs.size) = operate [.ref s.heap.objs.size, .bytes b t] (getItem (.bytes b t) (.ref s.heap.objs.size)) := by with_unfolding_all rfl)
    (ht : ∀ r, letTemporaryGo value (.bytes b t) r = pure () := by intro _; with_unfolding_all rfl) :
    wpAny (model prog w) A (subscriptTail value slice (.bytes b t) (.ref s.heap.objs.size)) Q E { s with heap := s.heap.push { cls := .type "slice", data := .fields #[l, u, .none] } } := by
  refine KBc.slice_K hF hN rfl hl hu (by rw [KBw.ints_length, hb]; exact hz) (fun h' t' k F' N' _ => ?_) hs ht
  have e : KBy.picked b lo hi = cut b i j := by
    rw [KBc.picked_eq, hb, ei, ej]
    rfl
  rw [e]
  exact h h' t' k F' N' (by rw [cut_size hb hj, hd])
/-- the last octet -/
def lastO (b : Array UInt8) : Int := (KBw.bInts b).getD (b.size - 1) 0
theorem lastO_in (b : Array UInt8) : 0 ≤ lastO b ∧ lastO b < 256 := KBw.getD_in fun _ hk => KBw.ints_in hk
theorem itemLast {n : Nat} {i : Int} {ui : Tok} {Q : Value → Shared → Prop} (ei : i = -1) (hb : b.size = n) (h0 : 0 < n) (hz : n ≤ 16777216) (h : ∀ t' k, Q (.int (lastO b) t') { s with toks := k })
    (hs : subscripted slice false (.bytes b t) (.int i ui) = operate [.bytes b t, .int i ui] (getItem (.bytes b t) (.int i ui)) := by with_unfolding_all rfl)
    (ht : ∀ r, letTemporaryGo value (.bytes b t) r = pure () := by intro _; with_unfolding_all rfl) : wpAny (model prog w) A (subscriptTail value slice (.bytes b t) (.int i ui)) Q E s := by
  subst ei
  refine KBc.itemR_K rfl (by rw [KBw.ints_length, hb]; omega) (by rw [KBw.ints_length, hb]; omega) (by omega) (fun t' k _ _ => ?_) hs ht
  have e : ((-1 : Int) + (KBw.bInts b).length).toNat = b.size - 1 := by rw [KBw.ints_length]; omega
  rw [e]
  exact h t' k
theorem or_in {x : Int} (h : 0 ≤ x ∧ x < 256) : 0 ≤ Builtin.bitOr x 128 ∧ Builtin.bitOr x 128 < 256 := by
  rw [or_nat h.1 (by decide)]
  have : x.toNat ||| (128 : Int).toNat < 2 ^ 8 := Nat.or_lt_two_pow (by omega) (by decide)
  omega
end
section
variable {prog : Program} {w : World} {M : Model} {A : Around} {E : Value → Shared → Prop} {s : Shared} {h₀ : Heap} {L : Addr} {m : Str → Option Value} {news : List (Addr × Obj)}
/-- the number that the octets say, the least first -/
def leN (b : Array UInt8) : Nat := b.toList.reverse.foldl (fun (acc : Nat) (b : UInt8) => acc * 256 + b.toNat) 0
theorem leN_lt (b : Array UInt8) : leN b < 256 ^ b.size := by
  have h := KFB.fold_lt b.toList.reverse 0
  rw [List.length_reverse, Array.length_toList, Nat.zero_add, Nat.one_mul] at h
  exact h
theorem grownW {n : Nat} {Q : Value → Shared → Prop} (hn : n < 2 ^ 1000) (h : Q (.int (n : Int) s.toks) { s with toks := s.toks + 1 }) : wpAny M A (mkIntGrown (n : Int)) Q E s := by
  unfold mkIntGrown
  have hl : ¬ ((n : Int).natAbs.log2 ≥ bitsLine) := by
    rw [Int.natAbs_natCast]
    have hb : bitsLine = 134217728 := by first | rfl | decide
    by_cases hz : n = 0
    · subst hz
      rw [hb]
      decide
    · have h1 := (Nat.log2_lt hz).mpr hn
      omega
  rw [if_neg hl]
  exact wpAny_mkInt h
theorem tree_leW {b : Array UInt8} {t u : Tok} {P : Fin → Shared → Prop} (hl : b.size ≤ 100) (h : P (.done (.ret (.int (leN b : Int) s.toks))) { s with toks := s.toks + 1 }) :
    wpAny M A (Builtin.«int.from_bytes» ⟨[.type "int", .bytes b t, .str (PySem.Str.ofString "little") u], []⟩) P E s := by
  have hn : leN b < 2 ^ 1000 := by
    have h1 := leN_lt b
    have h2 : 256 ^ b.size ≤ 256 ^ 100 := Nat.pow_le_pow_right (by decide) hl
    have e : (256 : Nat) ^ 100 = (2 ^ 8) ^ 100 := by decide +kernel
    have h3 : (2 ^ 8) ^ 100 ≤ 2 ^ 1000 := by rw [← Nat.pow_mul]; exact Nat.pow_le_pow_right (by decide) (by decide)
    exact Nat.lt_of_lt_of_le h1 (Nat.le_trans h2 (e ▸ h3))
  unfold Builtin.«int.from_bytes»
  refine wpAny_bind (wpAny_of_eq (a := true) KFB.type_int ?_)
  refine KFB.if_not rfl ?_
  refine wpAny_bind (wpAny_of_eq (a := true) F.conv_sub_int ?_)
  refine KFB.if_not rfl ?_
  refine wpAny_bind (wpAny_of_eq (a := [some (.bytes b t), some (.str (PySem.Str.ofString "little") u), none]) (by kernel_rfl) ?_)
  refine wpAny_bind (wpAny_of_eq (a := PySem.Str.ofString "little") (by kernel_rfl) ?_)
  refine wpAny_bind (wpAny_of_eq (a := false) rfl ?_)
  refine wpAny_bind (wpAny_of_eq (a := true) (by kernel_rfl) ?_)
  refine wpAny_bind (wpAny_of_eq (a := b) rfl ?_)
  show wpAny _ _ (mkIntGrown (b.toList.reverse.foldl (fun (acc : Int) (b : UInt8) => acc * 256 + (b.toNat : Int)) ((0 : Nat) : Int)) >>= fun v => _) _ _ _
  rw [KFB.foldI_eq]
  refine wpAny_bind (grownW hn ?_)
  refine KFB.if_so (by decide +kernel) ?_
  exact wpAny_bind (wpAny_pure (wpAny_pure h))
theorem leCall {x : Addr} {b : Array UInt8} {t u : Tok} {n : Nat} {Q : Value → Shared → Prop} (N : News h₀ L s.heap news) (hm : (x, KFB.bound) ∈ news) (hb : b.size = n) (hl : n ≤ 100)
    (h : ∀ t' k, leN b < 256 ^ n → Q (.int (leN b : Int) t') { s with toks := k }) : wpAny (model prog w) A (call (.ref x) [.bytes b t, .str (PySem.Str.ofString "little") u]) Q E s :=
  KFB.call_of (KFB.at_of N hm) (fun z => tree_leW (by rw [hb]; exact hl) z) (h _ _ (hb ▸ leN_lt b))
def toLe (x : Int) (k : Nat) : Array UInt8 := (KTBy.low x k).toArray
theorem toLe_size (x : Int) (k : Nat) : (toLe x k).size = k := by unfold toLe; rw [List.size_toArray, KTBy.low_length]
theorem toLe_call {x z : Int} {k : Nat} {t u v : Tok} {Q : Value → Shared → Prop} (ez : (k : Int) = z) (hk : k ≤ 1000) (h0 : 0 ≤ x) (hb : intBits x ≤ 8 * k) (h : ∀ t' k', (toLe x k).size = k → Q (.bytes (toLe x k) t') { s with toks := k' }) :
    wpAny (model prog w) A (call (.builtin "int.to_bytes") [.int x t, .int z u, .str (PySem.Str.ofString "little") v]) Q E s := by
  subst ez
  refine wpAny_call_entry KTBy.slot (typeIs_int s x t) KTBy.entry ?_ (KTBy.args _ _ _)
  show wpAny _ _ (Builtin.Int.intOfSelf (.int x t) >>= fun y => _) _ _ s
  refine wpAny_bind (wpAny_of_eq (a := x) rfl ?_)
  show wpAny _ _ (Builtin.Int.intBindNamed "to_bytes" ["length", "byteorder", "signed"] 0 2 [.int (k : Int) u, .str (PySem.Str.ofString "little") v] [] >>= fun l => _) _ _ s
  refine wpAny_bind (wpAny_of_eq (a := [some (.int (k : Int) u), some (.str (PySem.Str.ofString "little") v), none]) (by kernel_rfl) ?_)
  show wpAny _ _ (Builtin.Int.intIndex "int.to_bytes" (.int (k : Int) u) >>= fun n => _) _ _ s
  refine wpAny_bind (wpAny_of_eq (a := (k : Int)) rfl ?_)
  refine KFB.if_not (by show (decide ((k : Int) < -(2 ^ 63 : Int)) || decide ((k : Int) ≥ 2 ^ 63)) = false; rw [decide_eq_false (show ¬ ((k : Int) < -(2 ^ 63 : Int)) by omega), decide_eq_false (show ¬ ((k : Int) ≥ 2 ^ 63) by omega)]; rfl) ?_
  refine wpAny_bind (wpAny_of_eq (a := PySem.Str.ofString "little") (by kernel_rfl) ?_)
  refine wpAny_bind (wpAny_of_eq (a := false) rfl ?_)
  refine wpAny_bind (wpAny_of_eq (a := true) (by kernel_rfl) ?_)
  refine wpAny_ite_false (decide_eq_false (show ¬ ((k : Int) < 0) by omega)) ?_
  refine wpAny_ite_false (decide_eq_false (show ¬ ((k : Int) > 2 ^ 63 - 1 - 33) by omega)) ?_
  refine wpAny_ite_false (decide_eq_false (show ¬ ((k : Int) > (sizeLine : Int)) by rw [sizeLine_eq]; omega)) ?_
  refine KFB.if_not (by show (decide (x < 0) && !false) = false; rw [decide_eq_false (show ¬ x < 0 by omega)]; rfl) ?_
  refine KFB.if_not (by show (_ && decide ((intBits x : Int) > 8 * (k : Int))) = false; rw [decide_eq_false (show ¬ ((intBits x : Int) > 8 * (k : Int)) by omega), Bool.and_false]) ?_
  refine wpAny_bind (wpAny_mkBytes (wpAny_pure ⟨_, rfl, ?_⟩) (by show (KTBy.low x (Int.toNat (k : Int))).length ≤ sizeLine; rw [KTBy.low_length, Int.toNat_natCast, sizeLine_eq]; omega))
  exact h _ _ (toLe_size x k)
end
section
variable {prog : Program} {w : World} {A : Around} {E : Value → Shared → Prop} {s : Shared} {env : Env} {h₀ : Heap} {x : Str} {body : List Stmt} {Q : Flow → Shared → Prop}
/-- a range of one turn -/
theorem iter_range1 {r : Addr} {a b c : Int} {t u v : Tok} {m₀ : Str → Option Value} {news : List (Addr × Obj)} (P : (Str → Option Value) → Prop)
    (hr : IsRange s.heap r a b c t u v) (hsmall : Builtin.Range.small a b c = true) (hn : Builtin.Range.rangeSize a b c = 1) (hh : A.handled = none) (F : Fr h₀ env.locals s.heap m₀) (N : News h₀ env.locals s.heap news)
    (turn : ∀ t h tk own, Fr h₀ env.locals h (fun y => if y = x then some (.int a t) else m₀ y) → News h₀ env.locals h (news ++ own) →
      wpAny (model prog w) A (execs body env) (InvPostN h₀ env.locals (fun m nx => nx = news ∧ P m) own (news.map (·.1)) { s with heap := h, toks := tk } Q) E { s with heap := h, toks := tk })
    (done : ∀ m₁ h tk, P m₁ → Fr h₀ env.locals h m₁ → News h₀ env.locals h news → Q .next { s with heap := h, toks := tk }) :
    wpAny (model prog w) A (pyIter (.ref r)) (fun it s₂ => LoopAtV prog w A h₀ env x body Q E it s₂) E s := by
  refine wpAny_pyIter_range hr hsmall ?_
  rw [hn]
  refine loop_invN (fun i m nx => nx = news ∧ (if i = 0 then m = m₀ else P m)) (Walks.range (prog := prog) (w := w) hh s.heap.objs.size a c 1) ?_ ?_ ?_ ?_ (by show IsRangeIter _ _ _ _ _; simpa using Heap.get?_push_size _ rfl) (F.push _) (fun p hp => ⟨Heap.get?_push_of_some _ (N p hp).1, (N p hp).2⟩) ⟨rfl, by simp⟩ ?_ ?_
  · intro hm
    exact absurd F.ns.lt ((List.mem_singleton.mp hm) ▸ Nat.lt_irrefl _)
  · intro b hb
    rw [List.mem_singleton.mp hb]
    exact next_is_new F
  · intro p hp hI
    exact absurd (Heap.lt_size (N p hp).1) ((List.mem_singleton.mp hI) ▸ Nat.lt_irrefl _)
  · intro q hq hI
    exact absurd (Heap.lt_size (N q hq).1) ((List.mem_singleton.mp hI) ▸ Nat.lt_irrefl _)
  · rintro i v m₁ news₁ h tk own hi ⟨t, rfl⟩ hadr hoff ⟨hn1, hJ⟩ F₁ N₁
    have h0 : i = 0 := by omega
    subst h0 hn1
    rw [if_pos rfl] at hJ
    subst hJ
    have e : a + ((0 : Nat) : Int) * c = a := by simp
    rw [e] at F₁
    refine wpAny_mono (turn t h tk own F₁ N₁) (fun f s₂ q => ?_) fun _ _ e => e
    cases f with
    | ret v => exact q
    | brk => exact q
    | next =>
      obtain ⟨h', tk, m', news', nx, e, F', N', hn, ho, ha, hj1, hj2⟩ := q
      exact ⟨h', tk, m', news', nx, e, F', N', hn, ho, ha, hj1, by simpa using hj2⟩
    | cont =>
      obtain ⟨h', tk, m', news', nx, e, F', N', hn, ho, ha, hj1, hj2⟩ := q
      exact ⟨h', tk, m', news', nx, e, F', N', hn, ho, ha, hj1, by simpa using hj2⟩
  · rintro m₁ news₁ h tk ⟨hn1, hJ⟩ F₁ N₁
    subst hn1
    exact done m₁ h tk (by simpa using hJ) F₁ N₁
end
def mx (ps : List Int) (i : Nat) : Int := (mixF ps).getD i 0
theorem mixed_use {w : World} {p : Program} {loose : List Str} {mean : ExcName → Option Value} {mg mb : Str → Option Value} {news : List (Addr × Obj)} {a b c d e : Int} {t0 t1 t2 t3 t4 : Tok}
    {dp un : Nat} {gd : Option (List Code)} {cn : Str} {cs : Scope} {a' : Addr} {ccd : Value} {cl : List (Str × Addr)} {outer : List Env} {A₀ : Around} {base h₀ : Heap} {L : Addr} {m : Str → Option Value} {s : Shared} {Q E : Value → Shared → Prop}
    (B : Below A₀ base outer h₀) (F : Fr h₀ L s.heap m) (X : (hd.heap_39 w.params).In h₀) (N : News h₀ L s.heap news) (T : Top p loose mean mg mb h₀) (hk : cs.kind = .function) (hg : Good5 [a, b, c, d, e]) (hd : dp + 1 < recursionLimit) (hu : un + 8 < cLine)
    (ret : ∀ D u0 u1 u2 u3 u4 n h' tk', Fr h₀ L h' m → News h₀ L h' ((D, ({ cls := .type "tuple", data := .seq #[.int (mx [a, b, c, d, e] 0) u0, .int (mx [a, b, c, d, e] 1) u1, .int (mx [a, b, c, d, e] 2) u2, .int (mx [a, b, c, d, e] 3) u3, .int (mx [a, b, c, d, e] 4) u4] n } : Obj)) :: news) → AllLt D news → Q (.ref D) { s with heap := h', toks := tk' }) :
    wpAny (model PySem.Challenge.pw_vj0010_01 w) (ktrTop dp un gd cn cs L a' ccd cl outer) (call (.ref 75) [.int a t0, .int b t1, .int c t2, .int d t3, .int e t4]) Q E s := by
  refine Tell.use B F X N T hk (mixed_ok hg) hd hu ?_
  rintro v news' h' tk' ⟨D, vs, n, rfl, hI, hl, rfl⟩ F' N'
  have hgm := mixF_good hg
  unfold mx at ret
  generalize mixF [a, b, c, d, e] = ps at hI hgm ret
  obtain ⟨x0, x1, x2, x3, x4, rfl⟩ := good5_cases hgm
  obtain ⟨u0, v1, rfl, hI1⟩ := hI.cons_inv
  obtain ⟨u1, v2, rfl, hI2⟩ := hI1.cons_inv
  obtain ⟨u2, v3, rfl, hI3⟩ := hI2.cons_inv
  obtain ⟨u3, v4, rfl, hI4⟩ := hI3.cons_inv
  obtain ⟨u4, v5, rfl, hI5⟩ := hI4.cons_inv
  have e5 := hI5.nil_inv
  subst e5
  exact ret D u0 u1 u2 u3 u4 n h' tk' F' N' hl
def oct (v : Array UInt8) (z : Nat) : Array UInt8 := cut (v ++ #[1] ++ (zeros z).toArray) 0 135 ++ byteArr [Builtin.bitOr (lastO (v ++ #[1] ++ (zeros z).toArray)) 128]
def wds (v : Array UInt8) (z : Nat) : List Int := [Builtin.bitXor 0 (leN (cut (oct v z) 0 40) : Int), Builtin.bitXor 0 (leN (cut (oct v z) 40 80) : Int), Builtin.bitXor 0 (leN (cut (oct v z) 80 120) : Int), Builtin.bitXor 0 (leN (cut (oct v z) 120 136) : Int), 0]
def maskK : Int := 115792089237316195423570985008687907853269984665640564039457584007913129639935
def kecZ (v : Array UInt8) (z : Nat) : Array UInt8 := toLe (Builtin.bitAnd (mx (wds v z) 0) maskK) 32
/-- what keccak hands back -/
def kec (v : Array UInt8) : Array UInt8 := kecZ v (135 - v.size % 136)
theorem kec_size (v : Array UInt8) : (kec v).size = 32 := toLe_size _ _
theorem xor0_in {n k : Nat} (h : n < 256 ^ k) (hk : k ≤ 40) : 0 ≤ Builtin.bitXor 0 (n : Int) ∧ intBits (Builtin.bitXor 0 (n : Int)) ≤ 320 := by
  have h1 := xor_bounds (a := 0) (b := (n : Int)) (by decide) (Int.natCast_nonneg _)
  have h2 : Builtin.bitOr 0 (n : Int) = (n : Int) := by
    rw [or_nat (by decide) (Int.natCast_nonneg _), Int.toNat_natCast]
    simp
  rw [h2] at h1
  refine ⟨h1.1, intBits_le_iff.mpr ?_⟩
  have h3 : (256 : Nat) ^ k ≤ 256 ^ 40 := Nat.pow_le_pow_right (by decide) hk
  have h4 : (256 : Nat) ^ 40 = 2 ^ 320 := by decide +kernel
  rw [h4] at h3
  have h5 := Nat.lt_of_lt_of_le h h3
  generalize (2 : Nat) ^ 320 = T at h5 ⊢
  omega
theorem cut_le (b : Array UInt8) (i j : Nat) : (cut b i j).size ≤ j - i := by
  unfold cut
  rw [List.size_toArray, List.length_take]
  exact Nat.min_le_left _ _
theorem cut_leN (b : Array UInt8) (i j : Nat) : leN (cut b i j) < 256 ^ (j - i) := Nat.lt_of_lt_of_le (leN_lt _) (Nat.pow_le_pow_right (by decide) (cut_le b i j))
theorem wds_good (v : Array UInt8) (z : Nat) : Good5 (wds v z) := by
  refine ⟨rfl, fun x hx => ?_⟩
  simp only [wds, List.mem_cons, List.not_mem_nil, or_false] at hx
  rcases hx with rfl | rfl | rfl | rfl | rfl
  · exact xor0_in (cut_leN _ 0 40) (by decide)
  · exact xor0_in (cut_leN _ 40 80) (by decide)
  · exact xor0_in (cut_leN _ 80 120) (by decide)
  · exact xor0_in (cut_leN _ 120 136) (by decide)
  · exact ⟨by decide, by decide⟩
theorem mask_in (ps : List Int) (h : Good5 ps) : 0 ≤ Builtin.bitAnd (mx ps 0) maskK ∧ intBits (Builtin.bitAnd (mx ps 0) maskK) ≤ 8 * 32 := by
  have hg := mixF_good h
  have h0 : 0 ≤ mx ps 0 := by
    unfold mx
    generalize mixF ps = q at hg
    obtain ⟨x0, x1, x2, x3, x4, rfl⟩ := good5_cases hg
    exact (hg.2 x0 (by simp)).1
  have hm : (0 : Int) ≤ maskK := by decide
  rw [and_nat h0 hm]
  refine ⟨Int.natCast_nonneg _, nn_bits (Int.natCast_nonneg _) ?_⟩
  rw [Int.toNat_natCast]
  exact Nat.lt_of_le_of_lt Nat.and_le_right (by decide +kernel)
end
section
open PySem PySem.W PyProof.Rows
open PySem.Builtin.Int (intBits)
set_option maxRecDepth 100000
set_option maxHeartbeats 800000
local macro_rules | `(tactic| walk_at "idle 0") => `(tactic| skip)
variable {w : World} {p : Program} {loose : List Str} {mean : ExcName → Option Value} {mg mb : Str → Option Value}
theorem zeros_size (k : Nat) : (zeros k).toArray.size = k := by simp [zeros]
theorem one_size (x : UInt8) : (#[x] : Array UInt8).size = 1 := rfl
theorem byteArr1 (x : Int) : (byteArr [x]).size = 1 := rfl
theorem lenB {prog : Program} {w : World} {A : Around} {E : Value → Shared → Prop} {s : Shared} {b : Array UInt8} {t : Tok} {n : Nat} {Q : Value → Shared → Prop} (hb : b.size = n) (hz : n ≤ 16777216) (h : ∀ t' k, Q (.int (n : Int) t') { s with toks := k }) : wpAny (model prog w) A (call (.builtin "len") [.bytes b t]) Q E s := by
  refine len_bytes (by rw [hb]; omega) ?_
  rw [hb]
  exact h _ _
-- a size, in figures
local macro_rules | `(tactic| walk_at "BSZ") => `(tactic| first | with_reducible assumption | exact zeros_size _ | exact byteArr1 _ | exact one_size _ | rfl)
local macro_rules | `(tactic| walk_at "call builtin:len") => `(tactic| (k_here; (with_reducible show wpAny _ _ (call (Value.builtin "len") [Value.bytes _ _]) _ _ _); (refine lenB (by with_reducible assumption) (by first | with_reducible assumption | decide) ?_); intro _ _))
local macro_rules | `(tactic| walk_at "binaryOp Mult bytes int") => `(tactic| (k_here; (with_reducible show wpAny _ _ (binaryOp Operator.Mult (Value.bytes _ _) (Value.int _ _)) _ _ _); (refine mulZ (by assumption) (by with_reducible assumption) (by with_reducible assumption) ?_); intro _ _))
local macro_rules | `(tactic| walk_at "binaryOp Add bytes bytes") => `(tactic| (k_here; (with_reducible show wpAny _ _ (binaryOp Operator.Add (Value.bytes _ _) (Value.bytes _ _)) _ _ _); (refine addB (by walk_at "BSZ") (by walk_at "BSZ") (by first | with_reducible assumption | decide) ?_); intro _ _ hsz; (try simp only [List.size_toArray, List.length_cons, List.length_nil, Nat.zero_add, Nat.reduceAdd] at hsz); (try (replace hsz := hsz.trans (show _ = 136 by with_reducible assumption)))))
local macro_rules | `(tactic| walk_at "binaryOp BitOr int int") => `(tactic| (k_here; (refine PyProof.Rows.or_int ?_)))
local macro_rules | `(tactic| walk_at "subscriptTail") => `(tactic| (k_here; (with_reducible show wpAny _ _ (subscriptTail _ _ (Value.bytes _ _) (Value.int _ _)) _ _ _); (refine itemLast (by decide) (by with_reducible assumption) (by decide) (by decide) ?_); intro _ _))
local macro_rules | `(tactic| walk_at "subscriptTail") => `(tactic| (k_here; (with_reducible show wpAny _ _ (subscriptTail _ (Expr.Slice _ _ none _) (Value.bytes _ _) (Value.ref _)) _ _ _); (with_reducible rename Fr _ _ _ _ => F'); (with_reducible rename News _ _ _ _ => N'); (first | (refine sliceB (i := 0) (j := 135) (d := 135) (s := ⟨_, _, _, _, _⟩) F' N' (by with_reducible assumption) (by constructor) (by constructor) (by decide) (by decide) (by decide) (by decide) (by decide) ?_) | (refine sliceB (i := 0) (j := 40) (d := 40) (s := ⟨_, _, _, _, _⟩) F' N' (by with_reducible assumption) (by constructor) (by constructor) (by decide) (by decide) (by decide) (by decide) (by decide) ?_) | (refine sliceB (i := 40) (j := 80) (d := 40) (s := ⟨_, _, _, _, _⟩) F' N' (by with_reducible assumption) (by constructor) (by constructor) (by decide) (by decide) (by decide) (by decide) (by decide) ?_) | (refine sliceB (i := 80) (j := 120) (d := 40) (s := ⟨_, _, _, _, _⟩) F' N' (by with_reducible assumption) (by constructor) (by constructor) (by decide) (by decide) (by decide) (by decide) (by decide) ?_) | (refine sliceB (i := 120) (j := 136) (d := 16) (s := ⟨_, _, _, _, _⟩) F' N' (by with_reducible assumption) (by constructor) (by constructor) (by decide) (by decide) (by decide) (by decide) (by decide) ?_) | (refine sliceB (i := 12) (j := 32) (d := 20) (s := ⟨_, _, _, _, _⟩) F' N' (by with_reducible assumption) (by constructor) (by constructor) (by decide) (by decide) (by decide) (by decide) (by decide) ?_)); intro _ _ _ F' N' hsz))
local macro_rules | `(tactic| walk_at "call type:bytes") => `(tactic| (k_here; (with_reducible show wpAny _ _ (call (Value.type "bytes") [Value.ref _]) _ _ _); k_dflt (refine' KBa.make_K ?kbaF ?kbaN ?kbah ?kbal ?kbai ?kbar ?kban ?_; (case kbaF => k_asm); (case kbaN => k_asm); (case kbah => rfl); (case kbal => exact News.isList (by k_asm) (by k_mem)); (case kbai => exact .cons _ _ .nil); (case kbar => (intro kn hkn; rw [List.mem_singleton.mp hkn]; exact or_in (lastO_in _))); (case kban => exact Nat.le_of_ble_eq_true rfl)); intro _ _ _ F' N' _))
local macro_rules | `(tactic| walk_at "call ref") => `(tactic| (k_here; (with_reducible show wpAny _ _ (call (Value.ref _) [Value.bytes _ _, Value.str _ _]) _ _ _); k_dflt (refine leCall (by k_asm) (by k_mem) (by with_reducible assumption) (by decide) ?_); intro _ _ _))
local macro_rules | `(tactic| walk_at "call ref") => `(tactic| (k_here; (with_reducible show wpAny _ _ (call (Value.ref 75) _) _ _ _); k_dflt (refine' mixed_use ?k1 ?k2 ?k3 ?k4 ?k5 ?kK ?kg ?kd ?ku ?_; (case k1 => k_asm); (case k2 => k_asm); (case k3 => k_asm); (case k4 => k_asm); (case k5 => k_asm); (case kK => exact rfl); (case kg => exact wds_good _ _); (case kd => ktr_room); (case ku => ktr_units)); intro D' u0' u1' u2' u3' u4' n' h' tk' F' N' l1))
local macro_rules | `(tactic| walk_at "binaryOp BitAnd int int") => `(tactic| (k_here; (refine PyProof.Rows.and_int ?_)))
local macro_rules | `(tactic| walk_at "call builtin:int.to_bytes") => `(tactic| (k_here; (refine toLe_call (k := 32) (by decide) (by decide) (mask_in _ (wds_good _ _)).1 (mask_in _ (wds_good _ _)).2 ?_); intro _ _ _))
theorem keccak_ok {news : List (Addr × Obj)} {v : Array UInt8} {t0 : Tok} {n z : Nat} (hs : v.size = n) (hz : 135 - (n : Int).fmod 136 = (z : Int)) (hz2 : 2 ≤ z) (hn : n + 1 + z = 136) :
    Tell w p loose mean mg mb 82 3 40 news [.bytes v t0]
      (fun r news' => ∃ t, r = .bytes (kec v) t ∧ news' = news) := by
  unfold Tell
  intro dp un gd cn cs a' ccd cl outer A₀ base h₀ L m s Q E B F X N T hk hdp hun hret
  refine fillT _ ?_
  k_fill
  intro _
  have z1 : z ≤ 1000 := by omega
  have z2 : n ≤ 16777216 := by omega
  have z3 : n + 1 ≤ 16777216 := by omega
  have z4 : n + 1 + z ≤ 16777216 := by omega
  refine wpAny_call ?_
  k_dflt cell_enter
  iterate 130 (first | (fail_if_success (with_reducible show wpAny _ _ (pyIter _) _ _ _)); (first | (k_unfold; (try dsimp only)) | (k_end; wrow_close) | walk1 | (dsimp only; walk1) | (leave1; walk_say "STEP leave1"; try dsimp only) | fail "no step") | skip)
  (rename Fr _ _ _ _ => F'); (rename News _ _ _ _ => N'); (rename IsRange _ _ _ _ _ _ _ _ => hR)
  refine iter_range1 (P := fun m' => ∃ t, m' (Str.ofString "p0") = some (.int (mx (wds v z) 0) t)) hR (by decide) (by decide) rfl F' (cb_drop (news := news) N' (fun _ h => .tail _ (.tail _ h))) ?turn ?done
  case turn =>
    intro t h tk own F₁ N₁
    clear hR F' N'
    k_steps
    (rename Fr _ _ _ _ => F2); (rename News _ _ _ _ => N2)
    exact ⟨_, _, _, _, news, rfl, F2, N2, fun q hq => .tail _ (.tail _ (.tail _ (.tail _ (.tail _ (List.mem_append_left _ hq))))), fun q hq => .tail _ (.tail _ (.tail _ (.tail _ (.tail _ (List.mem_append_right _ hq))))), rfl, rfl, ⟨_, rfl⟩⟩
  case done =>
    rintro m₁ h tk ⟨t, ht⟩ F₁ N₁
    clear hR F' N'
    have em : m₁ = fun y => if y = Str.ofString "p0" then some (.int (mx (wds v z) 0) t) else m₁ y := funext fun y => by
      split
      · rename_i q; rw [q]; exact ht
      · rfl
    rw [em] at F₁
    dsimp only at F₁ N₁ ⊢
    k_steps
    have ek : kec v = kecZ v z := by
      unfold kec
      rw [hs]
      have e1 : (n : Int).fmod 136 = ((n % 136 : Nat) : Int) := by
        rw [Int.fmod_eq_emod_of_nonneg _ (by decide)]
        rfl
      rw [e1] at hz
      have e2 : 135 - n % 136 = z := by omega
      rw [e2]
    (rename Fr _ _ _ _ => kF); (rename News _ _ _ _ => kN)
    exact hret _ _ _ _ ⟨_, by rw [ek]; rfl, rfl⟩ kF kN
end
section
open PySem PySem.W PyProof.Rows
set_option maxRecDepth 100000
set_option maxHeartbeats 800000
section
variable {prog : Program} {w : World} {A : Around} {E : Value → Shared → Prop} {s : Shared} {n : Nat} {t u : Tok} {Q : Value → Shared → Prop}
def dig (n : Nat) : List Nat := (Nat.toDigits 16 n).map Char.toNat
def hex2 (n : Nat) : List Nat := List.replicate (2 - (dig n).length) 48 ++ dig n
def F0 : Builtin.Str.Percent := { zero := true, width := some 2, type := 120 }
theorem pInt_hex {f : Builtin.Str.Percent} {neg : Bool} {ds : List Nat} (h1 : f.alt = false) (h2 : f.type = 120) (h3 : f.prec = none) (h4 : neg = false) : Builtin.Str.percentInt f neg ds = ds := by
  unfold Builtin.Str.percentInt
  simp [h1, h2, h3, h4]
theorem field_all : ((List.range 256).all fun c => Builtin.Str.percentField F0 true (dig c) == (if 2 ≤ (dig c).length then none else some (hex2 c))) = true := by decide +kernel
theorem pField_hex {f : Builtin.Str.Percent} {c : Nat} {ds : List Nat} (hf : f = F0) (hc : c < 256) (hd : ds = dig c) : Builtin.Str.percentField f true ds = (if 2 ≤ (dig c).length then none else some (hex2 c)) := by
  subst hf hd
  have h := List.all_eq_true.mp field_all c (List.mem_range.mpr hc)
  exact beq_iff_eq.mp h
theorem len_all : ((List.range 256).all fun c => (hex2 c).length == 2) = true := by decide +kernel
theorem hex2_len {c : Nat} (hc : c < 256) : (hex2 c).length = 2 := beq_iff_eq.mp (List.all_eq_true.mp len_all c (List.mem_range.mpr hc))
theorem wp_field {α : Type} {M : Model} {A : Around} {E : Value → Shared → Prop} {s : Shared} {o r : Option (List Nat)} (e : o = r) {k1 : Sem α} {k2 : List Nat → Sem α} {Q : α → Shared → Prop}
    (h : wpAny M A (match r with | none => k1 | some l => k2 l) Q E s) : wpAny M A (match o with | none => k1 | some l => k2 l) Q E s := by
  subst e
  exact h
theorem meets_hex (i : Int) (h0 : 0 ≤ i) (h1 : i < 256) : Meets (Builtin.«str.__mod__» ⟨[.str (Str.mk #[37, 48, 50, 120]) t, .int i u], []⟩) (fun _ R s => ∀ t' k, R (.ok (.ret (.str ⟨(hex2 i.toNat).toArray⟩ t'))) { s with toks := k }) := by
  apply KPc.meets_of
  intro _ _ _ _ _ _ hk
  rw [KPc.entry_is]
  unfold Builtin.Str.percentFormat
  refine wpAny_bind (wpAny_isInstance (typeIs_int _ _ _) F.sub_int_tuple ?_)
  refine wpAny_bind (wpAny_of_eq (a := none) rfl ?_)
  refine wpAny_bind (wpAny_of_eq (KPc.fills _ _) ?_)
  kpc_if
  refine wpAny_bind (wpAny_pure ?_)
  refine wpAny_bind ?_
  rw [KPc.range_list]
  refine KPc.start ?_
  intro _ _
  refine KPc.turn ?_; kpc_check; (repeat kpc_if)
  refine wpAny_bind ?_; refine wpAny_holding ?_; (repeat kpc_if)
  refine wpAny_bind (wpAny_of_eq (a := i) rfl ?_)
  (repeat kpc_if)
  refine wpAny_bind (wpAny_pure ?_)
  refine wpAny_pure ?_
  rewrite [pInt_hex]
  rotate_left
  · rfl
  · rfl
  · rfl
  · exact decide_eq_false (by omega)
  dsimp only
  refine wp_field (pField_hex (c := i.toNat) rfl (by omega) (by show _ = dig _; unfold dig; rw [show i.natAbs = i.toNat by omega])) ?_
  have hdd : List.map Char.toNat (Nat.toDigits 16 i.natAbs) = dig i.toNat := by
    unfold dig
    rw [show i.natAbs = i.toNat by omega]
  have hlen := hex2_len (c := i.toNat) (by omega)
  by_cases h2 : 2 ≤ (dig i.toNat).length
  · simp only [if_pos h2]
    have e2 : hex2 i.toNat = dig i.toNat := by
      unfold hex2
      rw [show 2 - (dig i.toNat).length = 0 by omega]
      rfl
    refine wpAny_pure ?_
    refine KPc.after_add0 (y := ⟨(hex2 i.toNat).toArray⟩) (by kpc_g) (by rw [hdd, e2]) (KPc.obj_none (ite_self _)) ?_
    intro w2 g2
    have g3 := KPc.good_mono (K := 1000) g2 (by show 0 + (hex2 i.toNat).toArray.size ≤ 1000; rw [List.size_toArray, hlen]; decide)
    clear g2
    kpc_turns
  · simp only [if_neg h2]
    refine wpAny_pure ?_
    refine KPc.after_add0 (y := ⟨(hex2 i.toNat).toArray⟩) (by kpc_g) rfl (KPc.obj_none rfl) ?_
    intro w2 g2
    have g3 := KPc.good_mono (K := 1000) g2 (by show 0 + (hex2 i.toNat).toArray.size ≤ 1000; rw [List.size_toArray, hlen]; decide)
    clear g2
    kpc_turns
end
end
section
open PySem PySem.W PyProof.Rows
set_option maxRecDepth 100000
set_option maxHeartbeats 800000
local macro_rules | `(tactic| walk_at "idle 0") => `(tactic| skip)
local macro_rules | `(tactic| walk_at "idle 1") => `(tactic| skip)
section
variable {prog : Program} {w : World} {A : Around} {E : Value → Shared → Prop} {s : Shared} {h₀ : Heap} {L : Addr} {m : Str → Option Value} {env : Env}
theorem strs_snoc {y : Str} {t : Tok} {vs : List Value} {ys : List Str} (h : StrsAre vs ys) : StrsAre (vs ++ [.str y t]) (ys ++ [y]) := kct_snoc h
/-- a list of texts, one an octet -/
theorem listComp_bytes {elt iter : Expr} {x : Str} {px : Pos} {scope : Scope} {cl : List (Str × Addr)} {pos : Pos} {b : Array UInt8} {tb : Tok} {news : List (Addr × Obj)} {Q : Value → Shared → Prop} (g : Nat → Str)
    (hh : A.handled = none) (F : Fr h₀ L s.heap m) (N : News h₀ L s.heap news) (hsz : b.size ≤ sizeLine)
    (hit : ∀ (Q' : Value → Shared → Prop), Q' (.bytes b tb) s → wpAny (model prog w) A (eval iter env) Q' E s)
    (hclos : closureFor scope env = pure cl) (hcell : ∀ y ∈ scope.names, y.2 ≠ .cell) (hkind : scope.kind = .function)
    (hnames : ∀ y ∈ scope.names, y.2 = .local → scope.names.lookup y.1 = some .local) (hx : scope.names.lookup x = some .local)
    (turn : ∀ (c : UInt8) (u : Tok) (C : Addr) (m₂ : Str → Option Value) (s' : Shared) (Q' E' : Value → Shared → Prop), m₂ x = some (.int (c.toNat : Int) u) → s'.heap.Ns C m₂ →
      (∀ t k, Q' (.str (g c.toNat) t) { s' with toks := k }) → wpAny (model prog w) A (eval elt (compEnvC scope cl C env)) Q' E' s')
    (fin : ∀ D h tk ys, StrsAre ys (b.toList.map fun c => g c.toNat) → Fr h₀ L h m → News h₀ L h ((D, LCg.lst ys) :: news) → Q (.ref D) { s with heap := h, toks := tk })
    (hs : ∀ x, foldedSetIterable iter env x = pure x := by intro _; rfl) :
    wpAny (model prog w) A (eval (.ListComp elt [⟨.Name x px, iter, [], 0⟩] scope pos) env) Q E s := by
  rw [eval_ListComp]
  refine wpAny_comprehension_free (use := none) rfl hs hclos hkind hnames (hit _ ?_)
  refine KBw.pyIter_bytes ?_
  have rest : ∀ (s₂ : Shared), (∃ h, s₂ = { s with heap := h }) → LCg.CompRest prog w A h₀ L m env elt x scope cl s₂ (fun _ => True) (fun i v => ∃ c u, b[i]? = some c ∧ v = .int (c.toNat : Int) u) (LCg.FinE h₀ L m s₂ Q) b.size 0 [] news := by
    rintro s₂ ⟨hb, rfl⟩
    have key : ∀ (j i : Nat) (ys : List Value), i + j = b.size → StrsAre ys ((b.toList.take i).map fun c => g c.toNat) → LCg.CompRest prog w A h₀ L m env elt x scope cl { s with heap := hb } (fun _ => True) (fun i v => ∃ c u, b[i]? = some c ∧ v = .int (c.toNat : Int) u) (LCg.FinE h₀ L m { s with heap := hb } Q) j i ys news := by
      intro j
      induction j with
      | zero =>
        intro i ys hi hy
        have e : b.toList.take i = b.toList := List.take_of_length_le (by rw [Array.length_toList]; omega)
        rw [e] at hy
        exact LCg.CompRest.zero fun D h tk F' N' _ => fin D h tk ys hy F' N'
      | succ j ih =>
        intro i ys hi hy
        refine LCg.CompRest.succ ?_
        rintro v I oI C oC D m₂ h tk E' ⟨c, u, hc, rfl⟩ hC hx F' N' off ne
        refine turn c u C m₂ _ _ E' hx (hC.ns (N' _ (.tail _ (.head _))).1) fun t k => ?_
        refine ⟨h, k, news, rfl, F', N', off, trivial, ?_⟩
        refine ih (i + 1) _ (by omega) ?_
        have e : b.toList[i]? = some c := by rw [Array.getElem?_toList]; exact hc
        rw [List.take_add_one, e]
        simpa using strs_snoc hy
    exact key b.size 0 [] (by omega) (by simpa using StrsAre.nil)
  refine LCg.block_U (KBw.walks hh s.heap.objs.size b tb) hsz (fun i h st => by obtain ⟨o, e, _⟩ := st; exact ⟨o, e⟩) (fun i h h' o nw st e e' _ _ _ => by obtain ⟨o', q, r⟩ := st; rw [e] at q; cases q; exact ⟨o, e', r⟩) hcell hkind hx ⟨_, Heap.get?_push_size _ rfl, rfl, rfl⟩ (fun b' hb' => ?_)
    (F.keeps fun _ _ e => Heap.get?_push_of_some _ e) (N.grown fun _ _ e => Heap.get?_push_of_some _ e) (Nat.ne_of_lt F.ns.lt) (next_is_new F) (fun p hp => Nat.ne_of_lt (Heap.lt_size (N p hp).1)) trivial (rest _ ⟨_, rfl⟩) ?_
  · rw [List.mem_singleton.mp hb']
    show s.heap.objs.size < (s.heap.push _).objs.size
    rw [Heap.size_push]; exact Nat.lt_succ_self _
  · intro D C h tk m' ys news' F' N' o1 hn hC₀ hD₀ hCL hDL hCD offC fin'
    refine ⟨m', hn, fun h'' hs'' => fin' D h'' tk (F'.change hs'' hCL hC₀) (fun p hp => ?_) o1⟩
    refine ⟨hs''.extBut _ _ ?_ (N' p hp).1, (N' p hp).2⟩
    rcases List.mem_cons.mp hp with rfl | hp
    · exact Ne.symm hCD
    · exact offC p hp
end
end
section
open PySem PySem.W PyProof.Rows
set_option maxRecDepth 100000
set_option maxHeartbeats 800000
local macro_rules | `(tactic| walk_at "idle 0") => `(tactic| skip)
local macro_rules | `(tactic| walk_at "idle 1") => `(tactic| skip)
local macro_rules | `(tactic| walk_at "idle 2") => `(tactic| skip)
def hexL (l : List UInt8) : List Nat := l.flatMap fun c => hex2 c.toNat
def hexS (b : Array UInt8) : Str := ⟨(hexL b.toList).toArray⟩
def hexG (n : Nat) : Str := ⟨(hex2 n).toArray⟩
theorem hexL_length (l : List UInt8) : (hexL l).length = 2 * l.length := by
  unfold hexL
  induction l with
  | nil => rfl
  | cons c r ih =>
    rw [List.flatMap_cons, List.length_append, hex2_len c.toNat_lt, ih, List.length_cons]
    omega
theorem glue_nil (l : List Str) : ∀ acc : Array Nat, (l.foldl (fun (acc : Array Nat) (p : Str) => acc ++ (Str.ofString "").cps ++ p.cps) acc) = acc ++ (l.flatMap fun x => x.cps.toList).toArray := by
  induction l with
  | nil => intro acc; simp
  | cons x r ih =>
    intro acc
    rw [List.foldl_cons, ih, List.flatMap_cons]
    have e : (Str.ofString "").cps = #[] := by decide +kernel
    rw [e, Array.append_empty, Array.append_assoc]
    congr 1
    rw [← List.append_toArray, Array.toArray_toList]
theorem join_nil (l : List Str) : Txt.join (Str.ofString "") l = ⟨(l.flatMap fun x => x.cps.toList).toArray⟩ := by
  show Builtin.Str.glued _ _ = _
  unfold Builtin.Str.glued
  refine congrArg Str.mk ?_
  cases l with
  | nil => rfl
  | cons x r =>
    show (r.foldl _ x.cps) = _
    rw [glue_nil, List.flatMap_cons, ← List.append_toArray, Array.toArray_toList]
theorem join_hex (b : Array UInt8) : Txt.join (Str.ofString "") (b.toList.map fun c => hexG c.toNat) = hexS b := by
  rw [join_nil]
  unfold hexS hexL hexG
  rw [List.flatMap_map]
theorem modHex {prog : Program} {w : World} {A : Around} {E : Value → Shared → Prop} {s : Shared} {c : Nat} {t u : Tok} {Q : Value → Shared → Prop} (hc : c < 256) (h : ∀ t' k, Q (.str (hexG c) t') { s with toks := k }) :
    wpAny (model prog w) A (binaryOp .Mod (.str (Str.ofString "%02x") t) (.int (c : Int) u)) Q E s := by
  refine KPc.mod_lit (T := hexG c) (X' := Str.mk #[37, 48, 50, 120]) (by decide +kernel) ?_ (fun _ _ => ?_) h
  · by_cases h0 : c = 0
    · subst h0; decide
    · rw [Int.natAbs_natCast]
      exact (Nat.log2_lt h0).mpr (Nat.lt_of_lt_of_le hc (show 2 ^ 8 ≤ 2 ^ 1920 from Nat.pow_le_pow_right (by decide) (by decide)))
  · have := meets_hex (t := t) (u := u) (c : Int) (by omega) (by omega)
    rwa [Int.toNat_natCast] at this
theorem weightHex (b : Array UInt8) : ((b.toList.map fun c => hexG c.toNat).map (·.length)).sum = 2 * b.size := by
  rw [← Array.length_toList]
  induction b.toList with
  | nil => rfl
  | cons c r ih =>
    rw [List.map_cons, List.map_cons, List.sum_cons, ih, List.length_cons]
    have e : (hexG c.toNat).length = 2 := by
      show (hex2 c.toNat).toArray.size = 2
      rw [List.size_toArray, hex2_len c.toNat_lt]
    rw [e]
    omega
theorem joinHex {prog : Program} {w : World} {A : Around} {E : Value → Shared → Prop} {s : Shared} {h₀ : Heap} {L D : Addr} {news : List (Addr × Obj)} {vs : List Value} {b : Array UInt8} {t : Tok} {Q : Value → Shared → Prop} (N : News h₀ L s.heap news) (hm : (D, LCg.lst vs) ∈ news) (hS : StrsAre vs (b.toList.map fun c => hexG c.toNat)) (hz : b.size ≤ 64)
    (h : ∀ t' k, Q (.str (hexS b) t') { s with toks := k }) : wpAny (model prog w) A (call (.builtin "str.join") [.str (Str.ofString "") t, .ref D]) Q E s := by
  refine join_listW (items := vs.toArray) (ys := b.toList.map fun c => hexG c.toNat) ⟨_, (N _ hm).1, rfl, _, rfl⟩ (by simpa using hS) (by decide +kernel) (by rw [weightHex, List.length_map, Array.length_toList]; omega) fun t' k => ?_
  rw [join_hex]
  exact h t' k
theorem addS {prog : Program} {w : World} {A : Around} {E : Value → Shared → Prop} {s : Shared} {x y : Str} {t u : Tok} {Q : Value → Shared → Prop} (hx : x.length ≤ 1000) (hy : y.length ≤ 1000) (h : ∀ t' k, Q (.str (x ++ y) t') { s with toks := k }) :
    wpAny (model prog w) A (binaryOp .Add (.str x t) (.str y u)) Q E s := PyProof.Rows.add_str h (by rw [sizeLine_eq]; omega)
theorem ox_len : (Str.ofString "0x").length ≤ 1000 := by decide +kernel
theorem hexS_length (b : Array UInt8) : (hexS b).length = 2 * b.size := by
  show (hexL b.toList).toArray.size = _
  rw [List.size_toArray, hexL_length, Array.length_toList]
theorem hexS_short {b : Array UInt8} (h : b.size ≤ 64) : (hexS b).length ≤ 1000 := by rw [hexS_length]; omega
variable {w : World} {p : Program} {loose : List Str} {mean : ExcName → Option Value} {mg mb : Str → Option Value}
local macro_rules | `(tactic| walk_at "eval ListComp") => `(tactic| (k_here; (with_reducible rename Fr _ _ _ _ => F'); (with_reducible rename News _ _ _ _ => N'); k_dflt ((refine' listComp_bytes hexG ?hh F' N' ?hz ?hit ?hc ?hce ?hki ?hna ?hx ?turn ?fin ?hfs); (case hh => rfl); (case hit => (intro Q' hQ'; exact ld F' rfl hQ')); (case hz => (rw [sizeLine_eq]; omega)); (case hc => with_unfolding_all rfl); (case hce => decide); (case hki => rfl); (case hna => decide); (case hx => rfl); (case hfs => (intro _; rfl)); (case turn => (intro c u C m₂ s' Q' E' hx hC hQ'; exact wpAny_BinOp (wpAny_Constant_str (wpAny_Name (wpAny_loadName_local rfl rfl hC hx (modHex c.toNat_lt hQ'))))))); intro D' h' tk' ys' hS' F' N'))
local macro_rules | `(tactic| walk_at "call builtin:str.join") => `(tactic| (k_here; (with_reducible rename StrsAre _ _ => hS'); k_dflt (refine joinHex (by k_asm) (by k_mem) hS' (by omega) ?_); intro _ _))
local macro_rules | `(tactic| walk_at "binaryOp Add str str") => `(tactic| (k_here; (with_reducible show wpAny _ _ (binaryOp Operator.Add (Value.str _ _) (Value.str _ _)) _ _ _); k_dflt (refine addS ox_len (hexS_short (by omega)) ?_); intro _ _))
theorem hex_ok {news : List (Addr × Obj)} {b : Array UInt8} {t0 : Tok} {n : Nat} (hs : b.size = n) (hn : n ≤ 64) :
    Tell w p loose mean mg mb 54 1 20 news [.bytes b t0]
      (fun r news' => ∃ t, r = .str (Str.ofString "0x" ++ hexS b) t ∧ news' = news) := by
  unfold Tell
  intro dp un gd cn cs a' ccd cl outer A₀ base h₀ L m s Q E B F X N T hk hdp hun hret
  refine fillT _ ?_
  k_fill
  intro _
  refine wpAny_call ?_
  k_dflt cell_enter
  k_steps
  all_goals
    (rename Fr _ _ _ _ => kF); (rename News _ _ _ _ => kN)
    exact hret _ _ _ _ ⟨_, rfl, rfl⟩ kF (cb_drop kN (fun _ h => .tail _ h))
end
section
open PySem PySem.W PyProof.Rows
set_option maxRecDepth 100000
set_option maxHeartbeats 800000
open LCg
section
variable {prog : Program} {w : World} {A : Around} {E : Value → Shared → Prop} {s : Shared} {h₀ : Heap} {L : Addr} {m : Str → Option Value} {env : Env}
/-- the comprehension's block over pairs of a place and a sign -/
theorem block_E {elt iter : Expr} {x x₂ : Str} {px px₂ tp : Pos} {k1 : Nat} {scope : Scope} {cl : List (Str × Addr)} {pos : Pos} {s₂ : Shared} {e it : Addr} {fp : List Addr} {txt : Str} {Pt : Nat → Array Value → Prop} {St : Nat → Heap → Prop} {Mid : Nat → Addr → Heap → Prop} {news : List (Addr × Obj)}
    {RR : Value → Addr → Result → Shared → Prop} (g : Nat → Nat → Str)
    (W : WalksT prog w A e fp [e, it] txt.cps.size Pt St Mid) (hsz : txt.cps.size ≤ sizeLine)
    (hPt : ∀ i vals, Pt i vals → ∃ u c u', vals = #[.int (i : Int) u, .str ⟨#[c]⟩ u'] ∧ txt.cps[i]? = some c)
    (hcell : ∀ y ∈ scope.names, y.2 ≠ .cell) (hkind : scope.kind = .function) (hx : scope.names.lookup x = some .local) (hx₂ : scope.names.lookup x₂ = some .local) (hxx : x ≠ x₂) (hh : A.handled = none)
    (hst : St 0 s₂.heap) (hfp : ∀ b ∈ fp, b < s₂.heap.objs.size) (F : Fr h₀ L s₂.heap m) (N : News h₀ L s₂.heap news) (hL : L ∉ [e, it]) (h00 : ∀ b ∈ [e, it], h₀.get? b = none) (off : ∀ q ∈ news, q.1 ∉ [e, it])
    (turn : ∀ (i c : Nat) (u u' : Tok) (C : Addr) (m₂ : Str → Option Value) (s' : Shared) (Q' E' : Value → Shared → Prop), txt.cps[i]? = some c → m₂ x = some (.int (i : Int) u) → m₂ x₂ = some (.str ⟨#[c]⟩ u') → s'.heap.Ns C m₂ → News h₀ L s'.heap news → Fr h₀ L s'.heap m →
      (∀ t k, Q' (.str (g i c) t) { s' with toks := k }) → wpAny (model prog w) A (eval elt (compEnvC scope cl C env)) Q' E' s')
    (hRR : ∀ D C h tk m' ys, Fr h₀ L h m → News h₀ L h ((D, lst ys) :: news) → h.Ns C m' → h₀.get? C = none → C ≠ L → D ≠ C → (∀ q ∈ news, q.1 ≠ C) → StrsAre ys (txt.cps.toList.zipIdx.map fun q => g q.2 q.1) → RR (.ref D) C (.ok .next) { s₂ with heap := h, toks := tk }) :
    wpAny (model prog w) A (newList []) (fun acc s₃ => wpAny (model prog w) A (newFunctionEnv scope env.globals cl [] env.qual none .none (some env)) (fun cenv s₄ =>
      codeAny (model prog w) A (.compStart (.ListComp elt [⟨.Tuple [.Name x px, .Name x₂ px₂] k1 tp, iter, [], 0⟩] scope pos) 0 (.ref e) acc { cenv with scope := relabel scope env }) (RR acc cenv.locals) s₄) E s₃) E s₂ := by
  refine wpAny_newObj_type (wpAny_newFunctionEnv hcell (by intro y hy; simp at hy) (fun h₁ hns₁ hsb₁ => ?_) hkind)
  dsimp only at hns₁ hsb₁ ⊢
  generalize hH2 : s₂.heap.push { cls := .type "list", dict := none, data := .seq ([] : List Value).toArray } = H2 at hns₁ hsb₁ ⊢
  have hC : H2.objs.size = s₂.heap.objs.size + 1 := by rw [← hH2, Heap.size_push]
  have hDC : s₂.heap.objs.size ≠ H2.objs.size := by rw [hC]; exact Nat.ne_of_lt (Nat.lt_succ_self _)
  have below : ∀ b, b < s₂.heap.objs.size → b ≠ H2.objs.size ∧ b ≠ s₂.heap.objs.size := fun b hb => ⟨by rw [hC]; exact Nat.ne_of_lt (Nat.lt_succ_of_lt hb), Nat.ne_of_lt hb⟩
  have hDf : s₂.heap.objs.size ∉ fp := fun hm => Nat.lt_irrefl _ (hfp _ hm)
  have hCf : H2.objs.size ∉ fp := fun hm => by have := hfp _ hm; rw [hC] at this; exact Nat.lt_irrefl _ (Nat.lt_of_succ_lt this)
  have wlt : ∀ b ∈ [e, it], b < s₂.heap.objs.size := fun b hb => hfp b (W.sub b hb)
  have old : ∀ b o, s₂.heap.get? b = some o → h₁.get? b = some o := fun b o e => hsb₁.extBut b o (below b (Heap.lt_size e)).1 (Heap.get?_push_of_some _ (hH2 ▸ Heap.get?_push_of_some _ e))
  have hacc : h₁.get? s₂.heap.objs.size = some (lst []) := hsb₁.extBut _ _ hDC (Heap.get?_push_of_some _ (hH2 ▸ Heap.get?_push_size _ rfl))
  have hst₁ : St 0 h₁ := W.frame _ _ _ hst fun b _ o e => old b o e
  have fresh₀ : ∀ a, s₂.heap.objs.size ≤ a → h₀.get? a = none := fun a ha => by
    cases e : h₀.get? a with
    | none => rfl
    | some o' => exact absurd (Heap.lt_size (F.keep a o' e)) (Nat.not_lt.mpr ha)
  have hD₀ : h₀.get? s₂.heap.objs.size = none := fresh₀ _ (Nat.le_refl _)
  have hC₀ : h₀.get? H2.objs.size = none := fresh₀ _ (by rw [hC]; exact Nat.le_succ _)
  have hLlt : L < s₂.heap.objs.size := F.ns.lt
  have hDL : s₂.heap.objs.size ≠ L := Ne.symm (below L hLlt).2
  have hCL : H2.objs.size ≠ L := Ne.symm (below L hLlt).1
  have hCw : H2.objs.size ∉ [e, it] := fun hm => (below _ (wlt _ hm)).1 rfl
  have hDw : s₂.heap.objs.size ∉ [e, it] := fun hm => (below _ (wlt _ hm)).2 rfl
  have offC : ∀ q ∈ news, q.1 ≠ H2.objs.size := fun q hq => (below _ (Heap.lt_size (N q hq).1)).1
  have offD : ∀ q ∈ news, q.1 ≠ s₂.heap.objs.size := fun q hq => (below _ (Heap.lt_size (N q hq).1)).2
  have frB : ∀ {h h' : Heap}, Fr h₀ L h m → (∀ b o, b ∉ [e, it] → h.get? b = some o → h'.get? b = some o) → Fr h₀ L h' m := fun F' hk => ⟨F'.ns.at' fun o q => hk L o hL q, fun b o q => hk b o (fun hm => by rw [h00 b hm] at q; cases q) (F'.keep b o q), F'.above⟩
  have loop : ∀ s₃ : Shared, s₃ = { s₂ with heap := h₁, toks := s₂.toks + ([] : List (Str × Value)).length } →
      codeAny (model prog w) A (.compLoop (.ListComp elt [⟨.Tuple [.Name x px, .Name x₂ px₂] k1 tp, iter, [], 0⟩] scope pos) 0 (.ref e) (.ref s₂.heap.objs.size) (compEnvC scope cl H2.objs.size env))
        (RR (.ref s₂.heap.objs.size) H2.objs.size) s₃ := by
    rintro s₃ rfl
    refine LCp.codeAny_compLoop_pair
      (fun k s' => ∃ h' tk i ys m', s' = { s₂ with heap := h', toks := tk } ∧ i ≤ txt.cps.size ∧ k = txt.cps.size + 1 - i ∧ ys.length = i ∧ StrsAre ys ((txt.cps.toList.zipIdx.take i).map fun q => g q.2 q.1) ∧ St i h' ∧ Fr h₀ L h' m ∧ h'.Ns H2.objs.size m' ∧ News h₀ L h' ((s₂.heap.objs.size, lst ys) :: news)) ?_ (txt.cps.size + 1)
      ⟨h₁, _, 0, [], _, rfl, Nat.zero_le _, rfl, rfl, by simpa using StrsAre.nil, hst₁, F.keeps old, hns₁, fun q hq => ?_⟩
    · rintro k s' ⟨h', tk, i, ys, m', rfl, hi, rfl, hyl, hys, hst', F', hn', N'⟩
      by_cases hlt : i < txt.cps.size
      · refine W.item i _ _ _ hlt hst' fun T vals h₂ tk₂ hPv hTs hT₂ hMid hk₂ => ?_
        obtain ⟨u, c, u', rfl, hc⟩ := hPt _ _ hPv
        have F₂ : Fr h₀ L h₂ m := frB F' hk₂
        refine W.go _ _ _ i T _ _ _ hMid fun h₃ hst₃ hk₃ => ?_
        have hTn : T ∉ [e, it] := W.apart _ _ _ hMid
        have hT₃ : IsTup h₃ T #[.int (i : Int) u, .str ⟨#[c]⟩ u'] := by obtain ⟨o, q, r⟩ := hT₂; exact ⟨o, hk₃ _ _ hTn q, r⟩
        have F₃ : Fr h₀ L h₃ m := frB F₂ hk₃
        refine assign_Tuple_tuple hh hT₃ rfl rfl fun h₄ he => ?_
        have he' : ∀ b o, h₃.get? b = some o → h₄.get? b = some o := fun b o e => he b o (Nat.ne_of_lt (Heap.lt_size e)) e
        have hn₄ : h₄.Ns H2.objs.size m' := ((hn'.at' fun o q => hk₂ _ o hCw q).at' fun o q => hk₃ _ o hCw q).at' fun o q => he' _ o q
        refine assignInOrder_cons (wpAny_assign_Name (wpAny_storeName_local (lookup_relabel_local hx) hn₄ (fun h₅ hn₅ hs₅ => ?_) (by simp [compEnvC, relabel, hkind])))
        refine assignInOrder_cons (wpAny_assign_Name (wpAny_storeName_local (lookup_relabel_local hx₂) hn₅ (fun h₆ hn₆ hs₆ => ?_) (by simp [compEnvC, relabel, hkind])))
        refine assignInOrder_nil ?_
        have old6 : ∀ b o, b ≠ H2.objs.size → h₃.get? b = some o → h₆.get? b = some o := fun b o hb q => hs₆.extBut b o hb (hs₅.extBut b o hb (he' b o q))
        have hst₆ : St (i + 1) h₆ := W.frame _ _ _ hst₃ fun b hb o q => old6 b o (fun q' => hCf (by rw [← q']; exact hb)) q
        have F₆ : Fr h₀ L h₆ m := (((F₃).keeps he').change hs₅ hCL hC₀).change hs₆ hCL hC₀
        have all6 : ∀ b o, b ∉ [e, it] → b ≠ H2.objs.size → h'.get? b = some o → h₆.get? b = some o := fun b o hb hb' q => old6 b o hb' (hk₃ b o hb (hk₂ b o hb q))
        have N₆ : News h₀ L h₆ ((s₂.heap.objs.size, lst ys) :: news) := fun q hq => by
          refine ⟨all6 _ _ ?_ ?_ (N' q hq).1, (N' q hq).2⟩
          · rcases List.mem_cons.mp hq with rfl | hq
            · exact hDw
            · exact off q hq
          · rcases List.mem_cons.mp hq with rfl | hq
            · exact hDC
            · exact offC q hq
        refine turn i c u u' H2.objs.size _ _ _ _ hc (by simp [hxx]) (by simp) hn₆ (fun q hq => N₆ q (.tail _ hq)) F₆ fun t k => ?_
        have zD := (N₆ (s₂.heap.objs.size, lst ys) (.head _)).1
        refine append_at (hsz := by show ys.toArray.size ≤ sizeLine; rw [List.size_toArray, hyl]; exact Nat.le_trans hi hsz) zD fun h₇ hs₇ hD₇ => ?_
        refine ⟨txt.cps.size + 1 - (i + 1), by omega, h₇, k, i + 1, ys ++ [.str (g i c) t], _, rfl, hlt, rfl, by rw [List.length_append, List.length_singleton, hyl], ?_, W.frame _ _ _ hst₆ fun b hb o q => hs₇.extBut b o (fun q' => hDf (q' ▸ hb)) q, F₆.change hs₇ hDL hD₀,
          hn₆.sameBut hs₇ (Ne.symm hDC), fun q hq => ?_⟩
        · have ez : txt.cps.toList.zipIdx[i]? = some (c, i) := by
            rw [List.getElem?_zipIdx, Array.getElem?_toList, hc]
            simp
          rw [List.take_add_one, ez]
          simpa using kct_snoc (t := t) hys
        · rcases List.mem_cons.mp hq with rfl | hq
          · exact ⟨hD₇.trans (congrArg some (lst_snoc ys _)), hDL, hD₀⟩
          · exact ⟨hs₇.extBut _ _ (offD q hq) (N₆ q (.tail _ hq)).1, (N₆ q (.tail _ hq)).2⟩
      · obtain rfl : i = txt.cps.size := Nat.le_antisymm hi (Nat.not_lt.mp hlt)
        refine W.done _ _ _ hst' fun h₂ tk₂ hk₂ => ?_
        refine hRR _ _ h₂ tk₂ _ ys (frB F' hk₂) (fun q hq => ⟨hk₂ _ _ ?_ (N' q hq).1, (N' q hq).2⟩) (hn'.at' fun o q => hk₂ _ o hCw q) hC₀ hCL hDC offC ?_
        · rcases List.mem_cons.mp hq with rfl | hq
          · exact hDw
          · exact off q hq
        · rwa [List.take_of_length_le (by rw [List.length_zipIdx, Array.length_toList]; exact Nat.le_refl _)] at hys
    · rcases List.mem_cons.mp hq with rfl | hq
      · exact ⟨hacc, hDL, hD₀⟩
      · exact ⟨old _ _ (N q hq).1, (N q hq).2⟩
  exact codeAny_compStart_list (loop _ rfl) (W.self 0 _ _ _ hst₁ (loop _ rfl))
/-- what stands behind «enumerate(txt)» -/
def EnumSrc (h₀ : Heap) (L : Addr) (m : Str → Option Value) (news : List (Addr × Obj)) (txt : Str) (s : Shared) (xv : Value) (s₁ : Shared) : Prop :=
  ∃ h e it t, xv = .ref e ∧ s₁ = { s with heap := h, toks := s₁.toks } ∧ IsEnum h e it 0 .none ∧ h.IsStrIter it (strIterType txt) txt t 0 ∧ e ≠ it ∧ Fr h₀ L h m ∧ News h₀ L h news ∧ L ∉ [e, it] ∧ (∀ b ∈ [e, it], h₀.get? b = none) ∧ ∀ q ∈ news, q.1 ∉ [e, it]
theorem enum_src {txt : Str} {t : Tok} {news : List (Addr × Obj)} (F : Fr h₀ L s.heap m) (N : News h₀ L s.heap news) : wpAny (model prog w) A (call (.type "enumerate") [.str txt t]) (EnumSrc h₀ L m news txt s) E s := by
  have hLs : L < s.heap.objs.size := F.ns.lt
  have hab : h₀.objs.size ≤ L := F.above
  have fresh₀ : ∀ a, s.heap.objs.size ≤ a → h₀.get? a = none := fun a ha => Heap.get?_none_of_le (Nat.le_trans hab (Nat.le_trans (Nat.le_of_lt hLs) ha))
  refine call_enumerate_str fun h' he hit hsz hk => ?_
  refine ⟨h', _, _, t, rfl, rfl, he, hit, Nat.succ_ne_self _, ⟨F.ns.keeps hk, fun b o e => hk b o (F.keep b o e), F.above⟩, fun q hq => ⟨hk _ _ (N q hq).1, (N q hq).2⟩, ?_, ?_, ?_⟩
  · intro hm
    rcases List.mem_cons.mp hm with e | hm
    · exact Nat.ne_of_lt (Nat.lt_succ_of_lt hLs) e
    · exact Nat.ne_of_lt hLs (List.mem_singleton.mp hm)
  · intro b hb
    rcases List.mem_cons.mp hb with rfl | hb
    · exact fresh₀ _ (Nat.le_succ _)
    · rw [List.mem_singleton.mp hb]; exact fresh₀ _ (Nat.le_refl _)
  · intro q hq hm
    have hq1 : q.1 < s.heap.objs.size := Heap.lt_size (N q hq).1
    rcases List.mem_cons.mp hm with e | hm
    · exact Nat.ne_of_lt (Nat.lt_succ_of_lt hq1) e
    · exact Nat.ne_of_lt hq1 (List.mem_singleton.mp hm)
theorem listComp_enum {elt iter : Expr} {x x₂ : Str} {px px₂ tp : Pos} {k1 : Nat} {scope : Scope} {cl : List (Str × Addr)} {pos : Pos} {txt : Str} {news : List (Addr × Obj)} {Q : Value → Shared → Prop} (g : Nat → Nat → Str)
    (hh : A.handled = none) (_F : Fr h₀ L s.heap m) (_N : News h₀ L s.heap news) (hsz : txt.cps.size ≤ sizeLine)
    (hclos : closureFor scope env = pure cl) (hcell : ∀ y ∈ scope.names, y.2 ≠ .cell) (hkind : scope.kind = .function)
    (hnames : ∀ y ∈ scope.names, y.2 = .local → scope.names.lookup y.1 = some .local) (hx : scope.names.lookup x = some .local) (hx₂ : scope.names.lookup x₂ = some .local) (hxx : x ≠ x₂)
    (h : wpAny (model prog w) A (eval iter env) (EnumSrc h₀ L m news txt s) E s)
    (turn : ∀ (i c : Nat) (u u' : Tok) (C : Addr) (m₂ : Str → Option Value) (s' : Shared) (Q' E' : Value → Shared → Prop), txt.cps[i]? = some c → m₂ x = some (.int (i : Int) u) → m₂ x₂ = some (.str ⟨#[c]⟩ u') → s'.heap.Ns C m₂ → News h₀ L s'.heap news → Fr h₀ L s'.heap m →
      (∀ t k, Q' (.str (g i c) t) { s' with toks := k }) → wpAny (model prog w) A (eval elt (compEnvC scope cl C env)) Q' E' s')
    (fin : ∀ D h tk ys, StrsAre ys (txt.cps.toList.zipIdx.map fun q => g q.2 q.1) → Fr h₀ L h m → News h₀ L h ((D, lst ys) :: news) → Q (.ref D) { s with heap := h, toks := tk })
    (hs : ∀ x, foldedSetIterable iter env x = pure x := by intro _; rfl) :
    wpAny (model prog w) A (eval (.ListComp elt [⟨.Tuple [.Name x px, .Name x₂ px₂] k1 tp, iter, [], 0⟩] scope pos) env) Q E s := by
  rw [eval_ListComp]
  refine wpAny_comprehension_free (use := none) rfl hs hclos hkind hnames (wpAny_mono h (fun xv s₁ h₁ => ?_) fun _ _ e => e)
  obtain ⟨hp, e, it, t, rfl, es, he, hit, hei, F, N, hL, h00, off⟩ := h₁
  have D : ∃ St, Draws prog w A.in1 it [it] txt.cps.size (fun i v => ∃ c u, txt.cps[i]? = some c ∧ v = .str ⟨#[c]⟩ u) St ∧ St 0 s₁.heap := by
    rw [es]
    cases ha : txt.cps.all (· < 128)
    · exact ⟨_, Draws.strWide (A := A.in1) hh it txt t, by simpa [strIterType, ha] using hit⟩
    · exact ⟨_, Draws.strAscii (A := A.in1) hh it txt t, by simpa [strIterType, ha] using hit⟩
  obtain ⟨St, D, hst⟩ := D
  have eh : s₁.heap = hp := by rw [es]
  rw [← eh] at he hit F N
  have WT := WalksT.enumerateD D e hei (fun hm => hei (List.mem_singleton.mp hm)) (.head _)
  refine WT.self 0 _ _ _ ⟨⟨_, he⟩, hst⟩ ?_
  refine block_E g WT hsz ?_ hcell hkind hx hx₂ hxx hh ⟨⟨_, he⟩, hst⟩ ?_ F N hL h00 off turn ?_
  · rintro i vals ⟨u, v, ⟨c, u', hc, rfl⟩, rfl⟩
    exact ⟨u, c, u', rfl, hc⟩
  · intro b hb
    rcases List.mem_cons.mp hb with rfl | hb
    · exact Heap.lt_size he
    · rw [List.mem_singleton.mp hb]
      obtain ⟨o, ho⟩ := D.live _ _ hst
      exact Heap.lt_size ho
  · intro D C h tk m' ys F' N' hn hC₀ hCL hDC offC hys
    refine ⟨m', hn, fun h'' hs'' => ?_⟩
    have q := fin D h'' tk ys hys (F'.change hs'' hCL hC₀) (fun p hp => by
      refine ⟨hs''.extBut _ _ ?_ (N' p hp).1, (N' p hp).2⟩
      rcases List.mem_cons.mp hp with rfl | hp
      · exact hDC
      · exact offC p hp)
    rw [es]
    exact q
end
end
section
open PySem PySem.W PyProof.Rows
set_option maxRecDepth 100000
set_option maxHeartbeats 800000
local macro_rules | `(tactic| walk_at "idle 0") => `(tactic| skip)
section
variable {prog : Program} {w : World} {M : Model} {A : Around} {E : Value → Shared → Prop} {s : Shared} {x : Str} {t u : Tok}
def encB (x : Str) : Array UInt8 := (x.cps.toList.map fun c => c.toUInt8).toArray
theorem encB_size (x : Str) : (encB x).size = x.length := by
  unfold encB
  rw [List.size_toArray, List.length_map, Array.length_toList]
  rfl
theorem foldB (l : List Nat) : ∀ acc : Array UInt8, l.foldl (fun acc y => acc ++ ([y.toUInt8] : List UInt8).toArray) acc = acc ++ (l.map fun c => c.toUInt8).toArray := by
  induction l with
  | nil => intro acc; simp
  | cons c r ih =>
    intro acc
    rw [List.foldl_cons, ih, List.map_cons]
    simp [Array.append_assoc]
theorem encodeN {self : Value} {Q : Array UInt8 → Shared → Prop} (h0 : x.cps.all (· < 128) = true) (h1 : 2 ≤ x.length) (h2 : x.length ≤ 1000) (h : Q (encB x) s) : wpAny M A (Builtin._codecs.encodeNarrow "str.encode" Builtin._codecs.asciiCodec none self x) Q E s := by
  obtain ⟨n, hn⟩ : ∃ n, x.length = n + 2 := ⟨x.length - 2, by omega⟩
  unfold Builtin._codecs.encodeNarrow
  refine wpAny_bind ?_
  rw [KPc.range_list, hn]
  refine KPc.turn ?_
  have hsz : x.cps.size = n + 2 := hn
  obtain ⟨c, hc⟩ : ∃ c, x.cps[0]? = some c := ⟨_, Array.getElem?_eq_getElem (by omega)⟩
  have hall : ∀ y ∈ x.cps, y < 128 := fun y hy => by
    have := Array.all_eq_true_iff_forall_mem.mp h0 y hy
    exact of_decide_eq_true this
  have hbad : ∀ y ∈ x.cps, Builtin._codecs.asciiCodec.bad y = false := fun y hy => decide_eq_false (by have := hall y hy; omega)
  have hfi : Array.findIdx? Builtin._codecs.asciiCodec.bad x.cps = none := by
    rw [Array.findIdx?_eq_none_iff]
    exact hbad
  have hc1 : (!Builtin._codecs.asciiCodec.bad c) = true := by rw [hbad c (Array.mem_of_getElem? hc)]; rfl
  have hex : x.cps.extract 0 = x.cps := Array.extract_size
  have hex2 : x.cps.extract 0 x.cps.size = x.cps := Array.extract_size
  dsimp only
  refine wpAny_ite (KPc.ite_no (by decide) ?_)
  rw [hc]
  dsimp only
  refine wpAny_ite (KPc.ite_yes hc1 ?_)
  rw [hex2, hfi]
  dsimp only [Option.getD]
  rw [hex2]
  refine wpAny_pure ?_
  dsimp only
  refine KPc.turn ?_
  dsimp only
  have eF : Array.foldl (fun acc y => acc ++ (Builtin._codecs.asciiCodec.bytesOf y).toArray) #[] x.cps = encB x := by
    rw [← Array.foldl_toList]
    refine (foldB x.cps.toList #[]).trans ?_
    rw [Array.empty_append]
    rfl
  rw [eF]
  refine wpAny_ite (KPc.ite_no (by rw [encB_size, sizeLine_eq]; omega) ?_)
  have hend : x.cps[0 + x.cps.size]? = none := Array.getElem?_eq_none (by omega)
  rw [hend]
  dsimp only
  exact wpAny_pure (wpAny_pure h)
theorem road_ascii (v : Value) (y : Str) : Builtin._codecs.encodeRoad "str.encode" v y (Str.ofString "ascii") none = (do mkBytes (← Builtin._codecs.encodeNarrow "str.encode" Builtin._codecs.asciiCodec none v y)) := by
  first | rfl | kernel_rfl
theorem strict_ok : ((Str.ofString "ascii").cps.any (· ≥ 128)) = false := by decide +kernel
theorem callEncode {Q : Value → Shared → Prop} (h0 : x.cps.all (· < 128) = true) (h1 : 2 ≤ x.length) (h2 : x.length ≤ 1000) (h : ∀ t' k, (encB x).size = x.length → Q (.bytes (encB x) t') { s with toks := k }) :
    wpAny (model prog w) A (call (.builtin "str.encode") [.str x t, .str (Str.ofString "ascii") u]) Q E s := by
  refine wpAny_call_entry F.slot_str_encode (typeIs_str s x t) F.entry_str_encode ?_ (F.args_str_encode_2 _ _)
  unfold Builtin.«str.encode»
  refine wpAny_bind (wpAny_of_eq (a := (.str x t, x, [.str (Str.ofString "ascii") u])) (by first | rfl | kernel_rfl) ?_)
  refine wpAny_bind (wpAny_of_eq (a := [some (.str (Str.ofString "ascii") u), none]) (by first | rfl | kernel_rfl) ?_)
  refine wpAny_bind (wpAny_of_eq (a := some (Str.ofString "ascii")) (by first | rfl | kernel_rfl) ?_)
  refine wpAny_bind (wpAny_of_eq (a := none) (by first | rfl | kernel_rfl) ?_)
  refine wpAny_bind ?_
  show wpAny _ _ (Builtin._codecs.encodeRoad "str.encode" (.str x t) x (Str.ofString "ascii") none) _ _ _
  rw [road_ascii]
  refine wpAny_bind (encodeN h0 h1 h2 ?_)
  refine wpAny_mkBytes ?_ (by rw [encB_size, sizeLine_eq]; omega)
  exact wpAny_pure ⟨_, rfl, h _ _ (encB_size x)⟩
end
end
section
open PySem PySem.W PyProof.Rows
local macro_rules | `(tactic| walk_at "idle 0") => `(tactic| skip)
local macro_rules | `(tactic| walk_at "idle 1") => `(tactic| skip)
section
variable {w : World} {p : Program} {loose : List Str} {mean : ExcName → Option Value} {mg mb : Str → Option Value}
    {dp un : Nat} {gd : Option (List Code)} {cn : Str} {cs : Scope} {a : Addr} {ccd : Value} {cl : List (Str × Addr)} {outer : List Env} {A₀ : Around} {base h₀ : Heap} {L : Addr} {m : Str → Option Value} {s : Shared} {Q E : Value → Shared → Prop} {news : List (Addr × Obj)}
theorem hex_use {b : Array UInt8} {t0 : Tok} {n : Nat} (B : Below A₀ base outer h₀) (F : Fr h₀ L s.heap m) (X : (hd.heap_39 w.params).In h₀) (N : News h₀ L s.heap news) (T : Top p loose mean mg mb h₀) (hk : cs.kind = .function) (hs : b.size = n) (hn : n ≤ 64) (hd : dp + 1 < recursionLimit) (hu : un + 20 < cLine)
    (ret : ∀ t h' tk', Fr h₀ L h' m → News h₀ L h' news → Q (.str (Str.ofString "0x" ++ hexS b) t) { s with heap := h', toks := tk' }) :
    wpAny (model PySem.Challenge.pw_vj0010_01 w) (ktrTop dp un gd cn cs L a ccd cl outer) (call (.ref 54) [.bytes b t0]) Q E s := by
  refine Tell.use B F X N T hk (hex_ok hs hn) hd hu ?_
  rintro v news' h' tk' ⟨t, rfl, rfl⟩ F' N'
  exact ret t h' tk' F' N'
theorem kec_use {b : Array UInt8} {t0 : Tok} {n : Nat} (B : Below A₀ base outer h₀) (F : Fr h₀ L s.heap m) (X : (hd.heap_39 w.params).In h₀) (N : News h₀ L s.heap news) (T : Top p loose mean mg mb h₀) (hk : cs.kind = .function) (hs : b.size = n) (hn : n = 64 ∨ n = 40) (hd : dp + 3 < recursionLimit) (hu : un + 40 < cLine)
    (ret : ∀ t h' tk', Fr h₀ L h' m → News h₀ L h' news → (kec b).size = 32 → Q (.bytes (kec b) t) { s with heap := h', toks := tk' }) :
    wpAny (model PySem.Challenge.pw_vj0010_01 w) (ktrTop dp un gd cn cs L a ccd cl outer) (call (.ref 82) [.bytes b t0]) Q E s := by
  rcases hn with rfl | rfl
  · refine Tell.use B F X N T hk (keccak_ok (z := 71) hs (by decide) (by decide) (by decide)) hd hu ?_
    rintro v news' h' tk' ⟨t, rfl, rfl⟩ F' N'
    exact ret t h' tk' F' N' (kec_size b)
  · refine Tell.use B F X N T hk (keccak_ok (z := 95) hs (by decide) (by decide) (by decide)) hd hu ?_
    rintro v news' h' tk' ⟨t, rfl, rfl⟩ F' N'
    exact ret t h' tk' F' N' (kec_size b)
end
end
section
open PySem PySem.W PyProof.Rows
set_option maxRecDepth 100000
set_option maxHeartbeats 800000
local macro_rules | `(tactic| walk_at "idle 0") => `(tactic| skip)
local macro_rules | `(tactic| walk_at "idle 1") => `(tactic| skip)
local macro_rules | `(tactic| walk_at "idle 2") => `(tactic| skip)
local macro_rules | `(tactic| walk_at "idle 3") => `(tactic| skip)
theorem Str.ext_list {x y : Str} (h : x.cps.toList = y.cps.toList) : x = y := by
  cases x; cases y
  congr 1
  exact Array.toList_inj.mp h
theorem cut2 (y : Str) : Txt.slice (Str.ofString "0x" ++ y) (some 2) none = y := by
  have hl : (Str.ofString "0x" ++ y).length = y.length + 2 := by
    show ((Str.ofString "0x").cps ++ y.cps).size = y.cps.size + 2
    rw [Array.size_append]
    have : (Str.ofString "0x").cps.size = 2 := by decide +kernel
    omega
  rw [slice_from_eq (b := (y.length + 2 : Int)) (by decide) (by rw [hl]; omega) (by rw [hl]; omega)]
  apply Str.ext_list
  show (List.take _ (List.drop (2 : Int).toNat ((Str.ofString "0x").cps ++ y.cps).toList)) = _
  rw [Array.toList_append]
  have e : (Str.ofString "0x").cps.toList = [48, 120] := by decide +kernel
  rw [e]
  show List.take _ y.cps.toList = _
  rw [List.take_of_length_le]
  rw [Array.length_toList]
  show y.length ≤ _
  omega
section
variable {prog : Program} {w : World} {A : Around} {E : Value → Shared → Prop} {s : Shared} {value slice : PySem.Expr} {y : Str} {t u : Tok} {h₀ : Heap} {L : Addr} {m : Str → Option Value} {news : List (Addr × Obj)}
theorem slice_ox {n : Nat} {Q : Value → Shared → Prop} (hF : Fr h₀ L s.heap m) (hN : News h₀ L s.heap news) (hy : y.length = n) (hn : n ≤ 1000) (h : ∀ h' t' k, Fr h₀ L h' m → News h₀ L h' news → Q (.str y t') { s with heap := h', toks := k })
    (hs : subscripted slice false (.str (Str.ofString "0x" ++ y) t) (.ref s.heap.objs.size) = operate [.ref s.heap.objs.size, .str (Str.ofString "0x" ++ y) t] (getItem (.str (Str.ofString "0x" ++ y) t) (.ref s.heap.objs.size)) := by with_unfolding_all rfl)
    (ht : ∀ r, letTemporaryGo value (.str (Str.ofString "0x" ++ y) t) r = pure () := by intro _; with_unfolding_all rfl) :
    wpAny (model prog w) A (subscriptTail value slice (.str (Str.ofString "0x" ++ y) t) (.ref s.heap.objs.size)) Q E { s with heap := s.heap.push { cls := .type "slice", data := .fields #[.int 2 u, .none, .none] } } := by
  refine slice_strN_sn hF hN (fun h' t' k F' N' => ?_) hs ht ?_
  · rw [cut2]; exact h h' t' k F' N'
  · have hl : (Str.ofString "0x" ++ y).length = y.length + 2 := by
      show ((Str.ofString "0x").cps ++ y.cps).size = y.cps.size + 2
      rw [Array.size_append]
      have : (Str.ofString "0x").cps.size = 2 := by decide +kernel
      omega
    rw [hl, sizeLine_eq]; omega
end
/-- the hex sign of an octet's half -/
def isHex (c : Nat) : Bool := (48 ≤ c && c ≤ 57) || (97 ≤ c && c ≤ 102)
theorem hex2_all : ((List.range 256).all fun c => (hex2 c).all isHex) = true := by decide +kernel
theorem hexS_hex {b : Array UInt8} : ∀ c ∈ (hexS b).cps.toList, isHex c = true := by
  intro c hc
  have hc : c ∈ hexL b.toList := hc
  unfold hexL at hc
  obtain ⟨o, _, ho⟩ := List.mem_flatMap.mp hc
  exact List.all_eq_true.mp (List.all_eq_true.mp hex2_all o.toNat (List.mem_range.mpr o.toNat_lt)) c ho
theorem isHex_lt {c : Nat} (h : isHex c = true) : c < 128 := by
  unfold isHex at h
  simp only [Bool.or_eq_true, Bool.and_eq_true, decide_eq_true_eq] at h
  omega
theorem hexS_ascii {b : Array UInt8} : (hexS b).cps.all (· < 128) = true := by
  rw [Array.all_eq_true_iff_forall_mem]
  intro c hc
  exact decide_eq_true (isHex_lt (hexS_hex c (by simpa using hc)))
/-- the sign as it is written, under the mark M -/
def hiS : Str := Str.ofString "89abcdef"
def markG (M : Str) (k c : Nat) : Str := if Txt.contains hiS (Txt.item M (k : Int)) then Txt.upper ⟨#[c]⟩ else ⟨#[c]⟩
def marked (M y : Str) : Str := ⟨(y.cps.toList.zipIdx.flatMap fun q => (markG M q.2 q.1).cps.toList).toArray⟩
theorem upper_one {c : Nat} (h : c < 128) : Txt.upper ⟨#[c]⟩ = ⟨#[up1 c]⟩ := by
  rw [upper_ascii (by intro d hd; simp at hd; omega)]
  simp
theorem markG_eq {M : Str} {k c : Nat} (h : c < 128) : markG M k c = ⟨#[if Txt.contains hiS (Txt.item M (k : Int)) then up1 c else c]⟩ := by
  unfold markG
  split
  · rw [upper_one h]
  · rfl
theorem markG_length {M : Str} {k c : Nat} (h : c < 128) : (markG M k c).length = 1 := by rw [markG_eq h]; rfl
theorem join_marked (M y : Str) : Txt.join (Str.ofString "") (y.cps.toList.zipIdx.map fun q => markG M q.2 q.1) = marked M y := by
  rw [join_nil, List.flatMap_map]
  rfl
theorem weight_marked {M : Str} : ∀ (l : List (Nat × Nat)), (∀ q ∈ l, q.1 < 128) → ((l.map fun q => markG M q.2 q.1).map (·.length)).sum = l.length
  | [], _ => rfl
  | q :: r, h => by
    rw [List.map_cons, List.map_cons, List.sum_cons, weight_marked r (fun q hq => h q (.tail _ hq)), markG_length (h q (.head _)), List.length_cons]
    omega
theorem marked_list {M y : Str} (h : ∀ c ∈ y.cps.toList, c < 128) : (marked M y).cps.toList = y.cps.toList.zipIdx.map fun q => if Txt.contains hiS (Txt.item M (q.2 : Int)) then up1 q.1 else q.1 := by
  unfold marked
  have hz : ∀ q ∈ y.cps.toList.zipIdx, q.1 < 128 := fun q hq => h q.1 (List.fst_mem_of_mem_zipIdx hq)
  show List.flatMap _ _ = _
  generalize y.cps.toList.zipIdx = l at hz
  induction l with
  | nil => rfl
  | cons q r ih =>
    rw [List.flatMap_cons, List.map_cons, ih fun q hq => hz q (.tail _ hq), markG_eq (hz q (.head _))]
    rfl
theorem marked_length {M y : Str} (h : ∀ c ∈ y.cps.toList, c < 128) : (marked M y).length = y.length := by
  show (marked M y).cps.size = y.cps.size
  rw [← Array.length_toList, marked_list h, List.length_map, List.length_zipIdx, Array.length_toList]
theorem lo_up {c : Nat} (h : isHex c = true) : lo1 (up1 c) = c ∧ lo1 c = c := by
  unfold isHex at h
  simp only [Bool.or_eq_true, Bool.and_eq_true, decide_eq_true_eq] at h
  unfold lo1 up1
  constructor
  · split <;> split <;> omega
  · split <;> omega
theorem up1_lt {c : Nat} (h : c < 128) : up1 c < 128 := by
  unfold up1
  split <;> omega
theorem lower_marked {M y z : Str} (h : ∀ c ∈ y.cps.toList, isHex c = true) (hz : ∀ c ∈ z.cps.toList, c < 128 ∧ lo1 c = c) : Txt.lower (z ++ marked M y) = z ++ y := by
  have hy : ∀ c ∈ y.cps.toList, c < 128 := fun c hc => isHex_lt (h c hc)
  have ha : (z ++ marked M y).cps.toList = z.cps.toList ++ (marked M y).cps.toList := by
    rw [Str.cps_append, Array.toList_append]
  have hm : (marked M y).cps.toList.map lo1 = y.cps.toList := by
    rw [marked_list hy, List.map_map]
    have e : ∀ q ∈ y.cps.toList.zipIdx, (lo1 ∘ fun q : Nat × Nat => if Txt.contains hiS (Txt.item M (q.2 : Int)) then up1 q.1 else q.1) q = q.1 := by
      intro q hq
      have hq' := lo_up (h q.1 (List.fst_mem_of_mem_zipIdx hq))
      show lo1 (if _ then up1 q.1 else q.1) = q.1
      split
      · exact hq'.1
      · exact hq'.2
    rw [List.map_congr_left e]
    exact List.zipIdx_map_fst ..
  have hA : ∀ c ∈ (z ++ marked M y).cps.toList, c < 128 := by
    intro c hc
    rw [ha, List.mem_append] at hc
    rcases hc with hc | hc
    · exact (hz c hc).1
    · rw [marked_list hy] at hc
      obtain ⟨q, hq, rfl⟩ := List.mem_map.mp hc
      have h1 := hy q.1 (List.fst_mem_of_mem_zipIdx hq)
      show (if _ then up1 q.1 else q.1) < 128
      split
      · exact up1_lt h1
      · exact h1
  rw [lower_ascii hA]
  apply Str.ext_list
  show (Array.map lo1 _).toList = _
  rw [Array.toList_map, ha, List.map_append, hm, Str.cps_append, Array.toList_append]
  congr 1
  have e : z.cps.toList.map lo1 = z.cps.toList.map id := List.map_congr_left fun c hc => (hz c hc).2
  rw [e, List.map_id]
theorem ox_still : ∀ c ∈ (Str.ofString "0x").cps.toList, c < 128 ∧ lo1 c = c := by decide +kernel
section
variable {prog : Program} {w : World} {A : Around} {E : Value → Shared → Prop} {s : Shared} {x y : Str} {t u : Tok} {h₀ : Heap} {L D : Addr} {m : Str → Option Value} {news : List (Addr × Obj)}
theorem joinMarked {M : Str} {vs : List Value} {Q : Value → Shared → Prop} (N : News h₀ L s.heap news) (hm : (D, LCg.lst vs) ∈ news) (hS : StrsAre vs (y.cps.toList.zipIdx.map fun q => markG M q.2 q.1)) (hy : ∀ c ∈ y.cps.toList, c < 128) (hz : y.length ≤ 1000)
    (h : ∀ t' k, Q (.str (marked M y) t') { s with toks := k }) : wpAny (model prog w) A (call (.builtin "str.join") [.str (Str.ofString "") t, .ref D]) Q E s := by
  have hz' : y.cps.size ≤ 1000 := hz
  refine join_listW (items := vs.toArray) (ys := y.cps.toList.zipIdx.map fun q => markG M q.2 q.1) ⟨_, (N _ hm).1, rfl, _, rfl⟩ (by simpa using hS) (by decide +kernel) (by rw [weight_marked _ (fun q hq => hy q.1 (List.fst_mem_of_mem_zipIdx hq)), List.length_map, List.length_zipIdx, Array.length_toList]; omega) fun t' k => ?_
  rw [join_marked]
  exact h t' k
theorem getEncode {pl : Sem Bool} {Q : Value × List Value → Shared → Prop} (h : Q (.builtin "str.encode", [.str x t]) s) : wpAny (model prog w) A (getMethod (.str x t) "encode" pl) Q E s := by
  with_reducible exact GM.of (.str x t) (typeIs_str _ _ _) F.slot_str_encode F.type_str_encode GM.noRef h
end
end
section
open PySem PySem.W PyProof.Rows
set_option maxRecDepth 100000
set_option maxHeartbeats 800000
local macro_rules | `(tactic| walk_at "idle 0") => `(tactic| skip)
local macro_rules | `(tactic| walk_at "idle 1") => `(tactic| skip)
local macro_rules | `(tactic| walk_at "idle 2") => `(tactic| skip)
local macro_rules | `(tactic| walk_at "idle 3") => `(tactic| skip)
local macro_rules | `(tactic| walk_at "idle 4") => `(tactic| skip)
section
variable {prog : Program} {w : World} {A : Around} {E : Value → Shared → Prop} {s : Shared} {h₀ : Heap} {L C c : Addr} {m m₂ : Str → Option Value} {news : List (Addr × Obj)} {scope : Scope} {cl : List (Str × Addr)} {env : Env} {o : Obj} {M : Str} {tM u u' : Tok} {i d : Nat} {Q : Value → Shared → Prop}
  {mk kx sg : Str} {p1 p2 p3 p4 p5 p6 p7 p8 p9 p10 : Pos} {kd : Nat}
theorem mark_turn (N : News h₀ L s.heap news) (hm : (c, o) ∈ news) (hd : o.data = .cell (some (.str M tM))) (hi : i < M.length) (hc : d < 128) (hM : M.length ≤ 1000)
    (hk : (compEnvC scope cl C env).scope.kind = .function) (hx : (compEnvC scope cl C env).kindOf mk = some .cell) (hcl : cl.lookup mk = some c)
    (hx1 : (compEnvC scope cl C env).kindOf kx = some .local) (hx2 : (compEnvC scope cl C env).kindOf sg = some .local)
    (h1 : m₂ kx = some (.int (i : Int) u)) (h2 : m₂ sg = some (.str ⟨#[d]⟩ u')) (hC : s.heap.Ns C m₂)
    (b1 : (mk == ("__debug__" : Str)) = false) (b3 : (kx == ("__debug__" : Str)) = false) (b4 : (sg == ("__debug__" : Str)) = false)
    (hline : (p7.endLine == p8.line) = true)
    (h : ∀ t k, Q (.str (markG M i d) t) { s with toks := k }) :
    wpAny (model prog w) A (eval (.IfExp (.Compare (.Subscript (.Name mk p1) (.Name kx p2) p3) [.In] [.Constant (.str hiS) kd p4] p5) (.Call (.Attribute (.Name sg p6) (Str.ofString "upper") p7) [] [] p8) (.Name sg p9) p10) (compEnvC scope cl C env)) Q E s := by
  refine wpAny_IfExp (wpAny_isTrue_Compare1 ?_ ?_)
  · refine Subscript_ (wpAny_Name (wpAny_loadName_cell hk hx hcl ⟨o, N.get hm, hd⟩ ?_) b1)
    refine wpAny_Name (wpAny_loadName_local hk hx1 hC h1 ?_) b3
    refine item_str (by unfold fitsSsize; simp; omega) (by omega) (by omega) (fun _ => ?_)
    refine wpAny_Constant_str ?_
    refine SB.contains ?_
    refine wpAny_truthy_bool ?_
    unfold markG at h
    by_cases hh : Txt.contains hiS (Txt.item M (i : Int)) = true
    · rw [if_pos hh] at h ⊢
      refine wpAny_Call_method_lateS rfl rfl hline ?_
      refine wpAny_Name (wpAny_loadName_local hk hx2 (hC.at' fun _ q => q) h2 ?_) b4
      refine SBL.upper (show (1 : Nat) ≤ 5592405 by decide) fun _ => ?_
      exact h _ _
    · rw [if_neg hh] at h ⊢
      refine wpAny_Name (wpAny_loadName_local hk hx2 (hC.at' fun _ q => q) h2 ?_) b4
      exact h _ _
  · rfl
end
end
section
open PySem PySem.W PyProof.Rows
set_option maxRecDepth 100000
set_option maxHeartbeats 800000
local macro_rules | `(tactic| walk_at "idle 0") => `(tactic| skip)
local macro_rules | `(tactic| walk_at "idle 1") => `(tactic| skip)
local macro_rules | `(tactic| walk_at "idle 2") => `(tactic| skip)
local macro_rules | `(tactic| walk_at "idle 3") => `(tactic| skip)
local macro_rules | `(tactic| walk_at "idle 4") => `(tactic| skip)
local macro_rules | `(tactic| walk_at "idle 5") => `(tactic| skip)
local macro_rules | `(tactic| walk_at "idle 6") => `(tactic| skip)
theorem digits_all : ((List.range 256).all fun c => hex2 c == [Builtin.Bytes.hexDigit (c / 16), Builtin.Bytes.hexDigit (c % 16)]) = true := by decide +kernel
theorem hex2_digits {c : Nat} (hc : c < 256) : hex2 c = [Builtin.Bytes.hexDigit (c / 16), Builtin.Bytes.hexDigit (c % 16)] := eq_of_beq (List.all_eq_true.mp digits_all c (List.mem_range.mpr hc))
theorem fold_hex {brk : Nat → Bool} : ∀ (l : List (UInt8 × Nat)) (out : Array Nat), l.foldl (fun (out : Array Nat) (x : UInt8 × Nat) =>
    (((match (none : Option Nat) with | some s => if brk x.2 then out.push s else out | none => out).push (Builtin.Bytes.hexDigit (x.1.toNat / 16))).push (Builtin.Bytes.hexDigit (x.1.toNat % 16)))) out = out ++ (hexL (l.map (·.1))).toArray
  | [], out => by simp [hexL]
  | x :: r, out => by
    rw [List.foldl_cons, fold_hex (brk := brk) r, List.map_cons]
    unfold hexL
    rw [List.flatMap_cons, hex2_digits x.1.toNat_lt]
    apply Array.toList_inj.mp
    simp
section
variable {prog : Program} {w : World} {M : Model} {A : Around} {E : Value → Shared → Prop} {s : Shared} {b : Array UInt8} {t u : Tok}
theorem callHex {Q : Value → Shared → Prop} {n : Nat} (hs : b.size = n) (hn : n ≤ 1000) (h : ∀ t' k, Q (.str (hexS b) t') { s with toks := k }) :
    wpAny (model prog w) A (call (.builtin "bytes.hex") [.bytes b t]) Q E s := by
  refine wpAny_call_entry FB.slot_bytes_hex (typeIs_bytes s b t) FB.entry_bytes_hex ?_ (FB.args_bytes_hex_1 _)
  unfold Builtin.«bytes.hex» Builtin.Bytes.hexM Builtin.Bytes.hexOf
  refine wpAny_bind (wpAny_of_eq (a := [none, none]) (by first | rfl | kernel_rfl) ?_)
  refine wpAny_bind (wpAny_of_eq (a := (1 : Int)) (by first | rfl | kernel_rfl) ?_)
  refine wpAny_bind (wpAny_of_eq (a := ()) (by first | rfl | kernel_rfl) ?_)
  refine wpAny_bind (wpAny_of_eq (a := none) (by first | rfl | kernel_rfl) ?_)
  refine wpAny_bind (wpAny_of_eq (a := b) (by first | rfl | kernel_rfl) ?_)
  have e : ∀ brk : Nat → Bool, (b.toList.zipIdx.foldl (fun (out : Array Nat) (x : UInt8 × Nat) =>
    (((match (none : Option Nat) with | some s => if brk x.2 then out.push s else out | none => out).push (Builtin.Bytes.hexDigit (x.1.toNat / 16))).push (Builtin.Bytes.hexDigit (x.1.toNat % 16)))) #[]) = (hexL b.toList).toArray := fun brk => by
    rw [fold_hex (brk := brk), Array.empty_append, List.zipIdx_map_fst]
  unfold retStr
  refine wpAny_bind (wpAny_mkStr ?_ ?_)
  · refine wpAny_pure ?_
    dsimp only
    erw [e (fun _ => true)]
    exact ⟨_, rfl, h _ _⟩
  · show Str.length ⟨_⟩ ≤ _
    erw [e (fun _ => true)]
    show (hexS b).length ≤ _
    rw [hexS_length, hs, sizeLine_eq]
    omega
theorem getHex {pl : Sem Bool} {Q : Value × List Value → Shared → Prop} (h : Q (.builtin "bytes.hex", [.bytes b t]) s) : wpAny (model prog w) A (getMethod (.bytes b t) (Str.ofString "hex") pl) Q E s := by
  exact getMethod_builtin (typeIs_bytes s b t) FB.plainAttrs_bytes FB.slot_bytes_hex FB.type_bytes_hex (fun _ e => nomatch e) h
end
end
section
open PySem PySem.W PyProof.Rows
set_option maxRecDepth 100000
set_option maxHeartbeats 1600000
variable {w : World} {p : Program} {loose : List Str} {mean : ExcName → Option Value} {mg mb : Str → Option Value}
local macro_rules | `(tactic| walk_at "call ref") => `(tactic| (k_here; (with_reducible show wpAny _ _ (call (Value.ref 54) _) _ _ _); k_dflt (refine' hex_use ?k1 ?k2 ?k3 ?k4 ?k5 ?kK ?kg ?kh ?kd ?ku ?_; (case k1 => k_asm); (case k2 => k_asm); (case k3 => k_asm); (case k4 => k_asm); (case k5 => k_asm); (case kK => exact rfl); (case kg => with_reducible assumption); (case kh => decide); (case kd => ktr_room); (case ku => ktr_units)); intro t' h' tk' F' N'))
local macro_rules | `(tactic| walk_at "call ref") => `(tactic| (k_here; (with_reducible show wpAny _ _ (call (Value.ref 82) _) _ _ _); k_dflt (refine' kec_use ?k1 ?k2 ?k3 ?k4 ?k5 ?kK ?kg ?kh ?kd ?ku ?_; (case k1 => k_asm); (case k2 => k_asm); (case k3 => k_asm); (case k4 => k_asm); (case k5 => k_asm); (case kK => exact rfl); (case kg => with_reducible assumption); (case kh => decide); (case kd => ktr_room); (case ku => ktr_units)); intro t' h' tk' F' N' hsz'))
local macro_rules | `(tactic| walk_at "subscriptTail Call") => `(tactic| (k_here; (with_reducible show wpAny _ _ (subscriptTail _ (Expr.Slice _ _ none _) (Value.str _ _) (Value.ref _)) _ _ _); (with_reducible rename Fr _ _ _ _ => F'); (with_reducible rename News _ _ _ _ => N'); k_dflt (refine slice_ox (s := ⟨_, _, _, _, _⟩) F' N' (by with_reducible assumption) (by decide) ?_); intro _ _ _ F' N'))
local macro_rules | `(tactic| walk_at "getMethod") => `(tactic| (k_here; (with_reducible show wpAny _ _ (getMethod (Value.str _ _) (Str.ofString "encode") _) _ _ _); k_dflt (refine getEncode ?_)))
local macro_rules | `(tactic| walk_at "call builtin:str.encode") => `(tactic| (k_here; k_dflt (refine callEncode hexS_ascii (by with_reducible assumption) (by with_reducible assumption) ?_); intro t1 k1 hen; clear hen))
local macro_rules | `(tactic| walk_at "call type:enumerate") => `(tactic| (k_here; k_dflt (exact enum_src (by k_asm) (by k_asm))))
local macro_rules | `(tactic| walk_at "call builtin:str.join") => `(tactic| (k_here; (with_reducible rename StrsAre _ _ => hS'); k_dflt (refine joinMarked (by k_asm) (by k_mem) hS' (by with_reducible assumption) (by with_reducible assumption) ?_); intro _ _))
local macro_rules | `(tactic| walk_at "binaryOp Add str str") => `(tactic| (k_here; (with_reducible show wpAny _ _ (binaryOp Operator.Add (Value.str _ _) (Value.str _ _)) _ _ _); k_dflt (refine addS ox_len (by with_reducible assumption) ?_); intro _ _))
/-- the address written in both cases -/
abbrev csS (b : Array UInt8) : Str := Str.ofString "0x" ++ marked (hexS (kec (encB (hexS b)))) (hexS b)
theorem cs_ok {news : List (Addr × Obj)} {b : Array UInt8} {t0 : Tok} (hs : b.size = 20) :
    Tell w p loose mean mg mb 94 5 80 news [.bytes b t0]
      (fun r news' => ∃ t, r = .str (csS b) t ∧ news' = news) := by
  unfold Tell
  intro dp un gd cn cs a' ccd cl outer A₀ base h₀ L m s Q E B F X N T hk hdp hun hret
  refine fillT _ ?_
  k_fill
  intro _
  refine wpAny_call ?_
  k_dflt (refine' code_defC ?k1 ?k2 ?k3 ?k4 ?k5 ?kA ?kF ?kK ?k6 ?k7 ?k8 ?k9 ?kB ?kD ?_ ?c2 ?c3 ?c4; (case kA => exact rfl); (case kF => exact rfl); (case kK => assumption); (case k1 => k_asm); (case k2 => k_asm); (case k3 => k_asm); (case k4 => k_asm); (case k5 => k_asm); (case k6 => k_is); (case k7 => k_is); (case k8 => ktr_room); (case k9 => exact BindsTo.of_eq rfl); (case kB => exact rfl); (case kD => decide +kernel); (case c2 => exact rfl); (case c3 => exact rfl); (case c4 => exact rfl); k_whole; intro g' L' h' tk' cells' FG' F' N' Y' B' X' T' l1; (try k_lt l1); k_cells Y'; (try simp only [List.cons_append, List.nil_append] at N'); (try dsimp only); (try k_lift B'); (try k_fold))
  have hg1 : 2 ≤ (hexS b).length := by rw [hexS_length, hs]; decide
  have hg2 : (hexS b).length ≤ 1000 := by rw [hexS_length, hs]; decide
  have hl1 : (hexS b).length = 40 := by rw [hexS_length, hs]
  have hl3 : (encB (hexS b)).size = 40 := by rw [encB_size, hl1]
  have hl4 : (hexS (kec (encB (hexS b)))).length = 64 := by rw [hexS_length, kec_size]
  have l2 : ∀ p ∈ news, p.1 ≠ L' + 1 := fun p hp => Nat.ne_of_lt (Nat.lt_succ_of_lt (l1 p hp))
  have hl5 : ∀ c ∈ (hexS b).cps.toList, c < 128 := fun c hc => isHex_lt (hexS_hex c hc)
  have hl6 : (marked (hexS (kec (encB (hexS b)))) (hexS b)).length ≤ 1000 := by rw [marked_length hl5, hl1]; decide
  k_steps
  (with_reducible rename Fr _ _ _ _ => kF); (with_reducible rename News _ _ _ _ => kN)
  refine stCN (own := []) kF kN rfl (by assumption) (fun _ h => nomatch h) l2 ?_
  clear kF kN
  intro h' o' F' N' hd'
  dsimp only [List.nil_append] at N'
  iterate 10 (first | (k_unfold; (try dsimp only)) | (k_end; wrow_close) | walk1 | (dsimp only; walk1) | (leave1; walk_say "STEP leave1"; try dsimp only) | fail "no step")
  (with_reducible rename Fr _ _ _ _ => kF); (with_reducible rename News _ _ _ _ => kN)
  refine' listComp_enum (txt := hexS b) (markG (hexS (kec (encB (hexS b))))) ?hh kF kN ?hz ?hc ?hce ?hki ?hna ?hx ?hx2 ?hxx ?hit ?turn ?fin ?hfs
  case hh => rfl
  case hc => with_unfolding_all rfl
  case hce => decide
  case hki => rfl
  case hna => decide
  case hx => rfl
  case hx2 => rfl
  case hxx => decide
  case hfs => intro _; rfl
  case hz => exact Nat.le_trans (Nat.le_of_eq hl1) (by decide +kernel)
  case turn =>
    intro i c u u' C m₂ s' Q' E' hc hx hx2 hC N'' F'' hQ'
    have hi : i < (hexS b).cps.size := by
      rcases Array.getElem?_eq_some_iff.mp hc with ⟨h, _⟩
      exact h
    refine mark_turn N'' (.head _) hd' (by have e : (hexS b).cps.size = 40 := hl1; omega) (isHex_lt (hexS_hex (b := b) c ?_)) (by omega) (by rfl) (by rfl) (by rfl) (by rfl) (by rfl) hx hx2 hC (by decide) (by decide) (by decide) rfl hQ'
    rw [Array.mem_toList_iff]
    exact Array.mem_of_getElem? hc
  case hit =>
    k_steps
  intro D' h' tk' ys' hS' F' N'
  k_steps
  all_goals
    (rename Fr _ _ _ _ => kF); (rename News _ _ _ _ => kN)
    exact hret _ _ _ _ ⟨_, rfl, rfl⟩ kF (cb_drop kN (fun _ h => .tail _ (.tail _ h)))
end
section
open PySem PySem.W PyProof.Rows
set_option maxRecDepth 100000
set_option maxHeartbeats 1600000
variable {w : World} {p : Program} {loose : List Str} {mean : ExcName → Option Value} {mg mb : Str → Option Value}
local macro_rules | `(tactic| walk_at "call ref") => `(tactic| (k_here; (with_reducible show wpAny _ _ (call (Value.ref 54) _) _ _ _); k_dflt (refine' hex_use ?k1 ?k2 ?k3 ?k4 ?k5 ?kK ?kg ?kh ?kd ?ku ?_; (case k1 => k_asm); (case k2 => k_asm); (case k3 => k_asm); (case k4 => k_asm); (case k5 => k_asm); (case kK => exact rfl); (case kg => with_reducible assumption); (case kh => decide); (case kd => ktr_room); (case ku => ktr_units)); intro t' h' tk' F' N'))
local macro_rules | `(tactic| walk_at "call ref") => `(tactic| (k_here; (with_reducible show wpAny _ _ (call (Value.ref 82) _) _ _ _); k_dflt (refine' kec_use ?k1 ?k2 ?k3 ?k4 ?k5 ?kK ?kg ?kh ?kd ?ku ?_; (case k1 => k_asm); (case k2 => k_asm); (case k3 => k_asm); (case k4 => k_asm); (case k5 => k_asm); (case kK => exact rfl); (case kg => with_reducible assumption); (case kh => decide); (case kd => ktr_room); (case ku => ktr_units)); intro t' h' tk' F' N' hsz'))
local macro_rules | `(tactic| walk_at "subscriptTail Call") => `(tactic| (k_here; (with_reducible show wpAny _ _ (subscriptTail _ (Expr.Slice _ _ none _) (Value.str _ _) (Value.ref _)) _ _ _); (with_reducible rename Fr _ _ _ _ => F'); (with_reducible rename News _ _ _ _ => N'); k_dflt (refine slice_ox (s := ⟨_, _, _, _, _⟩) F' N' (by with_reducible assumption) (by decide) ?_); intro _ _ _ F' N'))
local macro_rules | `(tactic| walk_at "getMethod") => `(tactic| (k_here; (with_reducible show wpAny _ _ (getMethod (Value.str _ _) (Str.ofString "encode") _) _ _ _); k_dflt (refine getEncode ?_)))
local macro_rules | `(tactic| walk_at "call builtin:str.encode") => `(tactic| (k_here; k_dflt (refine callEncode hexS_ascii (by with_reducible assumption) (by with_reducible assumption) ?_); intro t1 k1 hen; clear hen))
local macro_rules | `(tactic| walk_at "call type:enumerate") => `(tactic| (k_here; k_dflt (exact enum_src (by k_asm) (by k_asm))))
local macro_rules | `(tactic| walk_at "call builtin:str.join") => `(tactic| (k_here; (with_reducible rename StrsAre _ _ => hS'); k_dflt (refine joinMarked (by k_asm) (by k_mem) hS' (by with_reducible assumption) (by with_reducible assumption) ?_); intro _ _))
local macro_rules | `(tactic| walk_at "binaryOp Add str str") => `(tactic| (k_here; (with_reducible show wpAny _ _ (binaryOp Operator.Add (Value.str _ _) (Value.str _ _)) _ _ _); k_dflt (refine addS ox_len (by with_reducible assumption) ?_); intro _ _))
local macro_rules | `(tactic| walk_at "getMethod") => `(tactic| (k_here; (with_reducible show wpAny _ _ (getMethod (Value.bytes _ _) (Str.ofString "hex") _) _ _ _); k_dflt (refine getHex ?_)))
local macro_rules | `(tactic| walk_at "call builtin:bytes.hex") => `(tactic| (k_here; k_dflt (refine callHex (by with_reducible assumption) (by decide) ?_); intro t1 k1))
theorem lm_ok {news : List (Addr × Obj)} {b : Array UInt8} {t0 : Tok} (hs : b.size = 20) :
    Tell w p loose mean mg mb 665 5 80 news [.str (hexS b) t0]
      (fun r news' => ∃ t, r = .str (csS b) t ∧ news' = news) := by
  unfold Tell
  intro dp un gd cn cs a' ccd cl outer A₀ base h₀ L m s Q E B F X N T hk hdp hun hret
  refine fillT _ ?_
  k_fill
  intro _
  refine wpAny_call ?_
  k_dflt (refine' code_defC ?k1 ?k2 ?k3 ?k4 ?k5 ?kA ?kF ?kK ?k6 ?k7 ?k8 ?k9 ?kB ?kD ?_ ?c2 ?c3 ?c4; (case kA => exact rfl); (case kF => exact rfl); (case kK => assumption); (case k1 => k_asm); (case k2 => k_asm); (case k3 => k_asm); (case k4 => k_asm); (case k5 => k_asm); (case k6 => k_is); (case k7 => k_is); (case k8 => ktr_room); (case k9 => exact BindsTo.of_eq rfl); (case kB => exact rfl); (case kD => decide +kernel); (case c2 => exact rfl); (case c3 => exact rfl); (case c4 => exact rfl); k_whole; intro g' L' h' tk' cells' FG' F' N' Y' B' X' T' l1; (try k_lt l1); k_cells Y'; (try simp only [List.cons_append, List.nil_append] at N'); (try dsimp only); (try k_lift B'); (try k_fold))
  have hg1 : 2 ≤ (hexS b).length := by rw [hexS_length, hs]; decide
  have hg2 : (hexS b).length ≤ 1000 := by rw [hexS_length, hs]; decide
  have hl1 : (hexS b).length = 40 := by rw [hexS_length, hs]
  have hl3 : (encB (hexS b)).size = 40 := by rw [encB_size, hl1]
  have hl4 : (hexS (kec (encB (hexS b)))).length = 64 := by rw [hexS_length, kec_size]
  have l2 : ∀ p ∈ news, p.1 ≠ L' + 1 := fun p hp => Nat.ne_of_lt (Nat.lt_succ_of_lt (l1 p hp))
  have hl5 : ∀ c ∈ (hexS b).cps.toList, c < 128 := fun c hc => isHex_lt (hexS_hex c hc)
  have hl6 : (marked (hexS (kec (encB (hexS b)))) (hexS b)).length ≤ 1000 := by rw [marked_length hl5, hl1]; decide
  k_steps
  (with_reducible rename Fr _ _ _ _ => kF); (with_reducible rename News _ _ _ _ => kN)
  refine stCN (own := []) kF kN rfl (by assumption) (fun _ h => nomatch h) l2 ?_
  clear kF kN
  intro h' o' F' N' hd'
  dsimp only [List.nil_append] at N'
  iterate 10 (first | (k_unfold; (try dsimp only)) | (k_end; wrow_close) | walk1 | (dsimp only; walk1) | (leave1; walk_say "STEP leave1"; try dsimp only) | fail "no step")
  (with_reducible rename Fr _ _ _ _ => kF); (with_reducible rename News _ _ _ _ => kN)
  refine' listComp_enum (txt := hexS b) (markG (hexS (kec (encB (hexS b))))) ?hh kF kN ?hz ?hc ?hce ?hki ?hna ?hx ?hx2 ?hxx ?hit ?turn ?fin ?hfs
  case hh => rfl
  case hc => with_unfolding_all rfl
  case hce => decide
  case hki => rfl
  case hna => decide
  case hx => rfl
  case hx2 => rfl
  case hxx => decide
  case hfs => intro _; rfl
  case hz => exact Nat.le_trans (Nat.le_of_eq hl1) (by decide +kernel)
  case turn =>
    intro i c u u' C m₂ s' Q' E' hc hx hx2 hC N'' F'' hQ'
    have hi : i < (hexS b).cps.size := by
      rcases Array.getElem?_eq_some_iff.mp hc with ⟨h, _⟩
      exact h
    refine mark_turn N'' (.head _) hd' (by have e : (hexS b).cps.size = 40 := hl1; omega) (isHex_lt (hexS_hex (b := b) c ?_)) (by omega) (by rfl) (by rfl) (by rfl) (by rfl) (by rfl) hx hx2 hC (by decide) (by decide) (by decide) rfl hQ'
    rw [Array.mem_toList_iff]
    exact Array.mem_of_getElem? hc
  case hit =>
    k_steps
  intro D' h' tk' ys' hS' F' N'
  k_steps
  all_goals
    (rename Fr _ _ _ _ => kF); (rename News _ _ _ _ => kN)
    exact hret _ _ _ _ ⟨_, rfl, rfl⟩ kF (cb_drop kN (fun _ h => .tail _ (.tail _ h)))
end
section
open PySem PySem.W PyProof.Rows
set_option maxRecDepth 100000
set_option maxHeartbeats 800000
variable {w : World} {p : Program} {loose : List Str} {mean : ExcName → Option Value} {mg mb : Str → Option Value}
local macro_rules | `(tactic| walk_at "call ref") => `(tactic| (k_here; (with_reducible show wpAny _ _ (call (Value.ref 54) _) _ _ _); k_dflt (refine' hex_use ?k1 ?k2 ?k3 ?k4 ?k5 ?kK ?kg ?kh ?kd ?ku ?_; (case k1 => k_asm); (case k2 => k_asm); (case k3 => k_asm); (case k4 => k_asm); (case k5 => k_asm); (case kK => exact rfl); (case kg => with_reducible assumption); (case kh => decide); (case kd => ktr_room); (case ku => ktr_units)); intro t' h' tk' F' N'))
local macro_rules | `(tactic| walk_at "call ref") => `(tactic| (k_here; (with_reducible show wpAny _ _ (call (Value.ref 82) _) _ _ _); k_dflt (refine' kec_use ?k1 ?k2 ?k3 ?k4 ?k5 ?kK ?kg ?kh ?kd ?ku ?_; (case k1 => k_asm); (case k2 => k_asm); (case k3 => k_asm); (case k4 => k_asm); (case k5 => k_asm); (case kK => exact rfl); (case kg => with_reducible assumption); (case kh => decide); (case kd => ktr_room); (case ku => ktr_units)); intro t' h' tk' F' N' hsz'))
local macro_rules | `(tactic| walk_at "subscriptTail") => `(tactic| (k_here; (with_reducible show wpAny _ _ (subscriptTail _ (Expr.Slice _ _ none _) (Value.bytes _ _) (Value.ref _)) _ _ _); (with_reducible rename Fr _ _ _ _ => F'); (with_reducible rename News _ _ _ _ => N'); (first | (refine sliceB (i := 12) (j := 32) (d := 20) (s := ⟨_, _, _, _, _⟩) F' N' (by with_reducible assumption) (by constructor) (by constructor) (by decide) (by decide) (by decide) (by decide) (by decide) ?_)); intro _ _ _ F' N' hsz))
local macro_rules | `(tactic| walk_at "subscriptTail Call") => `(tactic| (k_here; (with_reducible show wpAny _ _ (subscriptTail _ (Expr.Slice _ _ none _) (Value.bytes _ _) (Value.ref _)) _ _ _); (with_reducible rename Fr _ _ _ _ => F'); (with_reducible rename News _ _ _ _ => N'); (first | (refine sliceB (i := 12) (j := 32) (d := 20) (s := ⟨_, _, _, _, _⟩) F' N' (by with_reducible assumption) (by constructor) (by constructor) (by decide) (by decide) (by decide) (by decide) (by decide) ?_)); intro _ _ _ F' N' hsz))
/-- the last twenty octets of the digest -/
abbrev adr (b : Array UInt8) : Array UInt8 := cut (kec b) 12 32
theorem adr_size (b : Array UInt8) : (adr b).size = 20 := cut_size (kec_size b) (by decide)
theorem pa_ok {news : List (Addr × Obj)} {b : Array UInt8} {t0 : Tok} (hs : b.size = 64) :
    Tell w p loose mean mg mb 101 4 60 news [.bytes b t0]
      (fun r news' => ∃ t, r = .bytes (adr b) t ∧ news' = news) := by
  unfold Tell
  intro dp un gd cn cs a' ccd cl outer A₀ base h₀ L m s Q E B F X N T hk hdp hun hret
  refine fillT _ ?_
  k_fill
  intro _
  refine wpAny_call ?_
  k_dflt cell_enter
  k_steps
  all_goals
    (rename Fr _ _ _ _ => kF); (rename News _ _ _ _ => kN)
    exact hret _ _ _ _ ⟨_, rfl, rfl⟩ kF kN
theorem na_ok {news : List (Addr × Obj)} {b : Array UInt8} {t0 : Tok} (hs : b.size = 20) :
    Tell w p loose mean mg mb 89 3 60 news [.bytes b t0]
      (fun r news' => ∃ t, r = .str (Str.ofString "0x" ++ hexS b) t ∧ news' = news) := by
  unfold Tell
  intro dp un gd cn cs a' ccd cl outer A₀ base h₀ L m s Q E B F X N T hk hdp hun hret
  refine fillT _ ?_
  k_fill
  intro _
  refine wpAny_call ?_
  k_dflt cell_enter
  k_steps
  all_goals
    (rename Fr _ _ _ _ => kF); (rename News _ _ _ _ => kN)
    exact hret _ _ _ _ ⟨_, rfl, rfl⟩ kF kN
end
section
open PySem PySem.W PyProof.Rows PySem.Calls
section
variable {M : Model} {A : Around} {E : Value → Shared → Prop} {s : Shared} {env : Env} {c : Code}
theorem wpAt_MethodCallK {o : PySem.Expr} {name : Str} {apos pos : Pos} {args : List PySem.Expr} {kws : List Keyword} {pl : Sem Bool} {Q : Value → Shared → Prop}
    (h : PySem.wpAt M A c (attributeBase o name env (eval o env)) (fun ov s₁ => wpAny M A (getMethod ov name pl) (fun fx s₂ => wpAny M A (callWith pos fx.1 fx.2 (backTo pos (starEach args env)) (backToKw pos (keywordEach kws env))) Q E s₂) E s₁) E s)
    (he : eval (.Call (.Attribute o name apos) args kws pos) env = (do
      let ov ← attributeBase o name env (eval o env)
      standAt apos.atName
      let (f, first) ← holding [ov] (getMethod ov name pl)
      callWith pos f first (backTo pos (starEach args env)) (backToKw pos (keywordEach kws env))) := by rfl) :
    PySem.wpAt M A c (eval (.Call (.Attribute o name apos) args kws pos) env) Q E s := by
  rw [he]
  refine PySem.wpAt_bind (PySem.ks_wpAt_mono h (fun ov s₁ h₁ => PySem.wpAt_of_wpAny (wpAny_bind (wpAny_standAt (wpAny_bind (wpAny_holding (wpAny_mono h₁ (fun fx s₂ h₂ => ?_) fun _ _ x => x)))))) fun _ _ x => x)
  exact h₂
theorem callWith_MK0 {K : Frag} {pos : Pos} {first : List Value} {Q : Value → Shared → Prop} {kws : List Keyword} {q g : Addr} {self : Value} (_X : MethP K q g self s.heap) (hf : fnIn K g = true) (hall : (backToKw pos (keywordEach kws env)).all (·.1.isSome) = true)
    (h : wpAny M A (evalAll ((backToKw pos (keywordEach kws env)).map (·.2))) (fun ks s₂ => MethP K q g self s₂.heap ∧ wpAny M A (call (.ref q) (first ++ []) (((backToKw pos (keywordEach kws env)).filterMap (·.1)).zip ks)) Q E s₂) E s)
    (hplain : ((backTo pos (starEach [] env)).any (·.1) || (backToKw pos (keywordEach kws env)).any (·.1.isNone)) = false := by rfl) :
    wpAny M A (callWith pos (.ref q) first (backTo pos (starEach [] env)) (backToKw pos (keywordEach kws env))) Q E s :=
  callWith_of hplain (keeps_M hf) (evalArgs_kw2_nil hall h)
end
end
section
open PySem PySem.W PyProof.Rows
set_option maxRecDepth 100000
set_option maxHeartbeats 1600000
local macro_rules | `(tactic| walk_at "idle 0") => `(tactic| skip)
local macro_rules | `(tactic| walk_at "idle 1") => `(tactic| skip)
local macro_rules | `(tactic| walk_at "idle 2") => `(tactic| skip)
variable {w : World} {p : Program} {loose : List Str} {mean : ExcName → Option Value} {mg mb : Str → Option Value}
theorem ib_ok {news : List (Addr × Obj)} {b : Array UInt8} {t0 : Tok} :
    Tell w p loose mean mg mb 61 1 10 news [.bytes b t0]
      (fun r news' => r = .bool true ∧ news' = news) := by
  unfold Tell
  intro dp un gd cn cs a' ccd cl outer A₀ base h₀ L m s Q E B F X N T hk hdp hun hret
  refine fillT _ ?_
  k_fill
  intro _
  refine wpAny_call ?_
  k_dflt cell_enter
  k_steps
  all_goals
    (rename Fr _ _ _ _ => kF); (rename News _ _ _ _ => kN)
    first | contradiction | exact hret _ _ _ _ ⟨rfl, rfl⟩ kF kN | exact hret _ _ _ _ ⟨rfl, rfl⟩ kF (cb_drop kN (fun _ h => .tail _ h)) | exact hret _ _ _ _ ⟨rfl, rfl⟩ kF (cb_drop kN (fun _ h => .tail _ (.tail _ h)))
theorem ii_ok {news : List (Addr × Obj)} {n : Int} {t0 : Tok} :
    Tell w p loose mean mg mb 68 1 10 news [.int n t0]
      (fun r news' => r = .bool true ∧ news' = news) := by
  unfold Tell
  intro dp un gd cn cs a' ccd cl outer A₀ base h₀ L m s Q E B F X N T hk hdp hun hret
  refine fillT _ ?_
  k_fill
  intro _
  refine wpAny_call ?_
  k_dflt cell_enter
  k_steps
  all_goals
    (rename Fr _ _ _ _ => kF); (rename News _ _ _ _ => kN)
    first | contradiction | exact hret _ _ _ _ ⟨rfl, rfl⟩ kF kN | exact hret _ _ _ _ ⟨rfl, rfl⟩ kF (cb_drop kN (fun _ h => .tail _ h)) | exact hret _ _ _ _ ⟨rfl, rfl⟩ kF (cb_drop kN (fun _ h => .tail _ (.tail _ h)))
local macro_rules | `(tactic| walk_at "call ref") => `(tactic| (k_here; (with_reducible show wpAny _ _ (call (Value.ref 61) _) _ _ _); k_dflt (refine' Tell.use ?k1 ?k2 ?k3 ?k4 ?k5 ?kK ?kT ?kd ?ku ?_; (case k1 => k_asm); (case k2 => k_asm); (case k3 => k_asm); (case k4 => k_asm); (case k5 => k_asm); (case kK => exact rfl); (case kT => exact ib_ok); (case kd => ktr_room); (case ku => ktr_units)); intro v' n' h' tk' hR' F' N'; obtain ⟨h1', h2'⟩ := hR'; subst h1'; subst h2'))
local macro_rules | `(tactic| walk_at "call ref") => `(tactic| (k_here; (with_reducible show wpAny _ _ (call (Value.ref 68) _) _ _ _); k_dflt (refine' Tell.use ?k1 ?k2 ?k3 ?k4 ?k5 ?kK ?kT ?kd ?ku ?_; (case k1 => k_asm); (case k2 => k_asm); (case k3 => k_asm); (case k4 => k_asm); (case k5 => k_asm); (case kK => exact rfl); (case kT => exact ii_ok); (case kd => ktr_room); (case ku => ktr_units)); intro v' n' h' tk' hR' F' N'; obtain ⟨h1', h2'⟩ := hR'; subst h1'; subst h2'))
theorem vb_ok {news : List (Addr × Obj)} {b : Array UInt8} {t0 : Tok} :
    Tell w p loose mean mg mb 123 2 20 news [.bytes b t0]
      (fun r news' => r = .none ∧ news' = news) := by
  unfold Tell
  intro dp un gd cn cs a' ccd cl outer A₀ base h₀ L m s Q E B F X N T hk hdp hun hret
  refine fillT _ ?_
  k_fill
  intro _
  refine wpAny_call ?_
  k_dflt cell_enter
  k_steps
  all_goals
    (rename Fr _ _ _ _ => kF); (rename News _ _ _ _ => kN)
    first | contradiction | exact hret _ _ _ _ ⟨rfl, rfl⟩ kF kN | exact hret _ _ _ _ ⟨rfl, rfl⟩ kF (cb_drop kN (fun _ h => .tail _ h)) | exact hret _ _ _ _ ⟨rfl, rfl⟩ kF (cb_drop kN (fun _ h => .tail _ (.tail _ h)))
theorem vi_ok {news : List (Addr × Obj)} {n : Int} {t0 : Tok} :
    Tell w p loose mean mg mb 116 2 20 news [.int n t0]
      (fun r news' => r = .none ∧ news' = news) := by
  unfold Tell
  intro dp un gd cn cs a' ccd cl outer A₀ base h₀ L m s Q E B F X N T hk hdp hun hret
  refine fillT _ ?_
  k_fill
  intro _
  refine wpAny_call ?_
  k_dflt cell_enter
  k_steps
  all_goals
    (rename Fr _ _ _ _ => kF); (rename News _ _ _ _ => kN)
    first | contradiction | exact hret _ _ _ _ ⟨rfl, rfl⟩ kF kN | exact hret _ _ _ _ ⟨rfl, rfl⟩ kF (cb_drop kN (fun _ h => .tail _ h)) | exact hret _ _ _ _ ⟨rfl, rfl⟩ kF (cb_drop kN (fun _ h => .tail _ (.tail _ h)))
theorem lenI {prog : Program} {w : World} {A : Around} {E : Value → Shared → Prop} {s : Shared} {b : Array UInt8} {t : Tok} {n : Int} {Q : Value → Shared → Prop} (hb : (b.size : Int) = n) (hz : n ≤ 1000) (h : ∀ t' k, Q (.int n t') { s with toks := k }) : wpAny (model prog w) A (call (.builtin "len") [.bytes b t]) Q E s := by
  refine lenB (n := b.size) rfl (by omega) fun t' k => ?_
  rw [hb]
  exact h t' k
local macro_rules | `(tactic| walk_at "call builtin:len") => `(tactic| (k_here; (with_reducible show wpAny _ _ (call (Value.builtin "len") [Value.bytes _ _]) _ _ _); (refine lenI (by with_reducible assumption) (by with_reducible assumption) ?_); intro _ _))
theorem vl_ok {news : List (Addr × Obj)} {b : Array UInt8} {n : Int} {x : Str} {t0 t1 t2 : Tok} (hs : (b.size : Int) = n) (hz : n ≤ 1000) :
    Tell w p loose mean mg mb 151 2 20 news [.bytes b t0, .int n t1, .str x t2]
      (fun r news' => r = .none ∧ news' = news) := by
  unfold Tell
  intro dp un gd cn cs a' ccd cl outer A₀ base h₀ L m s Q E B F X N T hk hdp hun hret
  refine fillT _ ?_
  k_fill
  intro _
  refine wpAny_call ?_
  k_dflt cell_enter
  k_steps
  all_goals
    (rename Fr _ _ _ _ => kF); (rename News _ _ _ _ => kN)
    first | contradiction | exact hret _ _ _ _ ⟨rfl, rfl⟩ kF kN | exact hret _ _ _ _ ⟨rfl, rfl⟩ kF (cb_drop kN (fun _ h => .tail _ h)) | exact hret _ _ _ _ ⟨rfl, rfl⟩ kF (cb_drop kN (fun _ h => .tail _ (.tail _ h)))
local macro_rules | `(tactic| walk_at "call ref") => `(tactic| (k_here; (with_reducible show wpAny _ _ (call (Value.ref 123) _) _ _ _); k_dflt (refine' Tell.use ?k1 ?k2 ?k3 ?k4 ?k5 ?kK ?kT ?kd ?ku ?_; (case k1 => k_asm); (case k2 => k_asm); (case k3 => k_asm); (case k4 => k_asm); (case k5 => k_asm); (case kK => exact rfl); (case kT => exact vb_ok); (case kd => ktr_room); (case ku => ktr_units)); intro v' n' h' tk' hR' F' N'; obtain ⟨h1', h2'⟩ := hR'; subst h1'; subst h2'))
local macro_rules | `(tactic| walk_at "call ref") => `(tactic| (k_here; (with_reducible show wpAny _ _ (call (Value.ref 116) _) _ _ _); k_dflt (refine' Tell.use ?k1 ?k2 ?k3 ?k4 ?k5 ?kK ?kT ?kd ?ku ?_; (case k1 => k_asm); (case k2 => k_asm); (case k3 => k_asm); (case k4 => k_asm); (case k5 => k_asm); (case kK => exact rfl); (case kT => exact vi_ok); (case kd => ktr_room); (case ku => ktr_units)); intro v' n' h' tk' hR' F' N'; obtain ⟨h1', h2'⟩ := hR'; subst h1'; subst h2'))
local macro_rules | `(tactic| walk_at "call ref") => `(tactic| (k_here; (with_reducible show wpAny _ _ (call (Value.ref 151) _) _ _ _); k_dflt (refine' Tell.use ?k1 ?k2 ?k3 ?k4 ?k5 ?kK ?kT ?kd ?ku ?_; (case k1 => k_asm); (case k2 => k_asm); (case k3 => k_asm); (case k4 => k_asm); (case k5 => k_asm); (case kK => exact rfl); (case kT => exact (vl_ok (by assumption) (by decide))); (case kd => ktr_room); (case ku => ktr_units)); intro v' n' h' tk' hR' F' N'; obtain ⟨h1', h2'⟩ := hR'; subst h1'; subst h2'))
theorem vu_ok {news : List (Addr × Obj)} {b : Array UInt8} {t0 : Tok} (hs : (b.size : Int) = 64) :
    Tell w p loose mean mg mb 158 3 40 news [.bytes b t0]
      (fun r news' => r = .none ∧ news' = news) := by
  unfold Tell
  intro dp un gd cn cs a' ccd cl outer A₀ base h₀ L m s Q E B F X N T hk hdp hun hret
  refine fillT _ ?_
  k_fill
  intro _
  refine wpAny_call ?_
  k_dflt cell_enter
  k_steps
  all_goals
    (rename Fr _ _ _ _ => kF); (rename News _ _ _ _ => kN)
    first | contradiction | exact hret _ _ _ _ ⟨rfl, rfl⟩ kF kN | exact hret _ _ _ _ ⟨rfl, rfl⟩ kF (cb_drop kN (fun _ h => .tail _ h)) | exact hret _ _ _ _ ⟨rfl, rfl⟩ kF (cb_drop kN (fun _ h => .tail _ (.tail _ h)))
end
section
open PySem PySem.W PyProof.Rows
theorem make_units : (Code.builtin "type.__call__" ⟨[], []⟩).cUnits = 1 := by decide +kernel
theorem under_make_units (A : Around) (a : Args) : (A.under (.builtin "type.__call__" a)).units = A.units + 1 := by
  have h : (A.under (.builtin "type.__call__" a)).units = A.units + (Code.builtin "type.__call__" ⟨[], []⟩).cUnits := rfl
  rw [h, make_units]
end
section
open PySem PySem.W PyProof.Rows
set_option maxRecDepth 100000
set_option maxHeartbeats 1600000
variable {w : World} {p : Program} {loose : List Str} {mean : ExcName → Option Value} {mg mb : Str → Option Value}
local macro_rules | `(tactic| ktr_units) => `(tactic| ((simp only [under_make_units, units_in1, units_deeper, Around.mark_units]); omega))
local macro_rules | `(tactic| walk_at "wpAt") => `(tactic| (dsimp only; ks_step "execs cons"; refine ks_wpAt_execs_cons ?_))
local macro_rules | `(tactic| walk_at "wpAt") => `(tactic| ((with_reducible show PySem.wpAt _ _ _ (exec (Stmt.Expr (Expr.Call (Expr.Attribute (Expr.Call _ _ _ _) _ _) _ _ _) _) _) _ _ _); k_dflt (refine ks_wpAt_Expr_any ?_)))
local macro_rules | `(tactic| walk_at "wpAt") => `(tactic| ((with_reducible show PySem.wpAt _ _ _ (eval (Expr.Call (Expr.Attribute (Expr.Call _ _ _ _) _ _) _ _ _) _) _ _ _); k_dflt (refine wpAt_MethodCallK ?_)))
local macro_rules | `(tactic| walk_at "setAttr ref") => `(tactic| (k_here; k_dflt (refine' set_prop ?k1 ?k2 ?k3 ?k4 ?k5 ?k6 ?k7 ?k8 ?_; (case k1 => k_asm); (case k2 => k_asm); (case k3 => k_inst); (case k4 => k_is); (case k5 => k_is); (case k6 => k_is); (case k7 => k_is); (case k8 => k_is); (refine' code_def ?k1 ?k2 ?k3 ?k4 ?k5 ?kA ?kF ?kK ?k6 ?k7 ?k8 ?k9 ?kB ?_ ?c2 ?c3 ?c4 ?c5; (case kA => exact rfl); (case kF => exact rfl); (case kK => first | exact rfl | assumption); (case k1 => k_asm); (case k2 => k_asm); (case k3 => k_asm); (case k4 => k_asm); (case k5 => k_asm); (case k6 => k_is); (case k7 => k_is); (case k8 => ktr_room); (case k9 => first | exact BindsTo.of_eq rfl | exact binds_K (by k_in) rfl (by k_is) rfl rfl rfl); (case c5 => decide); (case kB => exact locs rfl); (case c2 => exact rfl); (case c3 => exact rfl); (case c4 => exact rfl); intro g' L' h' FG' F' N' B' X' T'; (try dsimp only); (try k_lift B'); (try k_fold)))))
local macro_rules | `(tactic| walk_at "callWith ref") => `(tactic| (k_here; k_dflt (refine' callWith_MK0 ?k1 ?k2 ?k3 ?_; (case k1 => k_meth); (case k2 => k_is); (case k3 => exact rfl))))
local macro_rules | `(tactic| walk_at "call ref") => `(tactic| (k_here; k_dflt (refine' call_meth ?k1 ?k2 ?_; (case k1 => k_asm); (case k2 => k_mem); (refine' code_def ?k1 ?k2 ?k3 ?k4 ?k5 ?kA ?kF ?kK ?k6 ?k7 ?k8 ?k9 ?kB ?_ ?c2 ?c3 ?c4 ?c5; (case kA => exact rfl); (case kF => exact rfl); (case kK => first | exact rfl | assumption); (case k1 => k_asm); (case k2 => k_asm); (case k3 => k_asm); (case k4 => k_asm); (case k5 => k_asm); (case k6 => k_is); (case k7 => k_is); (case k8 => ktr_room); (case k9 => first | exact BindsTo.of_eq rfl | exact binds_K (by k_in) rfl (by k_is) rfl rfl rfl); (case c5 => decide); (case kB => exact locs rfl); (case c2 => exact rfl); (case c3 => exact rfl); (case c4 => exact rfl); intro g' L' h' FG' F' N' B' X' T'; (try dsimp only); (try k_lift B'); (try k_fold)))))
local macro_rules | `(tactic| walk_at "call ref") => `(tactic| (k_here; (with_reducible show wpAny _ _ (call (Value.ref 158) _) _ _ _); k_dflt (refine' Tell.use ?k1 ?k2 ?k3 ?k4 ?k5 ?kK ?kT ?kd ?ku ?_; (case k1 => k_asm); (case k2 => k_asm); (case k3 => k_asm); (case k4 => k_asm); (case k5 => k_asm); (case kK => exact rfl); (case kT => exact (vu_ok (by assumption))); (case kd => ktr_room); (case ku => ktr_units)); intro v' n' h' tk' hR' F' N'; obtain ⟨h1', h2'⟩ := hR'; subst h1'; subst h2'))
/-- a public key of these octets, made ahead of news -/
def PubIs (P : Params) (b : Array UInt8) (t0 : Tok) (K : Value) (news : List (Addr × Obj)) (r : Value) (news' : List (Addr × Obj)) : Prop :=
  ∃ x d k1 k2, r = .ref x ∧ news' = (x, instObj 394 d) :: (d, dictOf [{ hash := PyData.keyHash P (Str.ofString "_raw_key"), key := .str (Str.ofString "_raw_key") k1, val := .bytes b t0 }, { hash := PyData.keyHash P (Str.ofString "_backend"), key := .str (Str.ofString "_backend") k2, val := K }] 2) :: news ∧ d < x ∧ ∀ p ∈ news, p.1 < d
theorem pk_ok {news : List (Addr × Obj)} {b : Array UInt8} {t0 : Tok} {K : Addr} (hs : (b.size : Int) = 64) :
    Tell w p loose mean mg mb 394 10 200 news [.bytes b t0, .ref K]
      (fun r news' => PubIs w.params b t0 (.ref K) news r news') := by
  unfold Tell
  intro dp un gd cn cs a' ccd cl outer A₀ base h₀ L m s Q E B F X N T hk hdp hun hret
  refine fillT _ ?_
  k_fill
  intro _
  k_dflt (refine' call_cls ?k1 ?k2 ?k3 ?k4 ?k5 ?k6 ?_; (case k1 => k_asm); (case k2 => k_asm); (case k3 => k_asm); (case k4 => k_is); (case k5 => k_is); (case k6 => k_is); intro x' d' h' F' N' l1 l2; (have l0 := l1); (try k_lt l1); (try k_lt2 l2); (refine' ks_code_super ?k1 ?k2 ?k3 ?k4 ?k5 ?kA ?kF ?kK ?k6 ?k7 ?k8 ?k9 ?kB ?_ ?c1 ?c2 ?c3 ?c4; (case kA => exact rfl); (case kF => exact rfl); (case kK => assumption); (case k1 => k_asm); (case k2 => k_asm); (case k3 => k_asm); (case k4 => k_asm); (case k5 => k_asm); (case k6 => k_is); (case k7 => k_is); (case k8 => ktr_room); (case k9 => exact binds_K (by k_in) rfl (by k_is) rfl rfl rfl); (case kB => exact locs rfl); (case c1 => decide); (case c2 => exact rfl); (case c3 => exact rfl); (case c4 => exact rfl); intro g' L' h' FG' F' N' B' X' T' l1; (try k_lt l1); (try dsimp only); (try k_lift B')))
  k_steps
  (rename Fr _ _ _ _ => kF); (rename News _ _ _ _ => kN)
  refine hret _ _ _ _ ⟨x', d', _, _, rfl, rfl, l2, l0⟩ kF (cb_drop kN (fun _ h => .tail _ (.tail _ h)))
end
section
open PySem PySem.W PyProof.Rows
open LCg
section
variable {prog : Program} {w : World} {A : Around} {E : Value → Shared → Prop} {s : Shared} {h₀ : Heap} {L : Addr} {m : Str → Option Value} {env : Env}
/-- a comprehension's turns under an invariant of the list made and of the ledger -/
theorem compInv {elt : PySem.Expr} {x : Str} {scope : Scope} {cl : List (Str × Addr)} {S : List (Addr × Obj) → Prop} {P : Nat → Value → Prop} {Fin : List Value → List (Addr × Obj) → Prop} {n : Nat} (J : Nat → List Value → List (Addr × Obj) → Prop)
    (turn : ∀ i ys news v I oI C oC D m₂ h tk (E' : Value → Shared → Prop), i < n → J i ys news → P i v → NsObj oC m₂ → m₂ x = some v → Fr h₀ L h m → News h₀ L h ((I, oI) :: (C, oC) :: (D, lst ys) :: news) → Off3 I C D news → ((@Ne Nat I C) ∧ (@Ne Nat I D) ∧ (@Ne Nat C D)) →
      wpAny (model prog w) A (eval elt (compEnvC scope cl C env)) (CompEnd h₀ L m { s with heap := h, toks := tk } I oI C oC D (lst ys) S (fun y news' => J (i + 1) (ys ++ [y]) news')) E' { s with heap := h, toks := tk })
    (fin : ∀ ys news, J n ys news → Fin ys news) : ∀ k i ys news, i + k = n → J i ys news → CompRest prog w A h₀ L m env elt x scope cl s S P Fin k i ys news
  | 0, i, ys, news, e, hJ => by
    have : i = n := by omega
    subst this
    exact CompRest.zero (fin _ _ hJ)
  | k + 1, i, ys, news, e, hJ => by
    refine CompRest.succ fun v I oI C oC D m₂ h tk E' hP hC hx F N off ne => ?_
    refine wpAny_mono (turn i ys news v I oI C oC D m₂ h tk E' (by omega) hJ hP hC hx F N off ne) (fun y s' hy => ?_) fun _ _ e => e
    obtain ⟨h', tk', news', rfl, F', N', off', hS, r⟩ := hy
    exact ⟨h', tk', news', rfl, F', N', off', hS, compInv J turn fin k (i + 1) _ _ (by omega) r⟩
theorem stFirst {name : Str} {scope : Scope} {a : Addr} {cd : Value} {x : Str} {l D c : Addr} {X Y o : Obj} {v₀ : Option Value} {v : Value} {rest : List (Addr × Obj)} {Q : Unit → Shared → Prop} {M : Model} (F : Fr h₀ L s.heap m) (N : News h₀ L s.heap ((l, X) :: (D, Y) :: (c, o) :: rest))
    (hc : (cellsFrom (L + 1) scope.names []).lookup x = some c) (hd : o.data = .cell v₀) (h1 : l ≠ c) (h2 : D ≠ c) (h3 : ∀ p ∈ rest, p.1 ≠ c)
    (h : ∀ h' o', Fr h₀ L h' m → News h₀ L h' ((l, X) :: (D, Y) :: (c, o') :: rest) → o'.data = .cell (some v) → Q () { s with heap := h' })
    (hk : scope.kind = .function := by rfl) (hl : (envOfC name scope L a cd).kindOf x = some .cell := by rfl) :
    wpAny M A (storeName (envOfC name scope L a cd) x v) Q E s :=
  stCN (own := [(l, X), (D, Y)]) F N hc hd (fun p hp => by
    rcases List.mem_cons.mp hp with rfl | hp
    · exact h1
    · rw [List.mem_singleton.mp hp]; exact h2) h3 h hk hl
/-- the octets of a list of numbers that a comprehension made -/
def Oct (ys : List Value) (n : Nat) : Prop := ∃ is : List Int, IntsAre ys is ∧ is.length = n ∧ ∀ x ∈ is, 0 ≤ x ∧ x < 256
theorem Oct.nil : Oct [] 0 := ⟨[], .nil, rfl, fun _ h => nomatch h⟩
theorem Oct.snoc {ys : List Value} {n : Nat} {x : Int} {t : Tok} (h : Oct ys n) (h0 : 0 ≤ x) (h1 : x < 256) : Oct (ys ++ [.int x t]) (n + 1) := by
  obtain ⟨is, hi, hl, hb⟩ := h
  refine ⟨is ++ [x], by simpa using (intsAre_push (t := t) (n := x) hi), by rw [List.length_append, hl]; rfl, fun y hy => ?_⟩
  rcases List.mem_append.mp hy with hy | hy
  · exact hb y hy
  · rw [List.mem_singleton.mp hy]; exact ⟨h0, h1⟩
theorem callBytes {D : Addr} {ys : List Value} {n : Nat} {news : List (Addr × Obj)} {Q : Value → Shared → Prop} (F : Fr h₀ L s.heap m) (N : News h₀ L s.heap news) (hh : A.handled = none) (hm : (D, lst ys) ∈ news) (hO : Oct ys n) (hn : n ≤ 1000)
    (h : ∀ b h' t' k, b.size = n → Fr h₀ L h' m → News h₀ L h' news → Q (.bytes b t') { s with heap := h', toks := k }) : wpAny (model prog w) A (call (.type "bytes") [.ref D]) Q E s := by
  obtain ⟨is, hi, hl, hb⟩ := hO
  refine KBa.make_K F N hh ⟨_, (N _ hm).1, rfl, _, rfl⟩ hi (fun x hx => hb x hx) (by omega) fun h' t' k F' N' _ => ?_
  refine h _ h' t' k ?_ F' N'
  exact (byteArr_size is).trans hl
end
end
section
open PySem PySem.W PyProof.Rows
open LCg
local macro_rules | `(tactic| walk_at "idle 0") => `(tactic| skip)
section
variable {prog : Program} {w : World} {A : Around} {E : Value → Shared → Prop} {s : Shared} {h₀ : Heap} {L : Addr} {m : Str → Option Value} {env : Env}
theorem compTake {elt : PySem.Expr} {x : Str} {scope : Scope} {cl : List (Str × Addr)} {Fin : List Value → List (Addr × Obj) → Prop} {a at0 : Int} {l D : Addr} {n k : Nat} {ws : Array Value} {ta0 : Tok} {rest : List (Addr × Obj)}
    (turn : ∀ (i : Nat) ys ta t I oI C oC D' m₂ h tk (E' : Value → Shared → Prop), i < 64 → Oct ys i → NsObj oC m₂ → m₂ x = some (.int (a + (i : Int)) t) → Fr h₀ L h m → News h₀ L h ((I, oI) :: (C, oC) :: (D', lst ys) :: (l, W.listOf #[.ref D, .int (at0 + (i : Int)) ta] n) :: (D, W.listOf ws k) :: rest) →
      Off3 I C D' ((l, W.listOf #[.ref D, .int (at0 + (i : Int)) ta] n) :: (D, W.listOf ws k) :: rest) → ((@Ne Nat I C) ∧ (@Ne Nat I D') ∧ (@Ne Nat C D')) →
      wpAny (model prog w) A (eval elt (compEnvC scope cl C env)) (CompEnd h₀ L m { s with heap := h, toks := tk } I oI C oC D' (lst ys) (fun _ => True) (fun y news' => Oct (ys ++ [y]) (i + 1) ∧ ∃ ta, news' = (l, W.listOf #[.ref D, .int (at0 + (i : Int) + 1) ta] n) :: (D, W.listOf ws k) :: rest)) E' { s with heap := h, toks := tk })
    (fin : ∀ ys ta, Oct ys 64 → Fin ys ((l, W.listOf #[.ref D, .int (at0 + 64) ta] n) :: (D, W.listOf ws k) :: rest)) :
    CompRest prog w A h₀ L m env elt x scope cl s (fun _ => True) (fun i v => ∃ t, v = .int (a + (i : Int)) t) Fin 64 0 [] ((l, W.listOf #[.ref D, .int at0 ta0] n) :: (D, W.listOf ws k) :: rest) := by
  refine compInv (n := 64) (fun i ys nw => Oct ys i ∧ ∃ ta, nw = (l, W.listOf #[.ref D, .int (at0 + (i : Int)) ta] n) :: (D, W.listOf ws k) :: rest) ?_ ?_ 64 0 [] _ rfl ⟨Oct.nil, ta0, by simp⟩
  · rintro i ys _ v I oI C oC D' m₂ h tk E' hi ⟨hO, ta, rfl⟩ ⟨t, rfl⟩ hC hx F N off ne
    refine wpAny_mono (turn i ys ta t I oI C oC D' m₂ h tk E' hi hO hC hx F N off ne) (fun y s' hy => ?_) fun _ _ e => e
    obtain ⟨h', tk', news', e, F', N', off', hS, hO', ta', r⟩ := hy
    refine ⟨h', tk', news', e, F', N', off', hS, hO', ta', ?_⟩
    rw [r, show (at0 + (((i + 1 : Nat)) : Int)) = at0 + (i : Int) + 1 by omega]
  · rintro ys _ ⟨hO, ta, rfl⟩
    exact fin ys ta hO
theorem compFix {elt : PySem.Expr} {x : Str} {scope : Scope} {cl : List (Str × Addr)} {Fin : List Value → List (Addr × Obj) → Prop} {a : Int} {news : List (Addr × Obj)}
    (turn : ∀ (i : Nat) ys t I oI C oC D' m₂ h tk (E' : Value → Shared → Prop), i < 64 → Oct ys i → NsObj oC m₂ → m₂ x = some (.int (a + (i : Int)) t) → Fr h₀ L h m → News h₀ L h ((I, oI) :: (C, oC) :: (D', lst ys) :: news) →
      Off3 I C D' news → ((@Ne Nat I C) ∧ (@Ne Nat I D') ∧ (@Ne Nat C D')) →
      wpAny (model prog w) A (eval elt (compEnvC scope cl C env)) (CompEnd h₀ L m { s with heap := h, toks := tk } I oI C oC D' (lst ys) (fun _ => True) (fun y news' => Oct (ys ++ [y]) (i + 1) ∧ news' = news)) E' { s with heap := h, toks := tk })
    (fin : ∀ ys, Oct ys 64 → Fin ys news) :
    CompRest prog w A h₀ L m env elt x scope cl s (fun _ => True) (fun i v => ∃ t, v = .int (a + (i : Int)) t) Fin 64 0 [] news := by
  refine compInv (n := 64) (fun i ys nw => Oct ys i ∧ nw = news) ?_ ?_ 64 0 [] _ rfl ⟨Oct.nil, rfl⟩
  · rintro i ys _ v I oI C oC D' m₂ h tk E' hi ⟨hO, rfl⟩ ⟨t, rfl⟩ hC hx F N off ne
    exact turn i ys t I oI C oC D' m₂ h tk E' hi hO hC hx F N off ne
  · rintro ys _ ⟨hO, rfl⟩
    exact fin ys hO
end
section
variable {w : World} {p : Program} {loose : List Str} {mean : ExcName → Option Value} {mg mb : Str → Option Value}
    {dp un : Nat} {gd : Option (List Code)} {cn : Str} {cs : Scope} {a : Addr} {ccd : Value} {cl : List (Str × Addr)} {outer : List Env} {A₀ : Around} {base h₀ : Heap} {L : Addr} {m : Str → Option Value} {s : Shared} {Q E : Value → Shared → Prop}
theorem take_use3 {I C D' : Addr} {oI oC oD : Obj} {rest : List (Addr × Obj)} {l D : Addr} {ws : List Value} {ns : List Int} {k n : Nat} {at0 many : Int} {t u : Tok}
    (B : Below A₀ base outer h₀) (F : Fr h₀ L s.heap m) (X : (hd.heap_39 w.params).In h₀) (N : News h₀ L s.heap ((I, oI) :: (C, oC) :: (D', oD) :: (l, W.listOf #[.ref D, .int at0 t] n) :: (D, W.listOf ws.toArray k) :: rest)) (T : Top p loose mean mg mb h₀) (hk : cs.kind = .function)
    (hD : D ≠ l) (hI : IntsAre ws ns) (hn : ns.length ≤ 70) (h0 : 0 ≤ at0) (h1 : at0 < 1000) (hm : 0 < many) (hm2 : many < 1000)
    (off : Off3 I C D' ((l, W.listOf #[.ref D, .int at0 t] n) :: (D, W.listOf ws.toArray k) :: rest)) (hrest : ∀ q ∈ rest, q.1 ≠ l) (hd : dp + 1 < recursionLimit) (hu : un + 8 < cLine)
    (ret : ∀ x tv ta h' tk', 0 ≤ x → x < many → Fr h₀ L h' m → News h₀ L h' ((I, oI) :: (C, oC) :: (D', oD) :: (l, W.listOf #[.ref D, .int (at0 + 1) ta] n) :: (D, W.listOf ws.toArray k) :: rest) → Q (.int x tv) { s with heap := h', toks := tk' }) :
    wpAny (model PySem.Challenge.pw_vj0010_01 w) (ktrTop dp un gd cn cs L a ccd cl outer) (call (.ref 648) [.ref l, .int many u]) Q E s := by
  have N1 : News h₀ L s.heap ((l, W.listOf #[.ref D, .int at0 t] n) :: (D, W.listOf ws.toArray k) :: (I, oI) :: (C, oC) :: (D', oD) :: rest) := by
    intro q hq
    apply N q
    simp only [List.mem_cons] at hq ⊢
    rcases hq with h | h | h | h | h | h <;> simp [h]
  refine Tell.use B F X N1 T hk (take_ok hD hI hn h0 h1 hm hm2 ?_) hd hu ?_
  · intro q hq
    have o := off.1
    rcases List.mem_cons.mp hq with rfl | hq
    · exact Ne.symm o.1
    rcases List.mem_cons.mp hq with rfl | hq
    · exact Ne.symm o.2.1
    rcases List.mem_cons.mp hq with rfl | hq
    · exact Ne.symm o.2.2
    · exact hrest q hq
  · rintro v news' h' tk' ⟨x, tv, ta, rfl, hx0, hx1, rfl⟩ F' N'
    refine ret x tv ta h' tk' hx0 hx1 F' ?_
    intro q hq
    apply N' q
    simp only [List.mem_cons] at hq ⊢
    rcases hq with h | h | h | h | h | h <;> simp [h]
end
end
section
open PySem PySem.W PyProof.Rows
open PySem.Builtin.Int (intBits)
set_option maxRecDepth 100000
set_option maxHeartbeats 800000
local macro_rules | `(tactic| walk_at "idle 0") => `(tactic| skip)
local macro_rules | `(tactic| walk_at "idle 1") => `(tactic| skip)
section
variable {prog : Program} {w : World} {M : Model} {A : Around} {E : Value → Shared → Prop} {s : Shared} {h₀ : Heap} {L : Addr} {m : Str → Option Value} {news : List (Addr × Obj)}
/-- the number that the octets say, the greatest first -/
def beN (b : Array UInt8) : Nat := b.toList.foldl (fun (acc : Nat) (b : UInt8) => acc * 256 + b.toNat) 0
theorem beN_lt (b : Array UInt8) : beN b < 256 ^ b.size := by
  have h := KFB.fold_lt b.toList 0
  rw [Array.length_toList, Nat.zero_add, Nat.one_mul] at h
  exact h
theorem tree_beW {b : Array UInt8} {t u : Tok} {P : Fin → Shared → Prop} (hl : b.size ≤ 100) (h : P (.done (.ret (.int (beN b : Int) s.toks))) { s with toks := s.toks + 1 }) :
    wpAny M A (Builtin.«int.from_bytes» ⟨[.type "int", .bytes b t, .str (PySem.Str.ofString "big") u], []⟩) P E s := by
  have hn : beN b < 2 ^ 1000 := by
    have h1 := beN_lt b
    have h2 : 256 ^ b.size ≤ 256 ^ 100 := Nat.pow_le_pow_right (by decide) hl
    have e : (256 : Nat) ^ 100 = (2 ^ 8) ^ 100 := by decide +kernel
    have h3 : (2 ^ 8) ^ 100 ≤ 2 ^ 1000 := by rw [← Nat.pow_mul]; exact Nat.pow_le_pow_right (by decide) (by decide)
    exact Nat.lt_of_lt_of_le h1 (Nat.le_trans h2 (e ▸ h3))
  unfold Builtin.«int.from_bytes»
  refine wpAny_bind (wpAny_of_eq (a := true) KFB.type_int ?_)
  refine KFB.if_not rfl ?_
  refine wpAny_bind (wpAny_of_eq (a := true) F.conv_sub_int ?_)
  refine KFB.if_not rfl ?_
  refine wpAny_bind (wpAny_of_eq (a := [some (.bytes b t), some (.str (PySem.Str.ofString "big") u), none]) (by kernel_rfl) ?_)
  refine wpAny_bind (wpAny_of_eq (a := PySem.Str.ofString "big") (by kernel_rfl) ?_)
  refine wpAny_bind (wpAny_of_eq (a := false) rfl ?_)
  refine wpAny_bind (wpAny_of_eq (a := false) (by kernel_rfl) ?_)
  refine wpAny_bind (wpAny_of_eq (a := b) rfl ?_)
  show wpAny _ _ (mkIntGrown (b.toList.foldl (fun (acc : Int) (b : UInt8) => acc * 256 + (b.toNat : Int)) ((0 : Nat) : Int)) >>= fun v => _) _ _ _
  rw [KFB.foldI_eq]
  refine wpAny_bind (grownW hn ?_)
  refine KFB.if_so (by decide +kernel) ?_
  exact wpAny_bind (wpAny_pure (wpAny_pure h))
theorem beCall {x : Addr} {b : Array UInt8} {t u : Tok} {n : Nat} {Q : Value → Shared → Prop} (N : News h₀ L s.heap news) (hm : (x, KFB.bound) ∈ news) (hb : b.size = n) (hl : n ≤ 100)
    (h : ∀ t' k, Q (.int (beN b : Int) t') { s with toks := k }) : wpAny (model prog w) A (call (.ref x) [.bytes b t, .str (PySem.Str.ofString "big") u]) Q E s :=
  KFB.call_of (KFB.at_of N hm) (fun z => tree_beW (by rw [hb]; exact hl) z) (h _ _)
def toBe (x : Int) (k : Nat) : Array UInt8 := (KTBy.low x k).reverse.toArray
theorem toBe_size (x : Int) (k : Nat) : (toBe x k).size = k := by unfold toBe; rw [List.size_toArray, List.length_reverse, KTBy.low_length]
theorem small_all : ((List.range 31).all fun n => beN (toBe (n : Int) 32) == n) = true := by decide +kernel
theorem beN_toBe {x : Int} (h0 : 0 ≤ x) (h1 : x < 31) : (beN (toBe x 32) : Int) = x := by
  have h := List.all_eq_true.mp small_all x.toNat (List.mem_range.mpr (by omega))
  have e : ((x.toNat : Nat) : Int) = x := Int.toNat_of_nonneg h0
  rw [e] at h
  have := eq_of_beq h
  rw [this, e]
theorem toBe_call {x z : Int} {k : Nat} {t u v : Tok} {Q : Value → Shared → Prop} (ez : (k : Int) = z) (hk : k ≤ 1000) (h0 : 0 ≤ x) (hb : intBits x ≤ 8 * k) (h : ∀ t' k', Q (.bytes (toBe x k) t') { s with toks := k' }) :
    wpAny (model prog w) A (call (.builtin "int.to_bytes") [.int x t, .int z u, .str (PySem.Str.ofString "big") v]) Q E s := by
  subst ez
  refine wpAny_call_entry KTBy.slot (typeIs_int s x t) KTBy.entry ?_ (KTBy.args _ _ _)
  show wpAny _ _ (Builtin.Int.intOfSelf (.int x t) >>= fun y => _) _ _ s
  refine wpAny_bind (wpAny_of_eq (a := x) rfl ?_)
  show wpAny _ _ (Builtin.Int.intBindNamed "to_bytes" ["length", "byteorder", "signed"] 0 2 [.int (k : Int) u, .str (PySem.Str.ofString "big") v] [] >>= fun l => _) _ _ s
  refine wpAny_bind (wpAny_of_eq (a := [some (.int (k : Int) u), some (.str (PySem.Str.ofString "big") v), none]) (by kernel_rfl) ?_)
  show wpAny _ _ (Builtin.Int.intIndex "int.to_bytes" (.int (k : Int) u) >>= fun n => _) _ _ s
  refine wpAny_bind (wpAny_of_eq (a := (k : Int)) rfl ?_)
  refine KFB.if_not (by show (decide ((k : Int) < -(2 ^ 63 : Int)) || decide ((k : Int) ≥ 2 ^ 63)) = false; rw [decide_eq_false (show ¬ ((k : Int) < -(2 ^ 63 : Int)) by omega), decide_eq_false (show ¬ ((k : Int) ≥ 2 ^ 63) by omega)]; rfl) ?_
  refine wpAny_bind (wpAny_of_eq (a := PySem.Str.ofString "big") (by kernel_rfl) ?_)
  refine wpAny_bind (wpAny_of_eq (a := false) rfl ?_)
  refine wpAny_bind (wpAny_of_eq (a := false) (by kernel_rfl) ?_)
  refine wpAny_ite_false (decide_eq_false (show ¬ ((k : Int) < 0) by omega)) ?_
  refine wpAny_ite_false (decide_eq_false (show ¬ ((k : Int) > 2 ^ 63 - 1 - 33) by omega)) ?_
  refine wpAny_ite_false (decide_eq_false (show ¬ ((k : Int) > (sizeLine : Int)) by rw [sizeLine_eq]; omega)) ?_
  refine KFB.if_not (by show (decide (x < 0) && !false) = false; rw [decide_eq_false (show ¬ x < 0 by omega)]; rfl) ?_
  refine KFB.if_not (by show (_ && decide ((intBits x : Int) > 8 * (k : Int))) = false; rw [decide_eq_false (show ¬ ((intBits x : Int) > 8 * (k : Int)) by omega), Bool.and_false]) ?_
  refine wpAny_bind (wpAny_mkBytes (wpAny_pure ⟨_, rfl, ?_⟩) (by show (KTBy.low x (Int.toNat (k : Int))).reverse.length ≤ sizeLine; rw [List.length_reverse, KTBy.low_length, Int.toNat_natCast, sizeLine_eq]; omega))
  exact h _ _
end
end
section
open PySem PySem.W PyProof.Rows
set_option maxRecDepth 100000
set_option maxHeartbeats 800000
local macro_rules | `(tactic| walk_at "idle 0") => `(tactic| skip)
local macro_rules | `(tactic| walk_at "idle 1") => `(tactic| skip)
local macro_rules | `(tactic| walk_at "idle 2") => `(tactic| skip)
theorem slot_rjust : Slot "bytes" "rjust" "bytes.rjust" :=
  .of (owner := "bytes") (n := "rjust") (by rw [typeLookup_type, builtinLookup_eq_fast]; kernel_rfl) (by decide +kernel) (by decide +kernel) (by decide +kernel)
    (by first | exact .inl (by decide +kernel) | exact .inr (by decide +kernel)) (by rw [isSubtype_type]; kernel_rfl)
theorem type_rjust : typeOf (.builtin "bytes.rjust") = pure (.type "method_descriptor") := by show builtinType _ = _; rw [builtinType_eq_fast]; kernel_rfl
theorem entry_rjust : entryFor table "bytes.rjust" = some Builtin.«bytes.rjust» := entryFor_of_tree (by kernel_rfl)
theorem args_rjust (a b c : Value) : argsOk "bytes.rjust" ⟨[a, b, c], []⟩ := by
  unfold argsOk; rw [signature?_of (id := "bytes.rjust") (n := ['t', 's', 'u', 'j', 'r']) (o := ['s', 'e', 't', 'y', 'b']) (by kernel_rfl) FB.owner_bytes]; kernel_rfl
theorem slot_bjoin : Slot "bytes" "join" "bytes.join" :=
  .of (owner := "bytes") (n := "join") (by rw [typeLookup_type, builtinLookup_eq_fast]; kernel_rfl) (by decide +kernel) (by decide +kernel) (by decide +kernel)
    (by first | exact .inl (by decide +kernel) | exact .inr (by decide +kernel)) (by rw [isSubtype_type]; kernel_rfl)
theorem type_bjoin : typeOf (.builtin "bytes.join") = pure (.type "method_descriptor") := by show builtinType _ = _; rw [builtinType_eq_fast]; kernel_rfl
theorem entry_bjoin : entryFor table "bytes.join" = some Builtin.«bytes.join» := entryFor_of_tree (by kernel_rfl)
theorem args_bjoin (a b : Value) : argsOk "bytes.join" ⟨[a, b], []⟩ := by
  unfold argsOk; rw [signature?_of (id := "bytes.join") (n := ['n', 'i', 'o', 'j']) (o := ['s', 'e', 't', 'y', 'b']) (by kernel_rfl) FB.owner_bytes]; kernel_rfl
section
variable {prog : Program} {w : World} {M : Model} {A : Around} {E : Value → Shared → Prop} {s : Shared} {b : Array UInt8} {t u v : Tok}
theorem getRjust {pl : Sem Bool} {Q : Value × List Value → Shared → Prop} (h : Q (.builtin "bytes.rjust", [.bytes b t]) s) : wpAny (model prog w) A (getMethod (.bytes b t) (Str.ofString "rjust") pl) Q E s := by
  exact getMethod_builtin (typeIs_bytes s b t) FB.plainAttrs_bytes slot_rjust type_rjust (fun _ e => nomatch e) h
theorem getBjoin {pl : Sem Bool} {Q : Value × List Value → Shared → Prop} (h : Q (.builtin "bytes.join", [.bytes b t]) s) : wpAny (model prog w) A (getMethod (.bytes b t) (Str.ofString "join") pl) Q E s := by
  exact getMethod_builtin (typeIs_bytes s b t) FB.plainAttrs_bytes slot_bjoin type_bjoin (fun _ e => nomatch e) h
theorem callRjust {c : UInt8} {n : Int} {Q : Value → Shared → Prop} (en : n = 32) (hs : b.size ≤ 32) (h : ∀ b' t' k, b'.size = 32 → Q (.bytes b' t') { s with toks := k }) :
    wpAny (model prog w) A (call (.builtin "bytes.rjust") [.bytes b t, .int n u, .bytes #[c] v]) Q E s := by
  subst en
  refine wpAny_call_entry slot_rjust (typeIs_bytes s b t) entry_rjust ?_ (args_rjust _ _ _)
  unfold Builtin.«bytes.rjust» Builtin.Bytes.padM
  refine wpAny_bind (wpAny_of_eq (a := (.bytes b t, [.int 32 u, .bytes #[c] v])) (by first | rfl | kernel_rfl) ?_)
  refine wpAny_bind (wpAny_of_eq (a := (32 : Int)) (by first | rfl | kernel_rfl) ?_)
  refine wpAny_bind (wpAny_of_eq (a := some #[c]) (by first | rfl | kernel_rfl) ?_)
  dsimp only
  refine wpAny_bind (wpAny_pure ?_)
  refine wpAny_bind (wpAny_of_eq (a := b) (by first | rfl | kernel_rfl) ?_)
  by_cases hb : (32 : Int) ≤ b.size
  · refine wpAny_ite_true (decide_eq_true hb) ?_
    refine wpAny_bind (wpAny_rule ?_)
    refine wpAny_bind (wpAny_pure ?_)
    refine wpAny_pure ⟨_, rfl, ?_⟩
    have e : b.size = 32 := by omega
    exact h b t s.toks e
  · refine wpAny_ite_false (decide_eq_false hb) ?_
    dsimp only
    refine wpAny_ite (KPc.ite_no (by decide +kernel) ?_)
    refine wpAny_bind (wpAny_mkBytes ?_ ?_)
    · refine wpAny_pure ⟨_, rfl, h _ _ _ ?_⟩
      simp only [Array.size_append, Array.size_replicate]
      have e : (Int.toNat 32) = 32 := rfl
      omega
    · simp only [Array.size_append, Array.size_replicate, sizeLine_eq]
      have e : (Int.toNat 32) = 32 := rfl
      omega
end
end
section
open PySem PySem.W PyProof.Rows
set_option maxRecDepth 100000
set_option maxHeartbeats 800000
local macro_rules | `(tactic| walk_at "idle 0") => `(tactic| skip)
local macro_rules | `(tactic| walk_at "idle 1") => `(tactic| skip)
local macro_rules | `(tactic| walk_at "idle 2") => `(tactic| skip)
local macro_rules | `(tactic| walk_at "idle 3") => `(tactic| skip)
section
variable {prog : Program} {w : World} {M : Model} {A : Around} {E : Value → Shared → Prop} {s : Shared} {b : Array UInt8} {t u v : Tok}
theorem look_buffer : typeLookup (.type "bytes") "__buffer__" = pure (some (.builtin "bytes.__buffer__")) := by rw [typeLookup_type, builtinLookup_eq_fast]; kernel_rfl
theorem look_release : typeLookup (.type "bytes") "__release_buffer__" = pure none := by rw [typeLookup_type, builtinLookup_eq_fast]; kernel_rfl
theorem inst_bytes : isInstance (.bytes b t) (.type "bytes") = pure true := by
  first | kernel_rfl | (unfold isInstance; simp only [isSubtype_type]; kernel_rfl)
theorem ownB {Q : Bool → Shared → Prop} (h : Q true s) : wpAny M A (Builtin.Bytes.slotIsOwn (.bytes b t) "__buffer__") Q E s := by
  unfold Builtin.Bytes.slotIsOwn
  refine wpAny_bind (wpAny_specialOf (typeIs_bytes s b t) look_buffer ?_)
  dsimp only
  refine wpAny_ite (KPc.ite_no (by decide +kernel) ?_)
  rw [show ("bytes.__buffer__".dropRight ("__buffer__".length + 1)) = "bytes" by decide +kernel]
  exact wpAny_of_eq inst_bytes h
theorem ownR {Q : Bool → Shared → Prop} (h : Q false s) : wpAny M A (Builtin.Bytes.ownRelease (.bytes b t)) Q E s := by
  unfold Builtin.Bytes.ownRelease Builtin.Bytes.slotIsOwn
  refine wpAny_bind (wpAny_bind (wpAny_specialOf (typeIs_bytes s b t) look_release ?_))
  exact wpAny_pure (wpAny_pure h)
theorem bufB {id : String} {f : Bool} {Q : Option (Array UInt8) → Shared → Prop} (h : Q (some b) s) : wpAny (model prog w) A (Builtin.Bytes.buffer? id (.bytes b t) f) Q E s := by
  unfold Builtin.Bytes.buffer?
  refine wpAny_bind (wpAny_specialOf (typeIs_bytes s b t) look_buffer ?_)
  dsimp only
  refine wpAny_bind (ownB ?_)
  refine wpAny_ite (KPc.ite_no (by decide) ?_)
  refine wpAny_bind (wpAny_specialOf (typeIs_bytes s b t) look_buffer ?_)
  refine wpAny_bind (ownR ?_)
  refine wpAny_ite (KPc.ite_no (by decide) ?_)
  refine wpAny_bind (wpAny_of_eq (a := b) (by first | rfl | kernel_rfl) ?_)
  exact wpAny_pure h
theorem takeB {id : String} {Q : Option (Array UInt8 × Option Value) → Shared → Prop} (h : Q (some (b, none)) s) : wpAny (model prog w) A (Builtin.Bytes.takeBufferQuiet? id (.bytes b t) 0) Q E s := by
  unfold Builtin.Bytes.takeBufferQuiet? Builtin.Bytes.takeBuffer?
  refine wpAny_bind (wpAny_attempt ?_)
  refine wpAny_bind (wpAny_specialOf (typeIs_bytes s b t) look_buffer ?_)
  dsimp only
  refine wpAny_bind (ownB ?_)
  refine wpAny_ite (KPc.ite_no (by decide) ?_)
  refine wpAny_bind (wpAny_specialOf (typeIs_bytes s b t) look_buffer ?_)
  refine wpAny_bind (bufB ?_)
  exact wpAny_pure (wpAny_pure h)
theorem letGo1 {x : Value} {keep : List Value} {Q : Unit → Shared → Prop} (h : Q () s) : wpAny M A (letGo [x] keep) Q E s := by
  unfold letGo
  refine wpAny_bind (wpAny_holding (wpAny_point ?_))
  unfold letGo
  exact wpAny_pure h
theorem joinLG0 {keep : List Value} {Q : Unit → Shared → Prop} (h : Q () s) : wpAny M A (Builtin.Bytes.joinLetGo [] keep) Q E s := by
  unfold Builtin.Bytes.joinLetGo
  exact wpAny_pure h
theorem joinLG1 {x : Value} {keep : List Value} {Q : Unit → Shared → Prop} {r : List (Value × Option Value)} (h : wpAny M A (Builtin.Bytes.joinLetGo r keep) Q E s) : wpAny M A (Builtin.Bytes.joinLetGo ((x, none) :: r) keep) Q E s := by
  unfold Builtin.Bytes.joinLetGo
  exact wpAny_bind (letGo1 h)
theorem joinLG2 {x₁ x₂ : Value} {keep : List Value} {Q : Unit → Shared → Prop} (h : Q () s) : wpAny M A (Builtin.Bytes.joinLetGo [(x₁, none), (x₂, none)] keep) Q E s := joinLG1 (joinLG1 (joinLG0 h))
theorem callBjoin {D : Addr} {o : Obj} {n : Nat} {b1 b2 : Array UInt8} {t1 t2 : Tok} {Q : Value → Shared → Prop} (hd : s.heap.get? D = some o) (hc : o.cls = .type "tuple") (hq : o.data = .seq #[.bytes b1 t1, .bytes b2 t2] n) (h1 : b1.size = 32) (h2 : b2.size = 32) (h : ∀ b' t' k, b'.size = 64 → Q (.bytes b' t') { s with toks := k }) :
    wpAny (model prog w) A (call (.builtin "bytes.join") [.bytes #[] t, .ref D]) Q E s := by
  refine wpAny_call_entry slot_bjoin (typeIs_bytes s #[] t) entry_bjoin ?_ (args_bjoin _ _)
  unfold Builtin.«bytes.join» Builtin.Bytes.joinM
  refine wpAny_bind (wpAny_of_eq (a := (.bytes #[] t, .ref D)) (by first | rfl | kernel_rfl) ?_)
  dsimp only
  refine wpAny_ite (KPc.ite_yes (by decide) ?_)
  refine wpAny_bind ?_
  unfold Builtin.Bytes.joinItems
  refine wpAny_bind (wpAny_typeOf ⟨o, hd, hc⟩ ?_)
  refine wpAny_ite (KPc.ite_yes (by decide +kernel) ?_)
  refine wpAny_pure ?_
  refine wpAny_bind (wpAny_seqItems hd hq ?_)
  dsimp only
  refine wpAny_ite (KPc.ite_yes (by decide) ?_)
  refine wpAny_bind (Q := fun r s' => _) ?_
  show wpAny _ _ (forIn [:2] _ _) _ _ _
  rw [KPc.range_list]
  refine KPc.turn ?_
  dsimp only
  refine wpAny_bind (wpAny_seqItems hd hq ?_)
  dsimp only
  refine wpAny_ite (KPc.ite_no (by simp) ?_)
  refine wpAny_bind (wpAny_holding (takeB (b := b1) (t := t1) ?_))
  dsimp only
  refine wpAny_bind (wpAny_seqItems hd hq ?_)
  dsimp only
  refine wpAny_ite (KPc.ite_no (by simp) ?_)
  refine wpAny_pure ?_
  dsimp only
  refine KPc.turn ?_
  dsimp only
  refine wpAny_bind (wpAny_seqItems hd hq ?_)
  dsimp only
  refine wpAny_ite (KPc.ite_no (show ¬ (false = true) from Bool.false_ne_true) ?_)
  refine wpAny_bind (wpAny_holding (takeB (b := b2) (t := t2) ?_))
  dsimp only
  refine wpAny_bind (wpAny_seqItems hd hq ?_)
  dsimp only
  refine wpAny_ite (KPc.ite_no (by simp) ?_)
  refine wpAny_pure ?_
  dsimp only
  rw [List.range'_zero, List.forIn_nil]
  refine wpAny_pure ?_
  dsimp only
  refine wpAny_bind (wpAny_of_eq (a := #[]) (by first | rfl | kernel_rfl) ?_)
  have ez : (Builtin.Bytes.joined #[] ((#[].push b1).push b2).toList).size = 64 := by
    unfold Builtin.Bytes.joined
    simp [h1, h2]
  refine wpAny_ite (KPc.ite_no (by simp [Builtin.Bytes.tooLong, h1, h2, sizeLine_eq]) ?_)
  refine wpAny_bind (wpAny_mkBytes ?_ (by rw [ez, sizeLine_eq]; decide))
  refine wpAny_bind (wpAny_holding (wpAny_point ?_))
  refine wpAny_bind ?_
  refine joinLG2 (x₁ := .bytes b1 t1) (x₂ := .bytes b2 t2) ?_
  exact wpAny_pure ⟨_, rfl, h _ _ _ ez⟩
end
end
section
open PySem PySem.W PyProof.Rows
set_option maxRecDepth 100000
set_option maxHeartbeats 1600000
local macro_rules | `(tactic| walk_at "idle 0") => `(tactic| skip)
local macro_rules | `(tactic| walk_at "idle 1") => `(tactic| skip)
local macro_rules | `(tactic| walk_at "idle 2") => `(tactic| skip)
local macro_rules | `(tactic| walk_at "idle 3") => `(tactic| skip)
variable {w : World} {p : Program} {loose : List Str} {mean : ExcName → Option Value} {mg mb : Str → Option Value}
open PySem.Builtin.Int (intBits)
local macro_rules | `(tactic| walk_at "call ref") => `(tactic| (k_here; (with_reducible show wpAny _ _ (call (Value.ref _) [Value.bytes _ _, Value.str _ _]) _ _ _); k_dflt (refine beCall (by k_asm) (by k_mem) (by with_reducible assumption) (by decide) ?_); intro _ _))
theorem bi_ok {news : List (Addr × Obj)} {b : Array UInt8} {t0 : Tok} (hs : b.size = 32) :
    Tell w p loose mean mg mb 42 1 20 news [.bytes b t0]
      (fun r news' => ∃ t, r = .int (beN b : Int) t ∧ news' = news) := by
  unfold Tell
  intro dp un gd cn cs a' ccd cl outer A₀ base h₀ L m s Q E B F X N T hk hdp hun hret
  refine fillT _ ?_
  k_fill
  intro _
  refine wpAny_call ?_
  k_dflt cell_enter
  k_steps
  all_goals
    (rename Fr _ _ _ _ => kF); (rename News _ _ _ _ => kN)
    exact hret _ _ _ _ ⟨_, rfl, rfl⟩ kF (cb_drop kN (fun _ h => .tail _ h))
local macro_rules | `(tactic| walk_at "call builtin:int.to_bytes") => `(tactic| (k_here; k_dflt (refine toBe_call (k := 32) (by decide) (by decide) (by with_reducible assumption) (by with_reducible assumption) ?_); intro _ _))
theorem lo_ok {news : List (Addr × Obj)} {n : Int} {t0 : Tok} (h0 : 0 ≤ n) (hb : intBits n ≤ 8 * 32) :
    Tell w p loose mean mg mb 655 1 20 news [.int n t0]
      (fun r news' => ∃ t, r = .bytes (toBe n 32) t ∧ news' = news) := by
  unfold Tell
  intro dp un gd cn cs a' ccd cl outer A₀ base h₀ L m s Q E B F X N T hk hdp hun hret
  refine fillT _ ?_
  k_fill
  intro _
  refine wpAny_call ?_
  k_dflt cell_enter
  k_steps
  all_goals
    (rename Fr _ _ _ _ => kF); (rename News _ _ _ _ => kN)
    exact hret _ _ _ _ ⟨_, rfl, rfl⟩ kF kN
local macro_rules | `(tactic| walk_at "getMethod") => `(tactic| (k_here; (with_reducible show wpAny _ _ (getMethod (Value.bytes _ _) (Str.ofString "rjust") _) _ _ _); k_dflt (refine getRjust ?_)))
local macro_rules | `(tactic| walk_at "call builtin:bytes.rjust") => `(tactic| (k_here; k_dflt (refine callRjust (by decide) (by with_reducible assumption) ?_); intro b' t' k' hb'))
theorem pad_ok {news : List (Addr × Obj)} {b : Array UInt8} {t0 : Tok} (hs : b.size ≤ 32) :
    Tell w p loose mean mg mb 108 1 20 news [.bytes b t0]
      (fun r news' => ∃ b' t, b'.size = 32 ∧ r = .bytes b' t ∧ news' = news) := by
  unfold Tell
  intro dp un gd cn cs a' ccd cl outer A₀ base h₀ L m s Q E B F X N T hk hdp hun hret
  refine fillT _ ?_
  k_fill
  intro _
  refine wpAny_call ?_
  k_dflt cell_enter
  k_steps
  all_goals
    (rename Fr _ _ _ _ => kF); (rename News _ _ _ _ => kN)
    exact hret _ _ _ _ ⟨_, _, by assumption, rfl, rfl⟩ kF kN
end
section
open PySem PySem.W PyProof.Rows
set_option maxRecDepth 100000
set_option maxHeartbeats 1600000
local macro_rules | `(tactic| walk_at "idle 0") => `(tactic| skip)
local macro_rules | `(tactic| walk_at "idle 1") => `(tactic| skip)
variable {w : World} {p : Program} {loose : List Str} {mean : ExcName → Option Value} {mg mb : Str → Option Value}
open PySem.Builtin.Int (intBits)
theorem toBe_gen {prog : Program} {w : World} {A : Around} {E : Value → Shared → Prop} {s : Shared} {x z : Int} {t u v : Tok} {Q : Value → Shared → Prop} (h0 : 0 ≤ x) (z0 : 0 ≤ z) (z1 : z ≤ 32) (hb : (intBits x : Int) ≤ 8 * z) (h : ∀ b t' k', b.size ≤ 32 → Q (.bytes b t') { s with toks := k' }) :
    wpAny (model prog w) A (call (.builtin "int.to_bytes") [.int x t, .int z u, .str (PySem.Str.ofString "big") v]) Q E s :=
  toBe_call (k := z.toNat) (by omega) (by omega) h0 (by omega) fun t' k' => h _ t' k' (by rw [toBe_size]; omega)
local macro_rules | `(tactic| walk_at "call builtin:int.to_bytes") => `(tactic| (k_here; k_dflt (refine toBe_gen (by with_reducible assumption) (by first | with_reducible assumption | decide) (by first | with_reducible assumption | decide) (by first | with_reducible assumption | omega) ?_); intro b' t' k' hb'))
theorem itb_ok {news : List (Addr × Obj)} {n : Int} {t0 : Tok} (h0 : 0 ≤ n) (hb : intBits n ≤ 256) :
    Tell w p loose mean mg mb 49 1 20 news [.int n t0]
      (fun r news' => ∃ b t, b.size ≤ 32 ∧ r = .bytes b t ∧ news' = news) := by
  unfold Tell
  intro dp un gd cn cs a' ccd cl outer A₀ base h₀ L m s Q E B F X N T hk hdp hun hret
  refine fillT _ ?_
  k_fill
  intro _
  refine wpAny_call ?_
  k_dflt cell_enter
  have e9 : ((intBits n : Int) + 7).fdiv 8 = ((intBits n : Int) + 7) / 8 := Int.fdiv_eq_ediv_of_nonneg _ (by decide)
  have z0 : 0 ≤ ((intBits n : Int) + 7).fdiv 8 := by omega
  have z1 : ((intBits n : Int) + 7).fdiv 8 ≤ 32 := by omega
  have z2 : (intBits n : Int) ≤ 8 * ((intBits n : Int) + 7).fdiv 8 := by omega
  k_steps
  all_goals
    (rename Fr _ _ _ _ => kF); (rename News _ _ _ _ => kN)
    exact hret _ _ _ _ ⟨_, _, by assumption, rfl, rfl⟩ kF kN
local macro_rules | `(tactic| walk_at "call ref") => `(tactic| (k_here; (with_reducible show wpAny _ _ (call (Value.ref 108) _) _ _ _); k_dflt (refine' Tell.use ?k1 ?k2 ?k3 ?k4 ?k5 ?kK ?kT ?kd ?ku ?_; (case k1 => k_asm); (case k2 => k_asm); (case k3 => k_asm); (case k4 => k_asm); (case k5 => k_asm); (case kK => exact rfl); (case kT => exact (pad_ok (by with_reducible assumption))); (case kd => ktr_room); (case ku => ktr_units)); intro v' n' h' tk' hR' F' N'; obtain ⟨b', t', hb', h1', h2'⟩ := hR'; subst h1'; subst h2'))
local macro_rules | `(tactic| walk_at "call ref") => `(tactic| (k_here; (with_reducible show wpAny _ _ (call (Value.ref 49) _) _ _ _); k_dflt (refine' Tell.use ?k1 ?k2 ?k3 ?k4 ?k5 ?kK ?kT ?kd ?ku ?_; (case k1 => k_asm); (case k2 => k_asm); (case k3 => k_asm); (case k4 => k_asm); (case k5 => k_asm); (case kK => exact rfl); (case kT => exact (itb_ok (by with_reducible assumption) (by with_reducible assumption))); (case kd => ktr_room); (case ku => ktr_units)); intro v' n' h' tk' hR' F' N'; obtain ⟨b', t', hb', h1', h2'⟩ := hR'; subst h1'; subst h2'))
local macro_rules | `(tactic| walk_at "getMethod") => `(tactic| (k_here; (with_reducible show wpAny _ _ (getMethod (Value.bytes _ _) (Str.ofString "join") _) _ _ _); k_dflt (refine getBjoin ?_)))
local macro_rules | `(tactic| walk_at "call builtin:bytes.join") => `(tactic| (k_here; k_dflt (refine callBjoin (News.get (by k_asm) (by k_mem)) rfl rfl (by with_reducible assumption) (by with_reducible assumption) ?_); intro b' t' k' hb'))
theorem erp_ok {news : List (Addr × Obj)} {T : Addr} {x y : Int} {n : Nat} {t1 t2 : Tok} (h0 : 0 ≤ x) (h1 : intBits x ≤ 256) (h2 : 0 ≤ y) (h3 : intBits y ≤ 256) :
    Tell w p loose mean mg mb 565 3 60 ((T, ⟨.type "tuple", none, .seq #[.int x t1, .int y t2] n, #[]⟩) :: news) [.ref T]
      (fun r news' => ∃ b t, b.size = 64 ∧ r = .bytes b t ∧ news' = news) := by
  unfold Tell
  intro dp un gd cn cs a' ccd cl outer A₀ base h₀ L m s Q E B F X N T hk hdp hun hret
  refine fillT _ ?_
  k_fill
  intro _
  refine wpAny_call ?_
  k_dflt cell_enter
  k_steps
  all_goals
    (rename Fr _ _ _ _ => kF); (rename News _ _ _ _ => kN)
    exact hret _ _ _ _ ⟨_, _, by assumption, rfl, rfl⟩ kF (cb_drop kN (fun _ h => .tail _ (.tail _ h)))
end
section
open PySem PySem.W PyProof.Rows
set_option maxRecDepth 100000
set_option maxHeartbeats 1600000
variable {w : World} {p : Program} {loose : List Str} {mean : ExcName → Option Value} {mg mb : Str → Option Value}
open PySem.Builtin.Int (intBits)
abbrev tup3 (x y z : Int) (a b c : Tok) (n : Nat) : Obj := ⟨.type "tuple", none, .seq #[.int x a, .int y b, .int z c] n, #[]⟩
abbrev tup2 (x y : Int) (a b : Tok) (n : Nat) : Obj := ⟨.type "tuple", none, .seq #[.int x a, .int y b] n, #[]⟩
def PP : Int := 115792089237316195423570985008687907853269984665640564039457584007908834671663
def InP (x : Int) : Prop := 0 ≤ x ∧ intBits x ≤ 256
def Jac (news : List (Addr × Obj)) (r : Value) (news' : List (Addr × Obj)) : Prop :=
  ∃ T x y z a b c n, r = .ref T ∧ InP x ∧ InP y ∧ InP z ∧ news' = (T, tup3 x y z a b c n) :: news
theorem jac_close {h₀ : Heap} {L : Addr} {m : Str → Option Value} {s : Shared} {Q : Value → Shared → Prop} {news all : List (Addr × Obj)} {D : Addr} {x y z : Int} {a b c : Tok} {n : Nat} {h' : Heap} {tk' : Nat}
    (hret : ∀ v news' h' tk', Jac news v news' → Fr h₀ L h' m → News h₀ L h' news' → Q v { s with heap := h', toks := tk' }) (kF : Fr h₀ L h' m) (kN : News h₀ L h' all)
    (hm : (D, tup3 x y z a b c n) ∈ all) (hx : InP x) (hy : InP y) (hz : InP z) (sub : ∀ q ∈ news, q ∈ all) : Q (.ref D) { s with heap := h', toks := tk' } :=
  hret _ _ h' tk' ⟨D, x, y, z, a, b, c, n, rfl, hx, hy, hz, rfl⟩ kF (cb_drop kN fun q hq => by
    rcases List.mem_cons.mp hq with rfl | hq
    · exact hm
    · exact sub q hq)
section
variable {prog : Program} {w : World} {A : Around} {E : Value → Shared → Prop} {s : Shared} {Q : Value → Shared → Prop} {a b : Int} {k l : Nat} {t u : Tok}
theorem gMul (ha : intBits a ≤ k) (hb : intBits b ≤ l) (hk : k ≤ 8000) (hl : l ≤ 8000) (h : ∀ v t' j, intBits v ≤ k + l → Q (.int v t') { s with toks := j }) : wpAny (model prog w) A (binaryOp .Mult (.int a t) (.int b u)) Q E s :=
  bin_ok (op := .Mult) (if_pos ⟨Nat.le_trans ha hk, Nat.le_trans hb hl⟩) fun t' j => h _ t' j (intBits_mul_le ha hb)
theorem gAdd (ha : intBits a ≤ k) (hb : intBits b ≤ l) (h : ∀ v t' j, intBits v ≤ max k l + 1 → Q (.int v t') { s with toks := j }) : wpAny (model prog w) A (binaryOp .Add (.int a t) (.int b u)) Q E s :=
  bin_ok (op := .Add) rfl fun t' j => h _ t' j (intBits_add_le ha hb)
theorem gSub (ha : intBits a ≤ k) (hb : intBits b ≤ l) (h : ∀ v t' j, intBits v ≤ max k l + 1 → Q (.int v t') { s with toks := j }) : wpAny (model prog w) A (binaryOp .Sub (.int a t) (.int b u)) Q E s :=
  bin_ok (op := .Sub) rfl fun t' j => h _ t' j (intBits_sub_le ha hb)
theorem gPow (ha : intBits a ≤ k) (hk : k ≤ 8000) (b0 : 0 ≤ b) (b1 : b ≤ 8) (h : ∀ v t' j, intBits v ≤ k * b.toNat + 1 → Q (.int v t') { s with toks := j }) : wpAny (model prog w) A (binaryOp .Pow (.int a t) (.int b u)) Q E s :=
  bin_ok (op := .Pow) (if_pos ⟨b0, b1, Nat.le_trans ha hk⟩) fun t' j => h _ t' j (intBits_pow_le ha _)
theorem gMod (hb : b = PP) (h : ∀ v t' j, 0 ≤ v → intBits v ≤ 256 → Q (.int v t') { s with toks := j }) : wpAny (model prog w) A (binaryOp .Mod (.int a t) (.int b u)) Q E s := by
  subst hb
  refine bin_ok (op := .Mod) (v := a.fmod PP) (by show (if PP ≠ 0 then some (a.fmod PP) else none) = _; rw [if_pos (by decide)]) fun t' j => h _ t' j (Int.fmod_nonneg_of_pos _ (by decide)) ?_
  have h1 := Int.fmod_nonneg_of_pos a (b := PP) (by decide)
  have h2 := Int.fmod_lt_of_pos a (b := PP) (by decide)
  exact Nat.le_trans (intBits_le_of_natAbs (y := PP) (by omega) (Nat.le_refl _)) (by decide)
end
end
section
open PySem PySem.W PyProof.Rows
set_option maxRecDepth 100000
set_option maxHeartbeats 1600000
local macro_rules | `(tactic| walk_at "idle 0") => `(tactic| skip)
local macro_rules | `(tactic| walk_at "idle 1") => `(tactic| skip)
variable {w : World} {p : Program} {loose : List Str} {mean : ExcName → Option Value} {mg mb : Str → Option Value}
open PySem.Builtin.Int (intBits)
local macro_rules | `(tactic| walk_at "GB") => `(tactic| first | with_reducible assumption | exact Nat.le_refl _)
local macro_rules | `(tactic| walk_at "binaryOp Mult int int") => `(tactic| (k_here; k_dflt (refine gMul (by walk_at "GB") (by walk_at "GB") (by decide) (by decide) ?_); intro v9 t9 j9 hb9))
local macro_rules | `(tactic| walk_at "binaryOp Add int int") => `(tactic| (k_here; k_dflt (refine gAdd (by walk_at "GB") (by walk_at "GB") ?_); intro v9 t9 j9 hb9))
local macro_rules | `(tactic| walk_at "binaryOp Sub int int") => `(tactic| (k_here; k_dflt (refine gSub (by walk_at "GB") (by walk_at "GB") ?_); intro v9 t9 j9 hb9))
local macro_rules | `(tactic| walk_at "binaryOp Pow int int") => `(tactic| (k_here; k_dflt (refine gPow (by walk_at "GB") (by decide) (by decide) (by decide) ?_); intro v9 t9 j9 hb9))
local macro_rules | `(tactic| walk_at "binaryOp Mod int int") => `(tactic| (k_here; k_dflt (refine gMod rfl ?_); intro v9 t9 j9 h09 hb9))
theorem dbl_ok {news : List (Addr × Obj)} {T : Addr} {x y z : Int} {a b c : Tok} {n : Nat} (h0 : InP x) (h1 : InP y) (h2 : InP z) :
    Tell w p loose mean mg mb 530 1 40 ((T, tup3 x y z a b c n) :: news) [.ref T] (Jac news) := by
  unfold Tell
  intro dp un gd cn cs a' ccd cl outer A₀ base h₀ L m s Q E B F X N T hk hdp hun hret
  refine fillT _ ?_
  k_fill
  intro _
  refine wpAny_call ?_
  k_dflt cell_enter
  obtain ⟨x0, x1⟩ := h0
  obtain ⟨y0, y1⟩ := h1
  obtain ⟨z0, z1⟩ := h2
  k_steps
  all_goals (((rename Fr _ _ _ _ => kF); (rename News _ _ _ _ => kN); refine' jac_close hret kF kN ?hm ?hx ?hy ?hz ?sub; (case hm => k_mem); (case hx => (first | with_reducible assumption | exact ⟨by with_reducible assumption, by with_reducible assumption⟩ | exact (show (0 : Int) ≤ _ ∧ intBits _ ≤ 256 from by decide))); (case hy => (first | with_reducible assumption | exact ⟨by with_reducible assumption, by with_reducible assumption⟩ | exact (show (0 : Int) ≤ _ ∧ intBits _ ≤ 256 from by decide))); (case hz => (first | with_reducible assumption | exact ⟨by with_reducible assumption, by with_reducible assumption⟩ | exact (show (0 : Int) ≤ _ ∧ intBits _ ≤ 256 from by decide))); (case sub => (intro q hq; simp only [List.mem_cons, hq, or_true]))))
local macro_rules | `(tactic| walk_at "call ref") => `(tactic| (k_here; (with_reducible show wpAny _ _ (call (Value.ref 530) _) _ _ _); k_dflt (refine' Tell.use ?k1 ?k2 ?k3 ?k4 ?k5 ?kK ?kT ?kd ?ku ?_; (case k1 => k_asm); (case k2 => k_asm); (case k3 => k_asm); (case k4 => k_asm); (case k5 => k_asm); (case kK => exact rfl); (case kT => exact (dbl_ok (by (first | with_reducible assumption | exact ⟨by with_reducible assumption, by with_reducible assumption⟩ | exact (show (0 : Int) ≤ _ ∧ intBits _ ≤ 256 from by decide))) (by (first | with_reducible assumption | exact ⟨by with_reducible assumption, by with_reducible assumption⟩ | exact (show (0 : Int) ≤ _ ∧ intBits _ ≤ 256 from by decide))) (by (first | with_reducible assumption | exact ⟨by with_reducible assumption, by with_reducible assumption⟩ | exact (show (0 : Int) ≤ _ ∧ intBits _ ≤ 256 from by decide))))); (case kd => ktr_room); (case ku => ktr_units)); intro v' n' h' tk' hR' F' N'; obtain ⟨T', x', y', z', a', b', c', n', h1', hx', hy', hz', h2'⟩ := hR'; subst h1'; subst h2'))
theorem add_ok {news : List (Addr × Obj)} {T S : Addr} {x y z x₂ y₂ z₂ : Int} {a b c a₂ b₂ c₂ : Tok} {n n₂ : Nat} (h0 : InP x) (h1 : InP y) (h2 : InP z) (h3 : InP x₂) (h4 : InP y₂) (h5 : InP z₂) :
    Tell w p loose mean mg mb 537 2 80 ((T, tup3 x y z a b c n) :: (S, tup3 x₂ y₂ z₂ a₂ b₂ c₂ n₂) :: news) [.ref T, .ref S] (Jac news) := by
  unfold Tell
  intro dp un gd cn cs a' ccd cl outer A₀ base h₀ L m s Q E B F X N T hk hdp hun hret
  refine fillT _ ?_
  k_fill
  intro _
  refine wpAny_call ?_
  k_dflt cell_enter
  obtain ⟨x0, x1⟩ := h0
  obtain ⟨y0, y1⟩ := h1
  obtain ⟨z0, z1⟩ := h2
  obtain ⟨x2, x3⟩ := h3
  obtain ⟨y2, y3⟩ := h4
  obtain ⟨z2, z3⟩ := h5
  k_steps
  all_goals ((((rename Fr _ _ _ _ => kF); (rename News _ _ _ _ => kN); refine' jac_close hret kF kN ?hm ?hx ?hy ?hz ?sub; (case hm => k_mem); (case hx => (first | with_reducible assumption | exact ⟨by with_reducible assumption, by with_reducible assumption⟩ | exact (show (0 : Int) ≤ _ ∧ intBits _ ≤ 256 from by decide))); (case hy => (first | with_reducible assumption | exact ⟨by with_reducible assumption, by with_reducible assumption⟩ | exact (show (0 : Int) ≤ _ ∧ intBits _ ≤ 256 from by decide))); (case hz => (first | with_reducible assumption | exact ⟨by with_reducible assumption, by with_reducible assumption⟩ | exact (show (0 : Int) ≤ _ ∧ intBits _ ≤ 256 from by decide))); (case sub => (intro q hq; simp only [List.mem_cons, hq, or_true])))))
end
section
open PySem PySem.W PyProof.Rows
def HoldW (P : Prop) : Prop := P
theorem holdW {P : Prop} (h : HoldW P) : P := h
set_option maxRecDepth 100000
set_option maxHeartbeats 1600000
variable {w : World} {p : Program} {loose : List Str} {mean : ExcName → Option Value} {mg mb : Str → Option Value}
open PySem.Builtin.Int (intBits)
def Inv (lm hm low high : Int) : Prop := 0 ≤ low ∧ low < high ∧ high ≤ PP ∧ ∃ A B : Int, 0 ≤ A ∧ 0 ≤ B ∧ ((lm = A ∧ hm = -B) ∨ (lm = -A ∧ hm = B)) ∧ A * high + B * low = PP
theorem inv_start {v : Int} (h0 : 0 ≤ v) (h1 : v < PP) : Inv 1 0 v PP := ⟨h0, h1, Int.le_refl _, 1, 0, by decide, by decide, .inl ⟨rfl, rfl⟩, by omega⟩
theorem inv_r {low high : Int} (h1 : 1 < low) (h2 : low < high) : 0 ≤ high.fdiv low ∧ high.fdiv low ≤ high ∧ 0 ≤ high - low * high.fdiv low ∧ high - low * high.fdiv low < low := by
  have e := Int.mul_fdiv_add_fmod high low
  have f1 := Int.fmod_nonneg_of_pos high (b := low) (by omega)
  have f2 := Int.fmod_lt_of_pos high (b := low) (by omega)
  have q0 : 0 ≤ high.fdiv low := by rw [Int.fdiv_eq_ediv_of_nonneg _ (by omega)]; exact Int.ediv_nonneg (by omega) (by omega)
  have q1 : high.fdiv low ≤ high := by rw [Int.fdiv_eq_ediv_of_nonneg _ (by omega)]; exact Int.ediv_le_self _ (by omega)
  refine ⟨q0, q1, ?_, ?_⟩ <;> omega
theorem inv_step {lm hm low high : Int} (h : Inv lm hm low high) (h1 : 1 < low) : Inv (hm - lm * high.fdiv low) lm (high - low * high.fdiv low) low ∧ (high - low * high.fdiv low).toNat < low.toNat := by
  obtain ⟨a0, a1, a2, A, B, hA, hB, hs, he⟩ := h
  obtain ⟨r0, r1, r2, r3⟩ := inv_r h1 a1
  generalize high.fdiv low = r at r0 r1 r2 r3 ⊢
  refine ⟨⟨r2, r3, by omega, B + A * r, A, ?_, hA, ?_, ?_⟩, by omega⟩
  · have := Int.mul_nonneg hA r0
    omega
  · rcases hs with ⟨rfl, rfl⟩ | ⟨rfl, rfl⟩
    · exact .inr ⟨by rw [Int.neg_add]; omega, rfl⟩
    · exact .inl ⟨by rw [Int.neg_mul]; omega, rfl⟩
  · rw [← he]
    grind
theorem bits_P {x : Int} (h : x.natAbs ≤ PP.natAbs) : intBits x ≤ 256 := Nat.le_trans (intBits_le_of_natAbs (y := PP) h (Nat.le_refl _)) (by decide)
theorem inv_bits {lm hm low high : Int} (h : Inv lm hm low high) : intBits lm ≤ 256 ∧ intBits low ≤ 256 ∧ intBits high ≤ 256 := by
  obtain ⟨a0, a1, a2, A, B, hA, hB, hs, he⟩ := h
  have hBl := Int.mul_nonneg hB a0
  have hAl : A * 1 ≤ A * high := Int.mul_le_mul_of_nonneg_left (by omega) hA
  refine ⟨bits_P ?_, bits_P ?_, bits_P ?_⟩
  · rcases hs with ⟨rfl, rfl⟩ | ⟨rfl, rfl⟩ <;> omega
  · omega
  · omega
section
variable {prog : Program} {w : World} {A : Around} {E : Value → Shared → Prop} {s : Shared} {Q : Value → Shared → Prop} {a b : Int} {k l : Nat} {t u : Tok}
theorem eMul (ha : intBits a ≤ 256) (hb : intBits b ≤ 256) (h : ∀ t' j, Q (.int (a * b) t') { s with toks := j }) : wpAny (model prog w) A (binaryOp .Mult (.int a t) (.int b u)) Q E s :=
  bin_ok (op := .Mult) (if_pos ⟨Nat.le_trans ha (by decide), Nat.le_trans hb (by decide)⟩) h
theorem eDiv (h0 : b ≠ 0) (ha : intBits a ≤ 256) (hb : intBits b ≤ 256) (h : ∀ t' j, Q (.int (a.fdiv b) t') { s with toks := j }) : wpAny (model prog w) A (binaryOp .FloorDiv (.int a t) (.int b u)) Q E s :=
  bin_ok (op := .FloorDiv) (if_pos ⟨h0, Nat.le_trans ha (by decide), Nat.le_trans hb (by decide)⟩) h
theorem gModL (hb : b = PP) (h : ∀ v t' j, 0 ≤ v → v < PP → intBits v ≤ 256 → Q (.int v t') { s with toks := j }) : wpAny (model prog w) A (binaryOp .Mod (.int a t) (.int b u)) Q E s := by
  subst hb
  refine bin_ok (op := .Mod) (v := a.fmod PP) (by show (if PP ≠ 0 then some (a.fmod PP) else none) = _; rw [if_pos (by decide)]) fun t' j => ?_
  have h1 := Int.fmod_nonneg_of_pos a (b := PP) (by decide)
  have h2 := Int.fmod_lt_of_pos a (b := PP) (by decide)
  exact h _ t' j h1 h2 (bits_P (by omega))
end
theorem five_map {m : Str → Option Value} {x0 x1 x2 x3 x4 : Int} {u0 u1 u2 u3 u4 : Tok} (h0 : m (Str.ofString "lm") = some (.int x0 u0)) (h1 : m (Str.ofString "hm") = some (.int x1 u1)) (h2 : m (Str.ofString "low") = some (.int x2 u2)) (h3 : m (Str.ofString "high") = some (.int x3 u3)) (h4 : m (Str.ofString "n") = some (.int x4 u4)) : m = fun y =>
    if y = Str.ofString "lm" then some (.int x0 u0) else if y = Str.ofString "hm" then some (.int x1 u1) else if y = Str.ofString "low" then some (.int x2 u2) else if y = Str.ofString "high" then some (.int x3 u3) else if y = Str.ofString "n" then some (.int x4 u4) else m y := by
  refine funext fun y => ?_
  split
  · rename_i q; rw [q]; exact h0
  split
  · rename_i q; rw [q]; exact h1
  split
  · rename_i q; rw [q]; exact h2
  split
  · rename_i q; rw [q]; exact h3
  split
  · rename_i q; rw [q]; exact h4
  rfl
def InvM (n : Nat) (m : Str → Option Value) : Prop := ∃ lm hm low high t1 t2 t3 t4 t5, m (Str.ofString "lm") = some (.int lm t1) ∧ m (Str.ofString "hm") = some (.int hm t2) ∧ m (Str.ofString "low") = some (.int low t3) ∧ m (Str.ofString "high") = some (.int high t4) ∧ m (Str.ofString "n") = some (.int PP t5) ∧ Inv lm hm low high ∧ n = low.toNat
local macro_rules | `(tactic| walk_at "exec While Compare") => `(tactic| refine holdW ?_)
local macro_rules | `(tactic| walk_at "binaryOp Mult int int") => `(tactic| (k_here; k_dflt (refine eMul (by with_reducible assumption) (by with_reducible assumption) ?_); intro t9 j9))
local macro_rules | `(tactic| walk_at "binaryOp FloorDiv int int") => `(tactic| (k_here; k_dflt (refine eDiv (by with_reducible assumption) (by with_reducible assumption) (by with_reducible assumption) ?_); intro t9 j9))
local macro_rules | `(tactic| walk_at "binaryOp Mod int int") => `(tactic| (k_here; k_dflt (refine gModL rfl ?_); intro v9 t9 j9 h09 h19 hb9))
theorem inv_ok {news : List (Addr × Obj)} {x : Int} {t u : Tok} (h0 : InP x) :
    Tell w p loose mean mg mb 516 1 40 news [.int x t, .int PP u] (fun r news' => ∃ v t, r = .int v t ∧ InP v ∧ news' = news) := by
  unfold Tell
  intro dp un gd cn cs a' ccd cl outer A₀ base h₀ L m s Q E B F X N T hk hdp hun hret
  refine fillT _ ?_
  k_fill
  intro _
  refine wpAny_call ?_
  k_dflt cell_enter
  k_steps
  · (rename Fr _ _ _ _ => kF); (rename News _ _ _ _ => kN)
    exact hret _ _ _ _ ⟨_, _, rfl, (by decide : (0 : Int) ≤ 0 ∧ intBits 0 ≤ 256), rfl⟩ kF kN
  · unfold HoldW
    (with_reducible rename Fr _ _ _ _ => kF); (with_reducible rename News _ _ _ _ => kN); (with_reducible rename _ ≤ _ => g0); (with_reducible rename _ < PP => g1)
    refine' While_inv (fun n m₁ news₁ => news₁ = news ∧ InvM n m₁) kF (cb_drop kN (fun _ h => .tail _ (.tail _ h))) ⟨rfl, ?start⟩ ?turn
    case start => exact ⟨_, _, _, _, _, _, _, _, _, rfl, rfl, rfl, rfl, rfl, inv_start (by assumption) g1, rfl⟩
    case turn =>
      rintro n m₁ news₁ h₁ tk₁ F₁ N₁ ⟨hn, lm, hm, low, high, t1, t2, t3, t4, t5, e1, e2, e3, e4, e5, hI, hmeas⟩
      subst hn
      rw [five_map e1 e2 e3 e4 e5] at F₁
      clear kF kN
      obtain ⟨b1, b2, b3⟩ := inv_bits hI
      by_cases hlow : 1 < low
      · have b4 : low ≠ 0 := by omega
        obtain ⟨r0, r1, r2, r3⟩ := inv_r hlow hI.2.1
        have b5 : intBits (high.fdiv low) ≤ 256 := bits_P (by have := hI.2.2.1; omega)
        obtain ⟨hI2, hm2⟩ := inv_step hI hlow
        k_steps
        (rename Fr _ _ _ _ => kF); (rename News _ _ _ _ => kN)
        exact WhileStep.intro kF (cb_drop kN (fun _ h => .tail _ (.tail _ h))) (n' := (high - low * high.fdiv low).toNat) (by rw [hmeas]; exact hm2) ⟨rfl, _, _, _, _, _, _, _, _, _, rfl, rfl, rfl, rfl, rfl, hI2, rfl⟩
      · k_steps
        (rename Fr _ _ _ _ => kF); (rename News _ _ _ _ => kN)
        exact hret _ _ _ _ ⟨_, _, rfl, ⟨by with_reducible assumption, by with_reducible assumption⟩, rfl⟩ kF kN
end
section
open PySem PySem.W PyProof.Rows
set_option maxRecDepth 100000
set_option maxHeartbeats 1600000
variable {w : World} {p : Program} {loose : List Str} {mean : ExcName → Option Value} {mg mb : Str → Option Value}
open PySem.Builtin.Int (intBits)
local macro_rules | `(tactic| walk_at "GB") => `(tactic| first | with_reducible assumption | exact Nat.le_refl _)
local macro_rules | `(tactic| walk_at "binaryOp Mult int int") => `(tactic| (k_here; k_dflt (refine gMul (by walk_at "GB") (by walk_at "GB") (by decide) (by decide) ?_); intro v9 t9 j9 hb9))
local macro_rules | `(tactic| walk_at "binaryOp Add int int") => `(tactic| (k_here; k_dflt (refine gAdd (by walk_at "GB") (by walk_at "GB") ?_); intro v9 t9 j9 hb9))
local macro_rules | `(tactic| walk_at "binaryOp Sub int int") => `(tactic| (k_here; k_dflt (refine gSub (by walk_at "GB") (by walk_at "GB") ?_); intro v9 t9 j9 hb9))
local macro_rules | `(tactic| walk_at "binaryOp Pow int int") => `(tactic| (k_here; k_dflt (refine gPow (by walk_at "GB") (by decide) (by decide) (by decide) ?_); intro v9 t9 j9 hb9))
local macro_rules | `(tactic| walk_at "binaryOp Mod int int") => `(tactic| (k_here; k_dflt (refine gMod rfl ?_); intro v9 t9 j9 h09 hb9))
theorem tj_ok {news : List (Addr × Obj)}  :
    Tell w p loose mean mg mb 523 1 40 news [.ref 109]
      (Jac news) := by
  unfold Tell
  intro dp un gd cn cs a' ccd cl outer A₀ base h₀ L m s Q E B F X N T hk hdp hun hret
  refine fillT _ ?_
  k_fill
  intro _
  refine wpAny_call ?_
  k_dflt cell_enter
  k_steps
  all_goals (((rename Fr _ _ _ _ => kF); (rename News _ _ _ _ => kN); refine' jac_close hret kF kN ?hm ?hx ?hy ?hz ?sub; (case hm => k_mem); (case hx => (first | with_reducible assumption | exact ⟨by with_reducible assumption, by with_reducible assumption⟩ | exact (show (0 : Int) ≤ _ ∧ intBits _ ≤ 256 from by decide))); (case hy => (first | with_reducible assumption | exact ⟨by with_reducible assumption, by with_reducible assumption⟩ | exact (show (0 : Int) ≤ _ ∧ intBits _ ≤ 256 from by decide))); (case hz => (first | with_reducible assumption | exact ⟨by with_reducible assumption, by with_reducible assumption⟩ | exact (show (0 : Int) ≤ _ ∧ intBits _ ≤ 256 from by decide))); (case sub => (intro q hq; simp only [List.mem_cons, hq, or_true]))))
local macro_rules | `(tactic| walk_at "call ref") => `(tactic| (k_here; (with_reducible show wpAny _ _ (call (Value.ref 516) _) _ _ _); k_dflt (refine' Tell.use ?k1 ?k2 ?k3 ?k4 ?k5 ?kK ?kT ?kd ?ku ?_; (case k1 => k_asm); (case k2 => k_asm); (case k3 => k_asm); (case k4 => k_asm); (case k5 => k_asm); (case kK => exact rfl); (case kT => exact inv_ok (by (first | with_reducible assumption | exact ⟨by with_reducible assumption, by with_reducible assumption⟩ | exact (show (0 : Int) ≤ _ ∧ intBits _ ≤ 256 from by decide)))); (case kd => ktr_room); (case ku => ktr_units)); intro v' n' h' tk' hR' F' N'; obtain ⟨v', t', h1', hv', h2'⟩ := hR'; subst h1'; subst h2'; obtain ⟨v0', v1'⟩ := hv'))
theorem tup2_close {h₀ : Heap} {L : Addr} {m : Str → Option Value} {s : Shared} {Q : Value → Shared → Prop} {news all : List (Addr × Obj)} {D : Addr} {x y : Int} {a b : Tok} {n : Nat} {h' : Heap} {tk' : Nat}
    (hret : ∀ v news' h' tk', (∃ T x y a b n, v = .ref T ∧ InP x ∧ InP y ∧ news' = (T, tup2 x y a b n) :: news) → Fr h₀ L h' m → News h₀ L h' news' → Q v { s with heap := h', toks := tk' }) (kF : Fr h₀ L h' m) (kN : News h₀ L h' all)
    (hm : (D, tup2 x y a b n) ∈ all) (hx : InP x) (hy : InP y) (sub : ∀ q ∈ news, q ∈ all) : Q (.ref D) { s with heap := h', toks := tk' } :=
  hret _ _ h' tk' ⟨D, x, y, a, b, n, rfl, hx, hy, rfl⟩ kF (cb_drop kN fun q hq => by
    rcases List.mem_cons.mp hq with rfl | hq
    · exact hm
    · exact sub q hq)
theorem fj_ok {news : List (Addr × Obj)} {T : Addr} {x y z : Int} {a b c : Tok} {n : Nat} (h0 : InP x) (h1 : InP y) (h2 : InP z) :
    Tell w p loose mean mg mb 544 2 80 ((T, tup3 x y z a b c n) :: news) [.ref T]
      (fun r news' => ∃ T x y a b n, r = .ref T ∧ InP x ∧ InP y ∧ news' = (T, tup2 x y a b n) :: news) := by
  unfold Tell
  intro dp un gd cn cs a' ccd cl outer A₀ base h₀ L m s Q E B F X N T hk hdp hun hret
  refine fillT _ ?_
  k_fill
  intro _
  refine wpAny_call ?_
  k_dflt cell_enter
  obtain ⟨x0, x1⟩ := h0
  obtain ⟨y0, y1⟩ := h1
  obtain ⟨z0, z1⟩ := h2
  k_steps
  all_goals (((rename Fr _ _ _ _ => kF); (rename News _ _ _ _ => kN); refine' tup2_close hret kF kN ?hm ?hx ?hy ?sub; (case hm => k_mem); (case hx => (first | with_reducible assumption | exact ⟨by with_reducible assumption, by with_reducible assumption⟩ | exact (show (0 : Int) ≤ _ ∧ intBits _ ≤ 256 from by decide))); (case hy => (first | with_reducible assumption | exact ⟨by with_reducible assumption, by with_reducible assumption⟩ | exact (show (0 : Int) ≤ _ ∧ intBits _ ≤ 256 from by decide))); (case sub => (intro q hq; simp only [List.mem_cons, hq, or_true]))))
end
section
open PySem PySem.W PyProof.Rows
set_option maxRecDepth 100000
set_option maxHeartbeats 1600000
variable {w : World} {p : Program} {loose : List Str} {mean : ExcName → Option Value} {mg mb : Str → Option Value}
open PySem.Builtin.Int (intBits)
local macro_rules | `(tactic| walk_at "call ref") => `(tactic| (k_here; (with_reducible show wpAny _ _ (call (Value.ref 530) _) _ _ _); k_dflt (refine' Tell.use ?k1 ?k2 ?k3 ?k4 ?k5 ?kK ?kT ?kd ?ku ?_; (case k1 => k_asm); (case k2 => k_asm); (case k3 => k_asm); (case k4 => k_asm); (case k5 => k_asm); (case kK => exact rfl); (case kT => exact (dbl_ok (by (first | with_reducible assumption | exact ⟨by with_reducible assumption, by with_reducible assumption⟩ | exact (show (0 : Int) ≤ _ ∧ intBits _ ≤ 256 from by decide))) (by (first | with_reducible assumption | exact ⟨by with_reducible assumption, by with_reducible assumption⟩ | exact (show (0 : Int) ≤ _ ∧ intBits _ ≤ 256 from by decide))) (by (first | with_reducible assumption | exact ⟨by with_reducible assumption, by with_reducible assumption⟩ | exact (show (0 : Int) ≤ _ ∧ intBits _ ≤ 256 from by decide))))); (case kd => ktr_room); (case ku => ktr_units)); intro v' n' h' tk' hR' F' N'; obtain ⟨T', x', y', z', a', b', c', n', h1', hx', hy', hz', h2'⟩ := hR'; subst h1'; subst h2'))
theorem Tell.led {f : Addr} {D U : Nat} {news₁ news₂ : List (Addr × Obj)} {vs : List Value} {R : Value → List (Addr × Obj) → Prop} (C : Tell w p loose mean mg mb f D U news₁ vs R) (h : ∀ q ∈ news₁, q ∈ news₂) : Tell w p loose mean mg mb f D U news₂ vs R := by
  intro dp un gd cn cs a ccd cl outer A₀ base h₀ L m s Q E B F X N T hk hd hu ret
  exact C dp un gd cn cs a ccd cl outer A₀ base h₀ L m s Q E B F X (cb_drop N h) T hk hd hu ret
theorem add_keep {news : List (Addr × Obj)} {T S : Addr} {x y z x₂ y₂ z₂ : Int} {a b c a₂ b₂ c₂ : Tok} {n n₂ : Nat} (h0 : InP x) (h1 : InP y) (h2 : InP z) (h3 : InP x₂) (h4 : InP y₂) (h5 : InP z₂) :
    Tell w p loose mean mg mb 537 2 80 ((T, tup3 x y z a b c n) :: (S, tup3 x₂ y₂ z₂ a₂ b₂ c₂ n₂) :: news) [.ref T, .ref S] (Jac ((S, tup3 x₂ y₂ z₂ a₂ b₂ c₂ n₂) :: news)) :=
  (add_ok (news := (S, tup3 x₂ y₂ z₂ a₂ b₂ c₂ n₂) :: news) h0 h1 h2 h3 h4 h5).led fun q hq => by
    rcases List.mem_cons.mp hq with rfl | hq
    · exact .head _
    rcases List.mem_cons.mp hq with rfl | hq
    · exact .tail _ (.head _)
    · exact .tail _ hq
local macro_rules | `(tactic| walk_at "call ref") => `(tactic| (k_here; (with_reducible show wpAny _ _ (call (Value.ref 537) _) _ _ _); k_dflt (refine' Tell.use ?k1 ?k2 ?k3 ?k4 ?k5 ?kK ?kT ?kd ?ku ?_; (case k1 => k_asm); (case k2 => k_asm); (case k3 => k_asm); (case k4 => k_asm); (case k5 => k_asm); (case kK => exact rfl); (case kT => exact (add_keep (by (first | with_reducible assumption | exact ⟨by with_reducible assumption, by with_reducible assumption⟩ | exact (show (0 : Int) ≤ _ ∧ intBits _ ≤ 256 from by decide))) (by (first | with_reducible assumption | exact ⟨by with_reducible assumption, by with_reducible assumption⟩ | exact (show (0 : Int) ≤ _ ∧ intBits _ ≤ 256 from by decide))) (by (first | with_reducible assumption | exact ⟨by with_reducible assumption, by with_reducible assumption⟩ | exact (show (0 : Int) ≤ _ ∧ intBits _ ≤ 256 from by decide))) (by (first | with_reducible assumption | exact ⟨by with_reducible assumption, by with_reducible assumption⟩ | exact (show (0 : Int) ≤ _ ∧ intBits _ ≤ 256 from by decide))) (by (first | with_reducible assumption | exact ⟨by with_reducible assumption, by with_reducible assumption⟩ | exact (show (0 : Int) ≤ _ ∧ intBits _ ≤ 256 from by decide))) (by (first | with_reducible assumption | exact ⟨by with_reducible assumption, by with_reducible assumption⟩ | exact (show (0 : Int) ≤ _ ∧ intBits _ ≤ 256 from by decide))))); (case kd => ktr_room); (case ku => ktr_units)); intro v' n' h' tk' hR' F' N'; obtain ⟨T', x', y', z', a', b', c', n', h1', hx', hy', hz', h2'⟩ := hR'; subst h1'; subst h2'))
set_option hygiene false in
local macro_rules | `(tactic| walk_at "call ref") => `(tactic| (k_here; (with_reducible show wpAny _ _ (call (Value.ref 551) _) _ _ _); k_dflt (refine' Tell.use ?k1 ?k2 ?k3 ?k4 ?k5 ?kK ?kT ?kd ?ku ?_; (case k1 => k_asm); (case k2 => k_asm); (case k3 => k_asm); (case k4 => k_asm); (case k5 => k_asm); (case kK => exact rfl); (case kT => exact (ih f1 f2 f3)); (case kd => ktr_room); (case ku => ktr_units)); intro v' n' h' tk' hR' F' N'; obtain ⟨T', x', y', z', a', b', c', n', h1', hx', hy', hz', h2'⟩ := hR'; subst h1'; subst h2'))
theorem jm_ok {news : List (Addr × Obj)} {T : Addr} {x y z : Int} {a b c : Tok} {n : Nat} (h0 : InP x) (h1 : InP y) (h2 : InP z) : ∀ (k : Nat) {v : Int} {t : Tok}, 1 ≤ v → v ≤ 30 → v.toNat ≤ k →
    Tell w p loose mean mg mb 551 (5 + k) (200 + 20 * k) ((T, tup3 x y z a b c n) :: news) [.ref T, .int v t] (Jac ((T, tup3 x y z a b c n) :: news)) := by
  intro k
  induction k with
  | zero => intro v t a1 a2 a3; exact absurd a3 (by omega)
  | succ k ih =>
    intro v t a1 a2 a3
    unfold Tell
    intro dp un gd cn cs a' ccd cl outer A₀ base h₀ L m s Q E B F X N Tp hk hdp hun hret
    refine fillT _ ?_
    k_fill
    intro _
    refine wpAny_call ?_
    k_dflt cell_enter
    have e1 := Int.mul_fdiv_add_fmod v 2
    have e2 := Int.fmod_nonneg_of_pos v (b := 2) (by decide)
    have e3 := Int.fmod_lt_of_pos v (b := 2) (by decide)
    by_cases hv : v = 1
    · k_steps
      all_goals first | (((rename Fr _ _ _ _ => kF); (rename News _ _ _ _ => kN); refine' jac_close hret kF kN ?hm ?hx ?hy ?hz ?sub; (case hm => k_mem); (case hx => (first | with_reducible assumption | exact ⟨by with_reducible assumption, by with_reducible assumption⟩ | exact (show (0 : Int) ≤ _ ∧ intBits _ ≤ 256 from by decide))); (case hy => (first | with_reducible assumption | exact ⟨by with_reducible assumption, by with_reducible assumption⟩ | exact (show (0 : Int) ≤ _ ∧ intBits _ ≤ 256 from by decide))); (case hz => (first | with_reducible assumption | exact ⟨by with_reducible assumption, by with_reducible assumption⟩ | exact (show (0 : Int) ≤ _ ∧ intBits _ ≤ 256 from by decide))); (case sub => (intro q hq; simp only [List.mem_cons, hq, or_true])))) | (exfalso; omega)
    · have f1 : 1 ≤ v.fdiv 2 := by omega
      have f2 : v.fdiv 2 ≤ 30 := by omega
      have f3 : (v.fdiv 2).toNat ≤ k := by omega
      k_steps
      all_goals first | (((rename Fr _ _ _ _ => kF); (rename News _ _ _ _ => kN); refine' jac_close hret kF kN ?hm ?hx ?hy ?hz ?sub; (case hm => k_mem); (case hx => (first | with_reducible assumption | exact ⟨by with_reducible assumption, by with_reducible assumption⟩ | exact (show (0 : Int) ≤ _ ∧ intBits _ ≤ 256 from by decide))); (case hy => (first | with_reducible assumption | exact ⟨by with_reducible assumption, by with_reducible assumption⟩ | exact (show (0 : Int) ≤ _ ∧ intBits _ ≤ 256 from by decide))); (case hz => (first | with_reducible assumption | exact ⟨by with_reducible assumption, by with_reducible assumption⟩ | exact (show (0 : Int) ≤ _ ∧ intBits _ ≤ 256 from by decide))); (case sub => (intro q hq; simp only [List.mem_cons, hq, or_true])))) | (exfalso; omega)
end
section
open PySem PySem.W PyProof.Rows
set_option maxRecDepth 100000
set_option maxHeartbeats 1600000
local macro_rules | `(tactic| walk_at "idle 0") => `(tactic| skip)
variable {w : World} {p : Program} {loose : List Str} {mean : ExcName → Option Value} {mg mb : Str → Option Value}
open PySem.Builtin.Int (intBits)
local macro_rules | `(tactic| walk_at "call ref") => `(tactic| (k_here; (with_reducible show wpAny _ _ (call (Value.ref 523) _) _ _ _); k_dflt (refine' Tell.use ?k1 ?k2 ?k3 ?k4 ?k5 ?kK ?kT ?kd ?ku ?_; (case k1 => k_asm); (case k2 => k_asm); (case k3 => k_asm); (case k4 => k_asm); (case k5 => k_asm); (case kK => exact rfl); (case kT => exact tj_ok); (case kd => ktr_room); (case ku => ktr_units)); intro v' n' h' tk' hR' F' N'; obtain ⟨T', x', y', z', a', b', c', n', h1', hx', hy', hz', h2'⟩ := hR'; subst h1'; subst h2'))
local macro_rules | `(tactic| walk_at "call ref") => `(tactic| (k_here; (with_reducible show wpAny _ _ (call (Value.ref 551) _) _ _ _); k_dflt (refine' Tell.use ?k1 ?k2 ?k3 ?k4 ?k5 ?kK ?kT ?kd ?ku ?_; (case k1 => k_asm); (case k2 => k_asm); (case k3 => k_asm); (case k4 => k_asm); (case k5 => k_asm); (case kK => exact rfl); (case kT => exact (jm_ok (by (first | with_reducible assumption | exact ⟨by with_reducible assumption, by with_reducible assumption⟩ | exact (show (0 : Int) ≤ _ ∧ intBits _ ≤ 256 from by decide))) (by (first | with_reducible assumption | exact ⟨by with_reducible assumption, by with_reducible assumption⟩ | exact (show (0 : Int) ≤ _ ∧ intBits _ ≤ 256 from by decide))) (by (first | with_reducible assumption | exact ⟨by with_reducible assumption, by with_reducible assumption⟩ | exact (show (0 : Int) ≤ _ ∧ intBits _ ≤ 256 from by decide))) 30 (by with_reducible assumption) (by with_reducible assumption) (by with_reducible assumption))); (case kd => ktr_room); (case ku => ktr_units)); intro v' n' h' tk' hR' F' N'; obtain ⟨T', x', y', z', a', b', c', n', h1', hx', hy', hz', h2'⟩ := hR'; subst h1'; subst h2'))
local macro_rules | `(tactic| walk_at "call ref") => `(tactic| (k_here; (with_reducible show wpAny _ _ (call (Value.ref 544) _) _ _ _); k_dflt (refine' Tell.use ?k1 ?k2 ?k3 ?k4 ?k5 ?kK ?kT ?kd ?ku ?_; (case k1 => k_asm); (case k2 => k_asm); (case k3 => k_asm); (case k4 => k_asm); (case k5 => k_asm); (case kK => exact rfl); (case kT => exact (fj_ok (by (first | with_reducible assumption | exact ⟨by with_reducible assumption, by with_reducible assumption⟩ | exact (show (0 : Int) ≤ _ ∧ intBits _ ≤ 256 from by decide))) (by (first | with_reducible assumption | exact ⟨by with_reducible assumption, by with_reducible assumption⟩ | exact (show (0 : Int) ≤ _ ∧ intBits _ ≤ 256 from by decide))) (by (first | with_reducible assumption | exact ⟨by with_reducible assumption, by with_reducible assumption⟩ | exact (show (0 : Int) ≤ _ ∧ intBits _ ≤ 256 from by decide))))); (case kd => ktr_room); (case ku => ktr_units)); intro v' n' h' tk' hR' F' N'; obtain ⟨T', x', y', a', b', n', h1', hx', hy', h2'⟩ := hR'; subst h1'; subst h2'))
theorem fm_ok {news : List (Addr × Obj)} {v : Int} {t : Tok} (h1 : 1 ≤ v) (h2 : v ≤ 30) :
    Tell w p loose mean mg mb 558 37 850 news [.ref 109, .int v t]
      (fun r news' => ∃ T x y a b n, r = .ref T ∧ InP x ∧ InP y ∧ news' = (T, tup2 x y a b n) :: news) := by
  unfold Tell
  intro dp un gd cn cs a' ccd cl outer A₀ base h₀ L m s Q E B F X N T hk hdp hun hret
  refine fillT _ ?_
  k_fill
  intro _
  refine wpAny_call ?_
  k_dflt cell_enter
  have h3 : v.toNat ≤ 30 := by omega
  k_steps
  all_goals (((rename Fr _ _ _ _ => kF); (rename News _ _ _ _ => kN); refine' tup2_close hret kF kN ?hm ?hx ?hy ?sub; (case hm => k_mem); (case hx => (first | with_reducible assumption | exact ⟨by with_reducible assumption, by with_reducible assumption⟩ | exact (show (0 : Int) ≤ _ ∧ intBits _ ≤ 256 from by decide))); (case hy => (first | with_reducible assumption | exact ⟨by with_reducible assumption, by with_reducible assumption⟩ | exact (show (0 : Int) ≤ _ ∧ intBits _ ≤ 256 from by decide))); (case sub => (intro q hq; simp only [List.mem_cons, hq, or_true]))))
local macro_rules | `(tactic| walk_at "call ref") => `(tactic| (k_here; (with_reducible show wpAny _ _ (call (Value.ref 558) _) _ _ _); k_dflt (refine' Tell.use ?k1 ?k2 ?k3 ?k4 ?k5 ?kK ?kT ?kd ?ku ?_; (case k1 => k_asm); (case k2 => k_asm); (case k3 => k_asm); (case k4 => k_asm); (case k5 => k_asm); (case kK => exact rfl); (case kT => exact (fm_ok (by with_reducible assumption) (by with_reducible assumption))); (case kd => ktr_room); (case ku => ktr_units)); intro v' n' h' tk' hR' F' N'; obtain ⟨T', x', y', a', b', n', h1', hx', hy', h2'⟩ := hR'; subst h1'; subst h2'; obtain ⟨x0', x1'⟩ := hx'; obtain ⟨y0', y1'⟩ := hy'))
theorem bi_v {news : List (Addr × Obj)} {b : Array UInt8} {t0 : Tok} {v : Int} (hs : b.size = 32) (hv : (beN b : Int) = v) : Tell w p loose mean mg mb 42 1 20 news [.bytes b t0] (fun r news' => ∃ t, r = .int v t ∧ news' = news) := hv ▸ bi_ok hs
local macro_rules | `(tactic| walk_at "call ref") => `(tactic| (k_here; (with_reducible show wpAny _ _ (call (Value.ref 42) _) _ _ _); k_dflt (refine' Tell.use ?k1 ?k2 ?k3 ?k4 ?k5 ?kK ?kT ?kd ?ku ?_; (case k1 => k_asm); (case k2 => k_asm); (case k3 => k_asm); (case k4 => k_asm); (case k5 => k_asm); (case kK => exact rfl); (case kT => exact (bi_v (by with_reducible assumption) (by with_reducible assumption))); (case kd => ktr_room); (case ku => ktr_units)); intro v' n' h' tk' hR' F' N'; obtain ⟨t', h1', h2'⟩ := hR'; subst h1'; subst h2'))
local macro_rules | `(tactic| walk_at "call ref") => `(tactic| (k_here; (with_reducible show wpAny _ _ (call (Value.ref 565) _) _ _ _); k_dflt (refine' Tell.use ?k1 ?k2 ?k3 ?k4 ?k5 ?kK ?kT ?kd ?ku ?_; (case k1 => k_asm); (case k2 => k_asm); (case k3 => k_asm); (case k4 => k_asm); (case k5 => k_asm); (case kK => exact rfl); (case kT => exact (erp_ok (by with_reducible assumption) (by with_reducible assumption) (by with_reducible assumption) (by with_reducible assumption))); (case kd => ktr_room); (case ku => ktr_units)); intro v' n' h' tk' hR' F' N'; obtain ⟨b', t', hb', h1', h2'⟩ := hR'; subst h1'; subst h2'))
theorem ppk_ok {news : List (Addr × Obj)} {b : Array UInt8} {v : Int} {t0 : Tok} (hs : b.size = 32) (hv : (beN b : Int) = v) (h1 : 1 ≤ v) (h2 : v ≤ 30) :
    Tell w p loose mean mg mb 572 38 900 news [.bytes b t0]
      (fun r news' => ∃ b t, b.size = 64 ∧ r = .bytes b t ∧ news' = news) := by
  unfold Tell
  intro dp un gd cn cs a' ccd cl outer A₀ base h₀ L m s Q E B F X N T hk hdp hun hret
  refine fillT _ ?_
  k_fill
  intro _
  refine wpAny_call ?_
  k_dflt cell_enter
  k_steps
  all_goals first | (exfalso; omega) | ((rename Fr _ _ _ _ => kF); (rename News _ _ _ _ => kN); exact hret _ _ _ _ ⟨_, _, by assumption, rfl, rfl⟩ kF kN)
end
section
open PySem PySem.W PyProof.Rows
set_option maxRecDepth 100000
set_option maxHeartbeats 1600000
local macro_rules | `(tactic| walk_at "idle 0") => `(tactic| skip)
variable {w : World} {p : Program} {loose : List Str} {mean : ExcName → Option Value} {mg mb : Str → Option Value}
/-- as Tell, of a call with keywords -/
def TellK (w : World) (p : Program) (loose : List Str) (mean : ExcName → Option Value) (mg mb : Str → Option Value) (f : Addr) (D U : Nat) (news : List (Addr × Obj)) (vs : List Value) (kw : List (Str × Value)) (R : Value → List (Addr × Obj) → Prop) : Prop :=
  ∀ (dp un : Nat) (gd : Option (List Code)) (cn : Str) (cs : Scope) (a : Addr) (ccd : Value) (cl : List (Str × Addr)) (outer : List Env) (A₀ : Around) (base h₀ : Heap) (L : Addr) (m : Str → Option Value) (s : Shared) (Q E : Value → Shared → Prop),
    Below A₀ base outer h₀ → Fr h₀ L s.heap m → (hd.heap_39 w.params).In h₀ → News h₀ L s.heap news → Top p loose mean mg mb h₀ → cs.kind = .function → dp + D < recursionLimit → un + U < cLine →
    (∀ v news' h' tk', R v news' → Fr h₀ L h' m → News h₀ L h' news' → Q v { s with heap := h', toks := tk' }) →
    wpAny (model PySem.Challenge.pw_vj0010_01 w) (ktrTop dp un gd cn cs L a ccd cl outer) (call (.ref f) vs kw) Q E s
theorem TellK.use {f : Addr} {D U : Nat} {news : List (Addr × Obj)} {vs : List Value} {kw : List (Str × Value)} {R : Value → List (Addr × Obj) → Prop}
    {dp un : Nat} {gd : Option (List Code)} {cn : Str} {cs : Scope} {a : Addr} {ccd : Value} {cl : List (Str × Addr)} {outer : List Env} {A₀ : Around} {base h₀ : Heap} {L : Addr} {m : Str → Option Value} {s : Shared} {Q E : Value → Shared → Prop}
    (B : Below A₀ base outer h₀) (F : Fr h₀ L s.heap m) (X : (hd.heap_39 w.params).In h₀) (N : News h₀ L s.heap news) (T : Top p loose mean mg mb h₀) (hk : cs.kind = .function) (C : TellK w p loose mean mg mb f D U news vs kw R) (hd : dp + D < recursionLimit) (hu : un + U < cLine)
    (ret : ∀ v news' h' tk', R v news' → Fr h₀ L h' m → News h₀ L h' news' → Q v { s with heap := h', toks := tk' }) :
    wpAny (model PySem.Challenge.pw_vj0010_01 w) (ktrTop dp un gd cn cs L a ccd cl outer) (call (.ref f) vs kw) Q E s :=
  C _ _ _ _ _ _ _ _ _ _ _ _ _ _ _ _ _ B F X N T hk hd hu ret
local macro_rules | `(tactic| walk_at "call ref") => `(tactic| (k_here; (with_reducible show wpAny _ _ (call (Value.ref 116) _) _ _ _); k_dflt (refine' Tell.use ?k1 ?k2 ?k3 ?k4 ?k5 ?kK ?kT ?kd ?ku ?_; (case k1 => k_asm); (case k2 => k_asm); (case k3 => k_asm); (case k4 => k_asm); (case k5 => k_asm); (case kK => exact rfl); (case kT => exact vi_ok); (case kd => ktr_room); (case ku => ktr_units)); intro v' n' h' tk' hR' F' N'; obtain ⟨h1', h2'⟩ := hR'; subst h1'; subst h2'))
theorem vgte_ok {news : List (Addr × Obj)} {v mn : Int} {t0 t1 : Tok} (h : mn ≤ v) :
    Tell w p loose mean mg mb 130 3 60 news [.int v t0, .int mn t1]
      (fun r news' => r = .none ∧ news' = news) := by
  unfold Tell
  intro dp un gd cn cs a' ccd cl outer A₀ base h₀ L m s Q E B F X N T hk hdp hun hret
  refine fillT _ ?_
  k_fill
  intro _
  refine wpAny_call ?_
  k_dflt cell_enter
  k_steps
  all_goals first | (exfalso; omega) | skip
  all_goals
    (rename Fr _ _ _ _ => kF); (rename News _ _ _ _ => kN)
    first | contradiction | (exfalso; omega) | exact hret _ _ _ _ ⟨rfl, rfl⟩ kF kN | exact hret _ _ _ _ ⟨rfl, rfl⟩ kF (cb_drop kN (fun _ h => .tail _ h))
theorem vlte_ok {news : List (Addr × Obj)} {v mx : Int} {t0 t1 : Tok} (h : v ≤ mx) :
    TellK w p loose mean mg mb 137 3 60 news [.int v t0] [(Str.ofString "maximum", .int mx t1)]
      (fun r news' => r = .none ∧ news' = news) := by
  unfold TellK
  intro dp un gd cn cs a' ccd cl outer A₀ base h₀ L m s Q E B F X N T hk hdp hun hret
  refine fillT _ ?_
  k_fill
  intro _
  refine wpAny_call ?_
  k_dflt cell_enter
  k_steps
  all_goals first | (exfalso; omega) | skip
  all_goals
    (rename Fr _ _ _ _ => kF); (rename News _ _ _ _ => kN)
    first | contradiction | (exfalso; omega) | exact hret _ _ _ _ ⟨rfl, rfl⟩ kF kN | exact hret _ _ _ _ ⟨rfl, rfl⟩ kF (cb_drop kN (fun _ h => .tail _ h))
local macro_rules | `(tactic| walk_at "call ref") => `(tactic| (k_here; (with_reducible show wpAny _ _ (call (Value.ref 137) _ _) _ _ _); k_dflt (refine' TellK.use ?k1 ?k2 ?k3 ?k4 ?k5 ?kK ?kT ?kd ?ku ?_; (case k1 => k_asm); (case k2 => k_asm); (case k3 => k_asm); (case k4 => k_asm); (case k5 => k_asm); (case kK => exact rfl); (case kT => exact (vlte_ok (by omega))); (case kd => ktr_room); (case ku => ktr_units)); intro v' n' h' tk' hR' F' N'; obtain ⟨h1', h2'⟩ := hR'; subst h1'; subst h2'))
theorem vlt_ok {news : List (Addr × Obj)} {v : Int} {t0 : Tok} (h : v ≤ 30) :
    Tell w p loose mean mg mb 144 4 90 news [.int v t0]
      (fun r news' => r = .none ∧ news' = news) := by
  unfold Tell
  intro dp un gd cn cs a' ccd cl outer A₀ base h₀ L m s Q E B F X N T hk hdp hun hret
  refine fillT _ ?_
  k_fill
  intro _
  refine wpAny_call ?_
  k_dflt cell_enter
  k_steps
  all_goals first | (exfalso; omega) | skip
  all_goals
    (rename Fr _ _ _ _ => kF); (rename News _ _ _ _ => kN)
    first | contradiction | (exfalso; omega) | exact hret _ _ _ _ ⟨rfl, rfl⟩ kF kN | exact hret _ _ _ _ ⟨rfl, rfl⟩ kF (cb_drop kN (fun _ h => .tail _ h))
theorem bi_v2 {news : List (Addr × Obj)} {b : Array UInt8} {t0 : Tok} {v : Int} (hs : (b.size : Int) = 32) (hv : (beN b : Int) = v) : Tell w p loose mean mg mb 42 1 20 news [.bytes b t0] (fun r news' => ∃ t, r = .int v t ∧ news' = news) := bi_v (by omega) hv
local macro_rules | `(tactic| walk_at "call ref") => `(tactic| (k_here; (with_reducible show wpAny _ _ (call (Value.ref 42) _) _ _ _); k_dflt (refine' Tell.use ?k1 ?k2 ?k3 ?k4 ?k5 ?kK ?kT ?kd ?ku ?_; (case k1 => k_asm); (case k2 => k_asm); (case k3 => k_asm); (case k4 => k_asm); (case k5 => k_asm); (case kK => exact rfl); (case kT => exact (bi_v2 (by with_reducible assumption) (by with_reducible assumption))); (case kd => ktr_room); (case ku => ktr_units)); intro v' n' h' tk' hR' F' N'; obtain ⟨t', h1', h2'⟩ := hR'; subst h1'; subst h2'))
local macro_rules | `(tactic| walk_at "call ref") => `(tactic| (k_here; (with_reducible show wpAny _ _ (call (Value.ref 123) _) _ _ _); k_dflt (refine' Tell.use ?k1 ?k2 ?k3 ?k4 ?k5 ?kK ?kT ?kd ?ku ?_; (case k1 => k_asm); (case k2 => k_asm); (case k3 => k_asm); (case k4 => k_asm); (case k5 => k_asm); (case kK => exact rfl); (case kT => exact vb_ok); (case kd => ktr_room); (case ku => ktr_units)); intro v' n' h' tk' hR' F' N'; obtain ⟨h1', h2'⟩ := hR'; subst h1'; subst h2'))
local macro_rules | `(tactic| walk_at "call ref") => `(tactic| (k_here; (with_reducible show wpAny _ _ (call (Value.ref 151) _) _ _ _); k_dflt (refine' Tell.use ?k1 ?k2 ?k3 ?k4 ?k5 ?kK ?kT ?kd ?ku ?_; (case k1 => k_asm); (case k2 => k_asm); (case k3 => k_asm); (case k4 => k_asm); (case k5 => k_asm); (case kK => exact rfl); (case kT => exact (vl_ok (by with_reducible assumption) (by decide))); (case kd => ktr_room); (case ku => ktr_units)); intro v' n' h' tk' hR' F' N'; obtain ⟨h1', h2'⟩ := hR'; subst h1'; subst h2'))
local macro_rules | `(tactic| walk_at "call ref") => `(tactic| (k_here; (with_reducible show wpAny _ _ (call (Value.ref 130) _) _ _ _); k_dflt (refine' Tell.use ?k1 ?k2 ?k3 ?k4 ?k5 ?kK ?kT ?kd ?ku ?_; (case k1 => k_asm); (case k2 => k_asm); (case k3 => k_asm); (case k4 => k_asm); (case k5 => k_asm); (case kK => exact rfl); (case kT => exact (vgte_ok (by with_reducible assumption))); (case kd => ktr_room); (case ku => ktr_units)); intro v' n' h' tk' hR' F' N'; obtain ⟨h1', h2'⟩ := hR'; subst h1'; subst h2'))
local macro_rules | `(tactic| walk_at "call ref") => `(tactic| (k_here; (with_reducible show wpAny _ _ (call (Value.ref 144) _) _ _ _); k_dflt (refine' Tell.use ?k1 ?k2 ?k3 ?k4 ?k5 ?kK ?kT ?kd ?ku ?_; (case k1 => k_asm); (case k2 => k_asm); (case k3 => k_asm); (case k4 => k_asm); (case k5 => k_asm); (case kK => exact rfl); (case kT => exact (vlt_ok (by with_reducible assumption))); (case kd => ktr_room); (case ku => ktr_units)); intro v' n' h' tk' hR' F' N'; obtain ⟨h1', h2'⟩ := hR'; subst h1'; subst h2'))
theorem vp_ok {news : List (Addr × Obj)} {b : Array UInt8} {v : Int} {t0 : Tok} (hs : (b.size : Int) = 32) (hv : (beN b : Int) = v) (h1 : 1 ≤ v) (h2 : v ≤ 30) :
    Tell w p loose mean mg mb 165 5 120 news [.bytes b t0]
      (fun r news' => r = .none ∧ news' = news) := by
  unfold Tell
  intro dp un gd cn cs a' ccd cl outer A₀ base h₀ L m s Q E B F X N T hk hdp hun hret
  refine fillT _ ?_
  k_fill
  intro _
  refine wpAny_call ?_
  k_dflt cell_enter
  k_steps
  all_goals first | (exfalso; omega) | skip
  all_goals
    (rename Fr _ _ _ _ => kF); (rename News _ _ _ _ => kN)
    first | contradiction | (exfalso; omega) | exact hret _ _ _ _ ⟨rfl, rfl⟩ kF kN | exact hret _ _ _ _ ⟨rfl, rfl⟩ kF (cb_drop kN (fun _ h => .tail _ h))
end
section
open PySem PySem.W PyProof.Rows
set_option maxRecDepth 100000
set_option maxHeartbeats 1600000
variable {w : World} {p : Program} {loose : List Str} {mean : ExcName → Option Value} {mg mb : Str → Option Value}
local macro_rules | `(tactic| ktr_units) => `(tactic| ((simp only [under_make_units, units_in1, units_deeper, Around.mark_units]); omega))
local macro_rules | `(tactic| walk_at "wpAt") => `(tactic| (dsimp only; ks_step "execs cons"; refine ks_wpAt_execs_cons ?_))
local macro_rules | `(tactic| walk_at "wpAt") => `(tactic| ((with_reducible show PySem.wpAt _ _ _ (exec (Stmt.Expr (Expr.Call (Expr.Attribute (Expr.Call _ _ _ _) _ _) _ _ _) _) _) _ _ _); k_dflt (refine ks_wpAt_Expr_any ?_)))
local macro_rules | `(tactic| walk_at "wpAt") => `(tactic| ((with_reducible show PySem.wpAt _ _ _ (eval (Expr.Call (Expr.Attribute (Expr.Call _ _ _ _) _ _) _ _ _) _) _ _ _); k_dflt (refine wpAt_MethodCallK ?_)))
local macro_rules | `(tactic| walk_at "setAttr ref") => `(tactic| (k_here; k_dflt (refine' set_prop ?k1 ?k2 ?k3 ?k4 ?k5 ?k6 ?k7 ?k8 ?_; (case k1 => k_asm); (case k2 => k_asm); (case k3 => k_inst); (case k4 => k_is); (case k5 => k_is); (case k6 => k_is); (case k7 => k_is); (case k8 => k_is); (refine' code_def ?k1 ?k2 ?k3 ?k4 ?k5 ?kA ?kF ?kK ?k6 ?k7 ?k8 ?k9 ?kB ?_ ?c2 ?c3 ?c4 ?c5; (case kA => exact rfl); (case kF => exact rfl); (case kK => first | exact rfl | assumption); (case k1 => k_asm); (case k2 => k_asm); (case k3 => k_asm); (case k4 => k_asm); (case k5 => k_asm); (case k6 => k_is); (case k7 => k_is); (case k8 => ktr_room); (case k9 => first | exact BindsTo.of_eq rfl | exact binds_K (by k_in) rfl (by k_is) rfl rfl rfl); (case c5 => decide); (case kB => exact locs rfl); (case c2 => exact rfl); (case c3 => exact rfl); (case c4 => exact rfl); intro g' L' h' FG' F' N' B' X' T'; (try dsimp only); (try k_lift B'); (try k_fold)))))
local macro_rules | `(tactic| walk_at "callWith ref") => `(tactic| (k_here; k_dflt (refine' callWith_MK0 ?k1 ?k2 ?k3 ?_; (case k1 => k_meth); (case k2 => k_is); (case k3 => exact rfl))))
local macro_rules | `(tactic| walk_at "call ref") => `(tactic| (k_here; k_dflt (refine' call_meth ?k1 ?k2 ?_; (case k1 => k_asm); (case k2 => k_mem); (refine' code_def ?k1 ?k2 ?k3 ?k4 ?k5 ?kA ?kF ?kK ?k6 ?k7 ?k8 ?k9 ?kB ?_ ?c2 ?c3 ?c4 ?c5; (case kA => exact rfl); (case kF => exact rfl); (case kK => first | exact rfl | assumption); (case k1 => k_asm); (case k2 => k_asm); (case k3 => k_asm); (case k4 => k_asm); (case k5 => k_asm); (case k6 => k_is); (case k7 => k_is); (case k8 => ktr_room); (case k9 => first | exact BindsTo.of_eq rfl | exact binds_K (by k_in) rfl (by k_is) rfl rfl rfl); (case c5 => decide); (case kB => exact locs rfl); (case c2 => exact rfl); (case c3 => exact rfl); (case c4 => exact rfl); intro g' L' h' FG' F' N' B' X' T'; (try dsimp only); (try k_lift B'); (try k_fold)))))
local macro_rules | `(tactic| walk_at "call ref") => `(tactic| (k_here; (with_reducible show wpAny _ _ (call (Value.ref 158) _) _ _ _); k_dflt (refine' Tell.use ?k1 ?k2 ?k3 ?k4 ?k5 ?kK ?kT ?kd ?ku ?_; (case k1 => k_asm); (case k2 => k_asm); (case k3 => k_asm); (case k4 => k_asm); (case k5 => k_asm); (case kK => exact rfl); (case kT => exact (vu_ok (by assumption))); (case kd => ktr_room); (case ku => ktr_units)); intro v' n' h' tk' hR' F' N'; obtain ⟨h1', h2'⟩ := hR'; subst h1'; subst h2'))
theorem pkK_ok {news : List (Addr × Obj)} {b : Array UInt8} {t0 : Tok} {K : Addr} (hs : (b.size : Int) = 64) :
    TellK w p loose mean mg mb 394 10 200 news [.bytes b t0] [(Str.ofString "backend", .ref K)]
      (fun r news' => PubIs w.params b t0 (.ref K) news r news') := by
  unfold TellK
  intro dp un gd cn cs a' ccd cl outer A₀ base h₀ L m s Q E B F X N T hk hdp hun hret
  refine fillT _ ?_
  k_fill
  intro _
  k_dflt (refine' call_cls ?k1 ?k2 ?k3 ?k4 ?k5 ?k6 ?_; (case k1 => k_asm); (case k2 => k_asm); (case k3 => k_asm); (case k4 => k_is); (case k5 => k_is); (case k6 => k_is); intro x' d' h' F' N' l1 l2; (have l0 := l1); (try k_lt l1); (try k_lt2 l2); (refine' ks_code_super ?k1 ?k2 ?k3 ?k4 ?k5 ?kA ?kF ?kK ?k6 ?k7 ?k8 ?k9 ?kB ?_ ?c1 ?c2 ?c3 ?c4; (case kA => exact rfl); (case kF => exact rfl); (case kK => assumption); (case k1 => k_asm); (case k2 => k_asm); (case k3 => k_asm); (case k4 => k_asm); (case k5 => k_asm); (case k6 => k_is); (case k7 => k_is); (case k8 => ktr_room); (case k9 => exact binds_K (by k_in) rfl (by k_is) rfl rfl rfl); (case kB => exact locs rfl); (case c1 => decide); (case c2 => exact rfl); (case c3 => exact rfl); (case c4 => exact rfl); intro g' L' h' FG' F' N' B' X' T' l1; (try k_lt l1); (try dsimp only); (try k_lift B')))
  k_steps
  (rename Fr _ _ _ _ => kF); (rename News _ _ _ _ => kN)
  refine hret _ _ _ _ ⟨x', d', _, _, rfl, rfl, l2, l0⟩ kF (cb_drop kN (fun _ h => .tail _ (.tail _ h)))
end
section
open PySem PySem.W PyProof.Rows
set_option maxRecDepth 100000
set_option maxHeartbeats 1600000
variable {w : World} {p : Program} {loose : List Str} {mean : ExcName → Option Value} {mg mb : Str → Option Value}
def PubAt (d x : Addr) (news : List (Addr × Obj)) : Prop := d < x ∧ ∀ p ∈ news, p.1 < d
abbrev pubDict (P : Params) (b : Array UInt8) (t0 k1 k2 : Tok) (K : Value) : Obj := dictOf [{ hash := PyData.keyHash P (Str.ofString "_raw_key"), key := .str (Str.ofString "_raw_key") k1, val := .bytes b t0 }, { hash := PyData.keyHash P (Str.ofString "_backend"), key := .str (Str.ofString "_backend") k2, val := K }] 2
abbrev secDict (P : Params) (b : Array UInt8) (t0 k1 k2 k3 : Tok) (K x : Value) : Obj := dictOf [{ hash := PyData.keyHash P (Str.ofString "_raw_key"), key := .str (Str.ofString "_raw_key") k1, val := .bytes b t0 }, { hash := PyData.keyHash P (Str.ofString "_backend"), key := .str (Str.ofString "_backend") k2, val := K }, { hash := PyData.keyHash P (Str.ofString "public_key"), key := .str (Str.ofString "public_key") k3, val := x }] 3
/-- a private key, with its public key, made ahead of news -/
def SecIs (P : Params) (b : Array UInt8) (t0 : Tok) (K : Value) (news : List (Addr × Obj)) (r : Value) (news' : List (Addr × Obj)) : Prop :=
  ∃ s ds j1 j2 j3 x d k1 k2 b' t', b'.size = 64 ∧ r = .ref s ∧ news' = (s, instObj 444 ds) :: (ds, secDict P b t0 j1 j2 j3 K (.ref x)) :: (x, instObj 394 d) :: (d, pubDict P b' t' k1 k2 K) :: news ∧ PubAt d x news
theorem sec_close {h₀ : Heap} {L : Addr} {m : Str → Option Value} {s : Shared} {Q : Value → Shared → Prop} {P : Params} {b b' : Array UInt8} {t0 t' j1 j2 j3 k1 k2 : Tok} {x d sA ds : Addr} {news all mid : List (Addr × Obj)} {K : Value} {h' : Heap} {tk' : Nat}
    (hret : ∀ v news' h' tk', SecIs P b t0 K news v news' → Fr h₀ L h' m → News h₀ L h' news' → Q v { s with heap := h', toks := tk' }) (kF : Fr h₀ L h' m) (kN : News h₀ L h' all) (pA : PubAt d x mid)
    (m1 : (sA, instObj 444 ds) ∈ all) (m2 : (ds, secDict P b t0 j1 j2 j3 K (.ref x)) ∈ all) (m3 : (x, instObj 394 d) ∈ all) (m4 : (d, pubDict P b' t' k1 k2 K) ∈ all) (hb : b'.size = 64) (s1 : ∀ q ∈ news, q ∈ mid) (s2 : ∀ q ∈ news, q ∈ all) : Q (.ref sA) { s with heap := h', toks := tk' } := by
  refine hret _ _ h' tk' ⟨sA, ds, j1, j2, j3, x, d, k1, k2, b', t', hb, rfl, rfl, pA.1, fun q hq => pA.2 q (s1 q hq)⟩ kF (cb_drop kN fun q hq => ?_)
  rcases List.mem_cons.mp hq with rfl | hq
  · exact m1
  rcases List.mem_cons.mp hq with rfl | hq
  · exact m2
  rcases List.mem_cons.mp hq with rfl | hq
  · exact m3
  rcases List.mem_cons.mp hq with rfl | hq
  · exact m4
  · exact s2 q hq
local macro_rules | `(tactic| ktr_units) => `(tactic| ((simp only [under_make_units, units_in1, units_deeper, Around.mark_units]); omega))
local macro_rules | `(tactic| walk_at "wpAt") => `(tactic| (dsimp only; ks_step "execs cons"; refine ks_wpAt_execs_cons ?_))
local macro_rules | `(tactic| walk_at "wpAt") => `(tactic| ((with_reducible show PySem.wpAt _ _ _ (exec (Stmt.Expr (Expr.Call (Expr.Attribute (Expr.Call _ _ _ _) _ _) _ _ _) _) _) _ _ _); k_dflt (refine ks_wpAt_Expr_any ?_)))
local macro_rules | `(tactic| walk_at "wpAt") => `(tactic| ((with_reducible show PySem.wpAt _ _ _ (eval (Expr.Call (Expr.Attribute (Expr.Call _ _ _ _) _ _) _ _ _) _) _ _ _); k_dflt (refine wpAt_MethodCallK ?_)))
local macro_rules | `(tactic| walk_at "setAttr ref") => `(tactic| (k_here; k_dflt (refine' set_prop ?k1 ?k2 ?k3 ?k4 ?k5 ?k6 ?k7 ?k8 ?_; (case k1 => k_asm); (case k2 => k_asm); (case k3 => k_inst); (case k4 => k_is); (case k5 => k_is); (case k6 => k_is); (case k7 => k_is); (case k8 => k_is); (refine' code_def ?k1 ?k2 ?k3 ?k4 ?k5 ?kA ?kF ?kK ?k6 ?k7 ?k8 ?k9 ?kB ?_ ?c2 ?c3 ?c4 ?c5; (case kA => exact rfl); (case kF => exact rfl); (case kK => first | exact rfl | assumption); (case k1 => k_asm); (case k2 => k_asm); (case k3 => k_asm); (case k4 => k_asm); (case k5 => k_asm); (case k6 => k_is); (case k7 => k_is); (case k8 => ktr_room); (case k9 => first | exact BindsTo.of_eq rfl | exact binds_K (by k_in) rfl (by k_is) rfl rfl rfl); (case c5 => decide); (case kB => exact locs rfl); (case c2 => exact rfl); (case c3 => exact rfl); (case c4 => exact rfl); intro g' L' h' FG' F' N' B' X' T'; (try dsimp only); (try k_lift B'); (try k_fold)))))
local macro_rules | `(tactic| walk_at "callWith ref") => `(tactic| (k_here; k_dflt (refine' callWith_MK0 ?k1 ?k2 ?k3 ?_; (case k1 => k_meth); (case k2 => k_is); (case k3 => exact rfl))))
local macro_rules | `(tactic| walk_at "call ref") => `(tactic| (k_here; k_dflt (refine' call_meth ?k1 ?k2 ?_; (case k1 => k_asm); (case k2 => k_mem); (refine' code_def ?k1 ?k2 ?k3 ?k4 ?k5 ?kA ?kF ?kK ?k6 ?k7 ?k8 ?k9 ?kB ?_ ?c2 ?c3 ?c4 ?c5; (case kA => exact rfl); (case kF => exact rfl); (case kK => first | exact rfl | assumption); (case k1 => k_asm); (case k2 => k_asm); (case k3 => k_asm); (case k4 => k_asm); (case k5 => k_asm); (case k6 => k_is); (case k7 => k_is); (case k8 => ktr_room); (case k9 => first | exact BindsTo.of_eq rfl | exact binds_K (by k_in) rfl (by k_is) rfl rfl rfl); (case c5 => decide); (case kB => exact locs rfl); (case c2 => exact rfl); (case c3 => exact rfl); (case c4 => exact rfl); intro g' L' h' FG' F' N' B' X' T'; (try dsimp only); (try k_lift B'); (try k_fold)))))
local macro_rules | `(tactic| walk_at "getAttr ref") => `(tactic| (k_here; k_dflt (refine' get_prop ?k1 ?k2 ?k3 ?k4 ?k5 ?k6 ?k7 ?k8 ?k9 ?_; (case k1 => k_asm); (case k2 => k_asm); (case k3 => k_inst); (case k4 => k_is); (case k5 => k_is); (case k6 => k_is); (case k7 => k_is); (case k8 => k_is); (case k9 => k_is); (refine' code_def ?k1 ?k2 ?k3 ?k4 ?k5 ?kA ?kF ?kK ?k6 ?k7 ?k8 ?k9 ?kB ?_ ?c2 ?c3 ?c4 ?c5; (case kA => exact rfl); (case kF => exact rfl); (case kK => first | exact rfl | assumption); (case k1 => k_asm); (case k2 => k_asm); (case k3 => k_asm); (case k4 => k_asm); (case k5 => k_asm); (case k6 => k_is); (case k7 => k_is); (case k8 => ktr_room); (case k9 => first | exact BindsTo.of_eq rfl | exact binds_K (by k_in) rfl (by k_is) rfl rfl rfl); (case c5 => decide); (case kB => exact locs rfl); (case c2 => exact rfl); (case c3 => exact rfl); (case c4 => exact rfl); intro g' L' h' FG' F' N' B' X' T'; (try dsimp only); (try k_lift B'); (try k_fold)))))
local macro_rules | `(tactic| walk_at "call ref") => `(tactic| (k_here; (with_reducible show wpAny _ _ (call (Value.ref _) [Value.ref _, Value.ref _]) _ _ _); k_dflt (refine wpAny_call ?_; (refine' code_def ?k1 ?k2 ?k3 ?k4 ?k5 ?kA ?kF ?kK ?k6 ?k7 ?k8 ?k9 ?kB ?_ ?c2 ?c3 ?c4 ?c5; (case kA => exact rfl); (case kF => exact rfl); (case kK => first | exact rfl | assumption); (case k1 => k_asm); (case k2 => k_asm); (case k3 => k_asm); (case k4 => k_asm); (case k5 => k_asm); (case k6 => k_is); (case k7 => k_is); (case k8 => ktr_room); (case k9 => first | exact BindsTo.of_eq rfl | exact binds_K (by k_in) rfl (by k_is) rfl rfl rfl); (case c5 => decide); (case kB => exact locs rfl); (case c2 => exact rfl); (case c3 => exact rfl); (case c4 => exact rfl); intro g' L' h' FG' F' N' B' X' T'; (try dsimp only); (try k_lift B'); (try k_fold)))))
local macro_rules | `(tactic| walk_at "call ref") => `(tactic| (k_here; (with_reducible show wpAny _ _ (call (Value.ref _) [Value.ref _]) _ _ _); k_dflt (refine wpAny_call ?_; (refine' code_def ?k1 ?k2 ?k3 ?k4 ?k5 ?kA ?kF ?kK ?k6 ?k7 ?k8 ?k9 ?kB ?_ ?c2 ?c3 ?c4 ?c5; (case kA => exact rfl); (case kF => exact rfl); (case kK => first | exact rfl | assumption); (case k1 => k_asm); (case k2 => k_asm); (case k3 => k_asm); (case k4 => k_asm); (case k5 => k_asm); (case k6 => k_is); (case k7 => k_is); (case k8 => ktr_room); (case k9 => first | exact BindsTo.of_eq rfl | exact binds_K (by k_in) rfl (by k_is) rfl rfl rfl); (case c5 => decide); (case kB => exact locs rfl); (case c2 => exact rfl); (case c3 => exact rfl); (case c4 => exact rfl); intro g' L' h' FG' F' N' B' X' T'; (try dsimp only); (try k_lift B'); (try k_fold)))))
local macro_rules | `(tactic| walk_at "call ref") => `(tactic| (k_here; (with_reducible show wpAny _ _ (call (Value.ref 225) _) _ _ _); k_dflt (refine wpAny_call ?_; (refine' code_def ?k1 ?k2 ?k3 ?k4 ?k5 ?kA ?kF ?kK ?k6 ?k7 ?k8 ?k9 ?kB ?_ ?c2 ?c3 ?c4 ?c5; (case kA => exact rfl); (case kF => exact rfl); (case kK => first | exact rfl | assumption); (case k1 => k_asm); (case k2 => k_asm); (case k3 => k_asm); (case k4 => k_asm); (case k5 => k_asm); (case k6 => k_is); (case k7 => k_is); (case k8 => ktr_room); (case k9 => first | exact BindsTo.of_eq rfl | exact binds_K (by k_in) rfl (by k_is) rfl rfl rfl); (case c5 => decide); (case kB => exact locs rfl); (case c2 => exact rfl); (case c3 => exact rfl); (case c4 => exact rfl); intro g' L' h' FG' F' N' B' X' T'; (try dsimp only); (try k_lift B'); (try k_fold)))))
local macro_rules | `(tactic| walk_at "call ref") => `(tactic| (k_here; (with_reducible show wpAny _ _ (call (Value.ref 165) _) _ _ _); k_dflt (refine' Tell.use ?k1 ?k2 ?k3 ?k4 ?k5 ?kK ?kT ?kd ?ku ?_; (case k1 => k_asm); (case k2 => k_asm); (case k3 => k_asm); (case k4 => k_asm); (case k5 => k_asm); (case kK => exact rfl); (case kT => exact (vp_ok (by with_reducible assumption) (by with_reducible assumption) (by with_reducible assumption) (by with_reducible assumption))); (case kd => ktr_room); (case ku => ktr_units)); intro v' n' h' tk' hR' F' N'; obtain ⟨h1', h2'⟩ := hR'; subst h1'; subst h2'))
local macro_rules | `(tactic| walk_at "call ref") => `(tactic| (k_here; (with_reducible show wpAny _ _ (call (Value.ref 572) _) _ _ _); k_dflt (refine' Tell.use ?k1 ?k2 ?k3 ?k4 ?k5 ?kK ?kT ?kd ?ku ?_; (case k1 => k_asm); (case k2 => k_asm); (case k3 => k_asm); (case k4 => k_asm); (case k5 => k_asm); (case kK => exact rfl); (case kT => exact (ppk_ok (by with_reducible assumption) (by with_reducible assumption) (by with_reducible assumption) (by with_reducible assumption))); (case kd => ktr_room); (case ku => ktr_units)); intro v' n' h' tk' hR' F' N'; obtain ⟨b', t', hb', h1', h2'⟩ := hR'; subst h1'; subst h2'; (have hb8 : (b'.size : Int) = 64 := by rw [hb']; rfl)))
local macro_rules | `(tactic| walk_at "call ref") => `(tactic| (k_here; (with_reducible show wpAny _ _ (call (Value.ref 394) _ _) _ _ _); k_dflt (refine' TellK.use ?k1 ?k2 ?k3 ?k4 ?k5 ?kK ?kT ?kd ?ku ?_; (case k1 => k_asm); (case k2 => k_asm); (case k3 => k_asm); (case k4 => k_asm); (case k5 => k_asm); (case kK => exact rfl); (case kT => exact pkK_ok (by with_reducible assumption)); (case kd => ktr_room); (case ku => ktr_units)); intro v' n' h' tk' hR' F' N'; obtain ⟨x', d', k1', k2', h1', h2', l2', l1'⟩ := hR'; (have pq9 : PubAt d' x' _ := ⟨l2', l1'⟩); (have l1 := l1'); (have l2 := l2'); (try k_lt l1); (try k_lt2 l2); subst h1'; subst h2'))
theorem sk_ok {news : List (Addr × Obj)} {b : Array UInt8} {t0 kd : Tok} {K dk : Addr} {v : Int} (hs : b.size = 32) (hv : (beN b : Int) = v) (h1 : 1 ≤ v) (h2 : v ≤ 30) :
    Tell w p loose mean mg mb 444 60 1500 ((K, instObj 639 dk) :: (dk, dictOf [{ hash := PyData.keyHash w.params (Str.ofString "digest_fn"), key := .str (Str.ofString "digest_fn") kd, val := .none }] 1) :: news) [.bytes b t0, .ref K]
      (SecIs w.params b t0 (.ref K) news) := by
  unfold Tell
  intro dp un gd cn cs a' ccd cl outer A₀ base h₀ L m s Q E B F X N T hk hdp hun hret
  have hs2 : (b.size : Int) = 32 := by rw [hs]; rfl
  refine fillT _ ?_
  k_fill
  intro _
  k_dflt (refine' call_cls ?k1 ?k2 ?k3 ?k4 ?k5 ?k6 ?_; (case k1 => k_asm); (case k2 => k_asm); (case k3 => k_asm); (case k4 => k_is); (case k5 => k_is); (case k6 => k_is); intro x' d' h' F' N' l1 l2; (have l0 := l1); (try k_lt l1); (try k_lt2 l2); (refine' ks_code_super ?k1 ?k2 ?k3 ?k4 ?k5 ?kA ?kF ?kK ?k6 ?k7 ?k8 ?k9 ?kB ?_ ?c1 ?c2 ?c3 ?c4; (case kA => exact rfl); (case kF => exact rfl); (case kK => assumption); (case k1 => k_asm); (case k2 => k_asm); (case k3 => k_asm); (case k4 => k_asm); (case k5 => k_asm); (case k6 => k_is); (case k7 => k_is); (case k8 => ktr_room); (case k9 => exact binds_K (by k_in) rfl (by k_is) rfl rfl rfl); (case kB => exact locs rfl); (case c1 => decide); (case c2 => exact rfl); (case c3 => exact rfl); (case c4 => exact rfl); intro g' L' h' FG' F' N' B' X' T' l1; (try k_lt l1); (try dsimp only); (try k_lift B')))
  k_steps
  (rename Fr _ _ _ _ => kF); (rename News _ _ _ _ => kN); (with_reducible rename PubAt _ _ _ => pA); (with_reducible rename _ = 64 => hb6)
  refine' sec_close hret kF kN pA ?m1 ?m2 ?m3 ?m4 ?hb ?s1 ?s2
  case m1 => k_mem
  case m2 => k_mem
  case m3 => k_mem
  case m4 => k_mem
  case hb => assumption
  case s1 => (intro q hq; simp only [List.mem_cons, hq, or_true])
  case s2 => (intro q hq; simp only [List.mem_cons, hq, or_true])
theorem Tell.led2 {f : Addr} {D U : Nat} {news₁ news₂ : List (Addr × Obj)} {vs : List Value} {R : Value → List (Addr × Obj) → Prop} (C : Tell w p loose mean mg mb f D U news₁ vs R) (h : ∀ q ∈ news₁, q ∈ news₂) : Tell w p loose mean mg mb f D U news₂ vs R := by
  intro dp un gd cn cs a ccd cl outer A₀ base h₀ L m s Q E B F X N T hk hd hu ret
  exact C dp un gd cn cs a ccd cl outer A₀ base h₀ L m s Q E B F X (cb_drop N h) T hk hd hu ret
abbrev backDict (P : Params) (kd : Tok) : Obj := dictOf [{ hash := PyData.keyHash P (Str.ofString "digest_fn"), key := .str (Str.ofString "digest_fn") kd, val := .none }] 1
theorem sk_gen {whole : List (Addr × Obj)} {b : Array UInt8} {t0 kd : Tok} {K dk : Addr} {v : Int} (hK : (K, instObj 639 dk) ∈ whole) (hd : (dk, backDict w.params kd) ∈ whole) (hs : b.size = 32) (hv : (beN b : Int) = v) (h1 : 1 ≤ v) (h2 : v ≤ 30) :
    Tell w p loose mean mg mb 444 60 1500 whole [.bytes b t0, .ref K] (SecIs w.params b t0 (.ref K) whole) :=
  (sk_ok (K := K) (dk := dk) (kd := kd) (news := whole) hs hv h1 h2).led2 fun q hq => by
    rcases List.mem_cons.mp hq with rfl | hq
    · exact hK
    rcases List.mem_cons.mp hq with rfl | hq
    · exact hd
    · exact hq
end
section
open PySem PySem.W PyProof.Rows
set_option maxRecDepth 100000
set_option maxHeartbeats 1600000
local macro_rules | `(tactic| walk_at "idle 0") => `(tactic| skip)
variable {w : World} {p : Program} {loose : List Str} {mean : ExcName → Option Value} {mg mb : Str → Option Value}
/-- what the law's key-maker hands back -/
def KeyIs (P : Params) (l D : Addr) (n k : Nat) (ws : List Value) (rest : List (Addr × Obj)) (K : Value) (v : Value) (news' : List (Addr × Obj)) : Prop :=
  ∃ b t0 x d k1 k2 at1 ta, b.size = 64 ∧ 0 ≤ at1 ∧ at1 < 100 ∧ v = .ref x ∧ news' = (x, instObj 394 d) :: (d, pubDict P b t0 k1 k2 K) :: (l, W.listOf #[.ref D, .int at1 ta] n) :: (D, W.listOf ws.toArray k) :: rest ∧ PubAt d x ((l, W.listOf #[.ref D, .int at1 ta] n) :: (D, W.listOf ws.toArray k) :: rest)
theorem key_close {h₀ : Heap} {L : Addr} {m : Str → Option Value} {s : Shared} {Q : Value → Shared → Prop} {P : Params} {b : Array UInt8} {t0 k1 k2 ta : Tok} {x d l D : Addr} {n k : Nat} {ws : List Value} {rest mid : List (Addr × Obj)} {K : Value} {at1 : Int} {h' : Heap} {tk' : Nat}
    (hret : ∀ v news' h' tk', KeyIs P l D n k ws rest K v news' → Fr h₀ L h' m → News h₀ L h' news' → Q v { s with heap := h', toks := tk' }) (kF : Fr h₀ L h' m) (kN : News h₀ L h' ((x, instObj 394 d) :: (d, pubDict P b t0 k1 k2 K) :: mid)) (hb : b.size = 64) (pA : PubAt d x mid)
    (hm1 : (l, W.listOf #[.ref D, .int at1 ta] n) ∈ mid) (a0 : 0 ≤ at1) (a1 : at1 < 100) (hm2 : (D, W.listOf ws.toArray k) ∈ mid) (hm3 : ∀ q ∈ rest, q ∈ mid) : Q (.ref x) { s with heap := h', toks := tk' } := by
  have sub : ∀ q ∈ (l, W.listOf #[.ref D, .int at1 ta] n) :: (D, W.listOf ws.toArray k) :: rest, q ∈ mid := by
    intro q hq
    rcases List.mem_cons.mp hq with rfl | hq
    · exact hm1
    rcases List.mem_cons.mp hq with rfl | hq
    · exact hm2
    · exact hm3 q hq
  refine hret _ _ h' tk' ⟨b, t0, x, d, k1, k2, at1, ta, hb, a0, a1, rfl, rfl, pA.1, fun q hq => pA.2 q (sub q hq)⟩ kF (cb_drop kN fun q hq => ?_)
  rcases List.mem_cons.mp hq with rfl | hq
  · exact .head _
  rcases List.mem_cons.mp hq with rfl | hq
  · exact .tail _ (.head _)
  · exact .tail _ (.tail _ (sub q hq))
theorem small_bits {n : Int} (h0 : 0 ≤ n) (h1 : n ≤ 30) : PySem.Builtin.Int.intBits n ≤ 8 * 32 := Nat.le_trans (intBits_le_of_natAbs (y := 30) (by omega) (Nat.le_refl _)) (by decide)
theorem lo_small {news : List (Addr × Obj)} {n : Int} {t0 : Tok} (h0 : 0 ≤ n) (h1 : n ≤ 30) : Tell w p loose mean mg mb 655 1 20 news [.int n t0] (fun r news' => ∃ t, r = .bytes (toBe n 32) t ∧ news' = news) := lo_ok h0 (small_bits h0 h1)
theorem key_close3 {h₀ : Heap} {L : Addr} {m : Str → Option Value} {s : Shared} {Q : Value → Shared → Prop} {P : Params} {b : Array UInt8} {t0 k1 k2 ta : Tok} {x d l D : Addr} {n k : Nat} {ws : List Value} {rest mid all : List (Addr × Obj)} {K : Value} {at1 : Int} {h' : Heap} {tk' : Nat}
    (hret : ∀ v news' h' tk', KeyIs P l D n k ws rest K v news' → Fr h₀ L h' m → News h₀ L h' news' → Q v { s with heap := h', toks := tk' }) (kF : Fr h₀ L h' m) (kN : News h₀ L h' all) (m1 : (x, instObj 394 d) ∈ all) (m2 : (d, pubDict P b t0 k1 k2 K) ∈ all) (hb : b.size = 64) (pA : PubAt d x mid)
    (hm1 : (l, W.listOf #[.ref D, .int at1 ta] n) ∈ mid) (a0 : 0 ≤ at1) (a1 : at1 < 100) (hm2 : (D, W.listOf ws.toArray k) ∈ mid) (hm3 : ∀ q ∈ rest, q ∈ mid) (hm4 : ∀ q ∈ mid, q ∈ all) : Q (.ref x) { s with heap := h', toks := tk' } :=
  key_close (mid := mid) hret kF (cb_drop kN fun q hq => by
    rcases List.mem_cons.mp hq with rfl | hq
    · exact m1
    rcases List.mem_cons.mp hq with rfl | hq
    · exact m2
    · exact hm4 q hq) hb pA hm1 a0 a1 hm2 hm3
def Hold (P : Prop) : Prop := P
theorem hold {P : Prop} (h : Hold P) : P := h
def boxOf (D : Addr) (at0 : Int) (t : Tok) (n : Nat) : Obj := W.listOf #[.ref D, .int at0 t] n
local macro_rules | `(tactic| walk_at "call ref") => `(tactic| (k_here; (with_reducible show wpAny _ _ (call (Value.ref 648) _) _ _ _); k_dflt (refine' Tell.use ?k1 ?k2 ?k3 ?k4 ?k5 ?kK (take_ok (at0 := _) ?a1 ?a2 ?a3 ?a4 ?a5 ?a6 ?a7 ?a8) ?kd ?ku ?_; (case k1 => k_asm); (case k2 => k_asm); (case k3 => k_asm); (case k4 => k_asm); (case k5 => k_asm); (case kK => exact rfl); (case a1 => assumption); (case a2 => assumption); (case a3 => assumption); (case a4 => decide); (case a5 => decide); (case a6 => decide); (case a7 => decide); (case a8 => assumption); (case kd => ktr_room); (case ku => ktr_units)); intro v' n' h' tk' hR' F' N'; obtain ⟨x', tv', ta', h1', hx0', hx1', h2'⟩ := hR'; subst h1'; subst h2'))
local macro_rules | `(tactic| walk_at "call ref") => `(tactic| (k_here; (with_reducible show wpAny _ _ (call (Value.ref 394) _) _ _ _); k_dflt (refine' Tell.use ?k1 ?k2 ?k3 ?k4 ?k5 ?kK ?kT ?kd ?ku ?_; (case k1 => k_asm); (case k2 => k_asm); (case k3 => k_asm); (case k4 => k_asm); (case k5 => k_asm); (case kK => exact rfl); (case kT => exact pk_ok (by first | with_reducible assumption | rfl)); (case kd => ktr_room); (case ku => ktr_units)); intro v' n' h' tk' hR' F' N'; obtain ⟨x', d', k1', k2', h1', h2', l2', l1'⟩ := hR'; (have pq9 : PubAt d' x' _ := ⟨l2', l1'⟩); subst h1'; subst h2'))
local macro_rules | `(tactic| walk_at "storeName") => `(tactic| (k_here; k_dflt (refine' stFirst ?k1 ?k2 ?k3 ?k4 ?k5 ?k6 ?k7 ?_; (case k1 => k_asm); (case k2 => k_asm); (case k3 => exact rfl); (case k4 => assumption); (case k5 => assumption); (case k6 => assumption); (case k7 => assumption)); intro h' o' F' N' hd'))
local macro_rules | `(tactic| walk_at "eval ListComp") => `(tactic| (k_here; k_dflt (refine LCg.ListComp_U (F₀ := by k_asm) (by with_unfolding_all rfl) (by decide) (by rfl) (by decide) (by rfl) ?_)))
local macro_rules | `(tactic| walk_at "call ref") => `(tactic| (k_here; (with_reducible show wpAny _ _ (call (Value.ref 648) _) _ _ _); (with_reducible rename LCg.Off3 _ _ _ _ => oF9); k_dflt (refine' take_use3 (at0 := _) ?k1 ?k2 ?k3 ?k4 ?k5 ?kK ?a1 ?a2 ?a3 ?a4 ?a5 ?a6 ?a7 oF9 ?a8 ?kd ?ku ?_; (case k1 => k_asm); (case k2 => k_asm); (case k3 => k_asm); (case k4 => k_asm); (case k5 => k_asm); (case kK => exact rfl); (case a1 => assumption); (case a2 => assumption); (case a3 => assumption); (case a4 => omega); (case a5 => omega); (case a6 => decide); (case a7 => decide); (case a8 => assumption); (case kd => ktr_room); (case ku => ktr_units)); intro x' tv' ta' h' tk' hx0' hx1' F' N'))
local macro_rules | `(tactic| walk_at "call type:bytes") => `(tactic| (k_here; (with_reducible show wpAny _ _ (call (Value.type "bytes") [Value.ref _]) _ _ _); k_dflt (refine' callBytes (n := 64) ?k1 ?k2 ?k3 ?k4 ?k5 ?k6 ?_; (case k1 => k_asm); (case k2 => k_asm); (case k3 => rfl); (case k4 => k_mem); (case k5 => assumption); (case k6 => decide)); intro b9 h9 t9 k9 hb9 F9 N9; (have hb8 : (b9.size : Int) = 64 := by rw [hb9]; rfl)))
local macro_rules | `(tactic| walk_at "CompEnd") => `(tactic| (k_dflt (refine' LCg.CompEnd.intro ?k1 ?k2 _ (fun _ h => h) ?k3 trivial ?k4; (case k1 => k_asm); (case k2 => k_asm); (case k3 => assumption); (case k4 => first | exact ⟨Oct.snoc (by assumption) (Int.fmod_nonneg_of_pos _ (by decide)) (Int.fmod_lt_of_pos _ (by decide)), rfl⟩ | exact ⟨Oct.snoc (by assumption) (Int.fmod_nonneg_of_pos _ (by decide)) (Int.fmod_lt_of_pos _ (by decide)), _, rfl⟩))))
local macro_rules | `(tactic| walk_at "CompSrc") => `(tactic| (k_here; k_dflt (refine LCg.CompSrc.range (n := 64) (by rfl) (by k_asm) (by k_asm) (by assumption) (by first | decide | rfl) (by first | rfl | decide) (by decide) ?_); intro g'))
local macro_rules | `(tactic| walk_at "CompRest") => `(tactic| refine hold ?_)
local macro_rules | `(tactic| walk_at "call ref") => `(tactic| (k_here; (with_reducible show wpAny _ _ (call (Value.ref 655) _) _ _ _); k_dflt (refine' Tell.use ?k1 ?k2 ?k3 ?k4 ?k5 ?kK ?kT ?kd ?ku ?_; (case k1 => k_asm); (case k2 => k_asm); (case k3 => k_asm); (case k4 => k_asm); (case k5 => k_asm); (case kK => exact rfl); (case kT => exact lo_small (by omega) (by omega)); (case kd => ktr_room); (case ku => ktr_units)); intro v' n' h' tk' hR' F' N'; obtain ⟨t', h1', h2'⟩ := hR'; subst h1'; subst h2'))
local macro_rules | `(tactic| walk_at "call ref") => `(tactic| (k_here; (with_reducible show wpAny _ _ (call (Value.ref 444) _) _ _ _); k_dflt (refine' Tell.use ?k1 ?k2 ?k3 ?k4 ?k5 ?kK ?kT ?kd ?ku ?_; (case k1 => k_asm); (case k2 => k_asm); (case k3 => k_asm); (case k4 => k_asm); (case k5 => k_asm); (case kK => exact rfl); (case kT => exact sk_gen (.tail _ (.tail _ (.tail _ (.tail _ (by assumption))))) (.tail _ (.tail _ (.tail _ (.tail _ (by assumption))))) (toBe_size _ _) (beN_toBe (by omega) (by omega)) (by omega) (by omega)); (case kd => ktr_room); (case ku => ktr_units)); intro v' n' h' tk' hR' F' N'; obtain ⟨s', ds', j1', j2', j3', x', d', k1', k2', b', t', hb6, h1', h2', pq9⟩ := hR'; subst h1'; subst h2'))
theorem lk_ok {rest : List (Addr × Obj)} {l D K : Addr} {ws : List Value} {ns : List Int} {k n : Nat} {t u : Tok}
    (hD : D ≠ l) (hI : IntsAre ws ns) (hn : ns.length ≤ 70) (hrest : ∀ q ∈ rest, q.1 ≠ l) {dk : Addr} {kd : Tok} (hmK : (K, instObj 639 dk) ∈ rest) (hmd : (dk, backDict w.params kd) ∈ rest) :
    Tell w p loose mean mg mb 660 62 1600 ((l, W.listOf #[.ref D, .int 0 t] n) :: (D, W.listOf ws.toArray k) :: rest) [.ref l, .ref K]
      (KeyIs w.params l D n k ws rest (.ref K)) := by
  unfold Tell
  intro dp un gd cn cs a' ccd cl outer A₀ base h₀ L m s Q E B F X N T hk hdp hun hret
  refine fillT _ ?_
  k_fill
  intro _
  refine wpAny_call ?_
  k_dflt (refine' code_defC ?k1 ?k2 ?k3 ?k4 ?k5 ?kA ?kF ?kK ?k6 ?k7 ?k8 ?k9 ?kB ?kD ?_ ?c2 ?c3 ?c4; (case kA => exact rfl); (case kF => exact rfl); (case kK => assumption); (case k1 => k_asm); (case k2 => k_asm); (case k3 => k_asm); (case k4 => k_asm); (case k5 => k_asm); (case k6 => k_is); (case k7 => k_is); (case k8 => ktr_room); (case k9 => exact BindsTo.of_eq rfl); (case kB => exact rfl); (case kD => decide +kernel); (case c2 => exact rfl); (case c3 => exact rfl); (case c4 => exact rfl); k_whole; intro g' L' h' tk' cells' FG' F' N' Y' B' X' T' l1; (have hY := CellsAre.two Y'; obtain ⟨o1, o2, hE, d1, d2⟩ := hY; subst hE; clear Y'); (try simp only [List.cons_append, List.nil_append] at N'); (try dsimp only); (try k_lift B'); (try k_fold))
  have d1 : o1.data = .cell none := d1
  have d2 : o2.data = .cell (some (.ref l)) := d2
  have hl : l < L' := l1 _ (.head _)
  have hrest2 : ∀ q ∈ (L' + 1 + 1, o1) :: (L' + 1, o2) :: rest, q.1 ≠ l := by
    intro q hq
    rcases List.mem_cons.mp hq with rfl | hq
    · exact Nat.ne_of_gt (Nat.lt_succ_of_lt (Nat.lt_succ_of_lt hl))
    rcases List.mem_cons.mp hq with rfl | hq
    · exact Nat.ne_of_gt (Nat.lt_succ_of_lt hl)
    · exact hrest q hq
  have N'' : News g' L' h' ((l, W.listOf #[.ref D, .int 0 t] n) :: (D, W.listOf ws.toArray k) :: (L' + 1 + 1, o1) :: (L' + 1, o2) :: rest) := cb_drop N' (by
    intro q hq
    rcases List.mem_cons.mp hq with rfl | hq
    · exact .tail _ (.tail _ (.head _))
    rcases List.mem_cons.mp hq with rfl | hq
    · exact .tail _ (.tail _ (.tail _ (.head _)))
    rcases List.mem_cons.mp hq with rfl | hq
    · exact .head _
    rcases List.mem_cons.mp hq with rfl | hq
    · exact .tail _ (.head _)
    · exact .tail _ (.tail _ (.tail _ (.tail _ hq))))
  clear N'
  have hc1 : l ≠ L' + 1 + 1 := Nat.ne_of_lt (Nat.lt_succ_of_lt (Nat.lt_succ_of_lt hl))
  have hc2 : D ≠ L' + 1 + 1 := Nat.ne_of_lt (Nat.lt_succ_of_lt (Nat.lt_succ_of_lt (l1 (D, _) (.tail _ (.head _)))))
  have hc3 : ∀ q ∈ (L' + 1, o2) :: rest, q.1 ≠ L' + 1 + 1 := by
    intro q hq
    rcases List.mem_cons.mp hq with rfl | hq
    · exact Nat.ne_of_lt (Nat.lt_succ_self _)
    · exact Nat.ne_of_lt (Nat.lt_succ_of_lt (Nat.lt_succ_of_lt (l1 q (.tail _ (.tail _ hq)))))
  k_steps
  all_goals try ((((rename Fr _ _ _ _ => kF); (rename News _ _ _ _ => kN); (with_reducible rename PubAt _ _ _ => pA); refine' key_close hret kF kN ?_ pA ?hm1 ?a0 ?a1 ?hm2 ?hm3; (case hm1 => k_mem); (case a0 => decide); (case a1 => decide); (case hm2 => k_mem); (case hm3 => (intro q hq; simp only [List.mem_cons, hq, or_true])); (first | rfl | assumption))))
  · unfold Hold
    refine compFix ?turn ?fin
    case turn =>
      intro i9 ys9 t9 I9 oI9 C9 oC9 D9 m9 h9 tk9 E9 hi9 hO9 hC9 hx9 F9 N9 off9 ne9
      k_steps
    case fin =>
      intro ys9 hO9
      try dsimp only
      unfold LCg.FinE
      intro D9 h9 tk9 F9 N9 o9
      k_steps
      (((rename Fr _ _ _ _ => kF); (rename News _ _ _ _ => kN); (with_reducible rename PubAt _ _ _ => pA); refine' key_close hret kF kN ?_ pA ?hm1 ?a0 ?a1 ?hm2 ?hm3; (case hm1 => k_mem); (case a0 => decide); (case a1 => decide); (case hm2 => k_mem); (case hm3 => (intro q hq; simp only [List.mem_cons, hq, or_true])); (first | rfl | assumption)))
  · unfold Hold
    refine compTake ?turn ?fin
    case turn =>
      intro i9 ys9 ta9 t9 I9 oI9 C9 oC9 D9 m9 h9 tk9 E9 hi9 hO9 hC9 hx9 F9 N9 off9 ne9
      k_steps
    case fin =>
      intro ys9 ta9 hO9
      try dsimp only
      unfold LCg.FinE
      intro D9 h9 tk9 F9 N9 o9
      k_steps
      (((rename Fr _ _ _ _ => kF); (rename News _ _ _ _ => kN); (with_reducible rename PubAt _ _ _ => pA); refine' key_close hret kF kN ?_ pA ?hm1 ?a0 ?a1 ?hm2 ?hm3; (case hm1 => k_mem); (case a0 => decide); (case a1 => decide); (case hm2 => k_mem); (case hm3 => (intro q hq; simp only [List.mem_cons, hq, or_true])); (first | rfl | assumption)))
  (rename Fr _ _ _ _ => kF); (rename News _ _ _ _ => kN); (with_reducible rename PubAt _ _ _ => pA)
  refine' key_close3 hret kF kN ?m1 ?m2 ?_ pA ?hm1 ?a0 ?a1 ?hm2 ?hm3 ?hm4
  case m1 => k_mem
  case m2 => k_mem
  case hm1 => k_mem
  case a0 => decide
  case a1 => decide
  case hm2 => k_mem
  case hm3 => (intro q hq; simp only [List.mem_cons, hq, or_true])
  case hm4 => exact fun q hq => .tail _ (.tail _ (.tail _ (.tail _ hq)))
  assumption
end
section
open PySem PySem.W PyProof.Rows
set_option maxRecDepth 100000
set_option maxHeartbeats 1600000
variable {w : World} {p : Program} {loose : List Str} {mean : ExcName → Option Value} {mg mb : Str → Option Value}
local macro_rules | `(tactic| ktr_units) => `(tactic| ((simp only [under_make_units, units_in1, units_deeper, Around.mark_units]); omega))
theorem tb_ok {news : List (Addr × Obj)} {x d : Addr} {b : Array UInt8} {t0 k1 k2 : Tok} {K : Value} :
    Tell w p loose mean mg mb 225 1 8 ((x, instObj 394 d) :: (d, pubDict w.params b t0 k1 k2 K) :: news) [.ref x]
      (fun r news' => ∃ t, r = .bytes b t ∧ news' = (x, instObj 394 d) :: (d, pubDict w.params b t0 k1 k2 K) :: news) := by
  unfold Tell
  intro dp un gd cn cs a' ccd cl outer A₀ base h₀ L m s Q E B F X N T hk hdp hun hret
  refine fillT _ ?_
  k_fill
  intro _
  refine wpAny_call ?_
  k_dflt cell_enter
  k_steps
  all_goals
    (rename Fr _ _ _ _ => kF); (rename News _ _ _ _ => kN)
    exact hret _ _ _ _ ⟨_, rfl, rfl⟩ kF kN
theorem sub2 {whole : List (Addr × Obj)} {a b : Addr × Obj} (ha : a ∈ whole) (hb : b ∈ whole) : ∀ q ∈ a :: b :: whole, q ∈ whole := by
  intro q hq
  rcases List.mem_cons.mp hq with rfl | hq
  · exact ha
  rcases List.mem_cons.mp hq with rfl | hq
  · exact hb
  · exact hq
theorem sub2' {whole : List (Addr × Obj)} {a b : Addr × Obj} : ∀ q ∈ whole, q ∈ a :: b :: whole := fun _ hq => .tail _ (.tail _ hq)
/-- the ledger may be led back to the one that went in -/
theorem Tell.back {f : Addr} {D U : Nat} {news all : List (Addr × Obj)} {vs : List Value} {G : Value → Prop} (C : Tell w p loose mean mg mb f D U all vs (fun r news' => G r ∧ news' = all)) (h : ∀ q ∈ all, q ∈ news) (h2 : ∀ q ∈ news, q ∈ all) : Tell w p loose mean mg mb f D U news vs (fun r news' => G r ∧ news' = news) := by
  intro dp un gd cn cs a ccd cl outer A₀ base h₀ L m s Q E B F X N T hk hd hu ret
  refine C dp un gd cn cs a ccd cl outer A₀ base h₀ L m s Q E B F X (cb_drop N h) T hk hd hu ?_
  intro v news' h' tk' hR F' N'
  obtain ⟨hG, e⟩ := hR
  subst e
  exact ret v news h' tk' ⟨hG, rfl⟩ F' (cb_drop N' h2)
theorem tb_gen {whole : List (Addr × Obj)} {x d : Addr} {b : Array UInt8} {t0 k1 k2 : Tok} {K : Value} (hx : (x, instObj 394 d) ∈ whole) (hd : (d, pubDict w.params b t0 k1 k2 K) ∈ whole) :
    Tell w p loose mean mg mb 225 1 8 whole [.ref x] (fun r news' => (∃ t, r = .bytes b t) ∧ news' = whole) :=
  Tell.back (all := (x, instObj 394 d) :: (d, pubDict w.params b t0 k1 k2 K) :: whole) (by
    intro dp un gd cn cs a ccd cl outer A₀ base h₀ L m s Q E B F X N T hk hd hu ret
    refine tb_ok dp un gd cn cs a ccd cl outer A₀ base h₀ L m s Q E B F X N T hk hd hu ?_
    intro v news' h' tk' hR F' N'
    obtain ⟨t, e1, e2⟩ := hR
    exact ret v news' h' tk' ⟨⟨t, e1⟩, e2⟩ F' N') (sub2 hx hd) sub2'
local macro_rules | `(tactic| walk_at "call ref") => `(tactic| (k_here; (with_reducible show wpAny _ _ (call (Value.ref 225) _) _ _ _); k_dflt (refine' Tell.use ?k1 ?k2 ?k3 ?k4 ?k5 ?kK ?kT ?kd ?ku ?_; (case k1 => k_asm); (case k2 => k_asm); (case k3 => k_asm); (case k4 => k_asm); (case k5 => k_asm); (case kK => exact rfl); (case kT => exact tb_ok); (case kd => ktr_room); (case ku => ktr_units)); intro v' n' h' tk' hR' F' N'; obtain ⟨t', h1', h2'⟩ := hR'; subst h1'; subst h2'))
local macro_rules | `(tactic| walk_at "call ref") => `(tactic| (k_here; (with_reducible show wpAny _ _ (call (Value.ref 101) _) _ _ _); k_dflt (refine' Tell.use ?k1 ?k2 ?k3 ?k4 ?k5 ?kK ?kT ?kd ?ku ?_; (case k1 => k_asm); (case k2 => k_asm); (case k3 => k_asm); (case k4 => k_asm); (case k5 => k_asm); (case kK => exact rfl); (case kT => exact (pa_ok (by with_reducible assumption))); (case kd => ktr_room); (case ku => ktr_units)); intro v' n' h' tk' hR' F' N'; obtain ⟨t', h1', h2'⟩ := hR'; subst h1'; subst h2'))
local macro_rules | `(tactic| walk_at "call ref") => `(tactic| (k_here; (with_reducible show wpAny _ _ (call (Value.ref 89) _) _ _ _); k_dflt (refine' Tell.use ?k1 ?k2 ?k3 ?k4 ?k5 ?kK ?kT ?kd ?ku ?_; (case k1 => k_asm); (case k2 => k_asm); (case k3 => k_asm); (case k4 => k_asm); (case k5 => k_asm); (case kK => exact rfl); (case kT => exact (na_ok (adr_size _))); (case kd => ktr_room); (case ku => ktr_units)); intro v' n' h' tk' hR' F' N'; obtain ⟨t', h1', h2'⟩ := hR'; subst h1'; subst h2'))
local macro_rules | `(tactic| walk_at "call ref") => `(tactic| (k_here; (with_reducible show wpAny _ _ (call (Value.ref 94) _) _ _ _); k_dflt (refine' Tell.use ?k1 ?k2 ?k3 ?k4 ?k5 ?kK ?kT ?kd ?ku ?_; (case k1 => k_asm); (case k2 => k_asm); (case k3 => k_asm); (case k4 => k_asm); (case k5 => k_asm); (case kK => exact rfl); (case kT => exact (cs_ok (adr_size _))); (case kd => ktr_room); (case ku => ktr_units)); intro v' n' h' tk' hR' F' N'; obtain ⟨t', h1', h2'⟩ := hR'; subst h1'; subst h2'))
theorem tca_ok {news : List (Addr × Obj)} {x d : Addr} {b : Array UInt8} {t0 k1 k2 : Tok} {K : Value} (hs : b.size = 64) :
    Tell w p loose mean mg mb 391 6 90 ((x, instObj 394 d) :: (d, pubDict w.params b t0 k1 k2 K) :: news) [.ref x]
      (fun r news' => (∃ t, r = .bytes (adr b) t) ∧ news' = (x, instObj 394 d) :: (d, pubDict w.params b t0 k1 k2 K) :: news) := by
  unfold Tell
  intro dp un gd cn cs a' ccd cl outer A₀ base h₀ L m s Q E B F X N T hk hdp hun hret
  refine fillT _ ?_
  k_fill
  intro _
  refine wpAny_call ?_
  k_dflt cell_enter
  k_steps
  all_goals
    (rename Fr _ _ _ _ => kF); (rename News _ _ _ _ => kN)
    exact hret _ _ _ _ ⟨⟨_, rfl⟩, rfl⟩ kF kN
theorem tca_gen {whole : List (Addr × Obj)} {x d : Addr} {b : Array UInt8} {t0 k1 k2 : Tok} {K : Value} (hs : b.size = 64) (hx : (x, instObj 394 d) ∈ whole) (hd : (d, pubDict w.params b t0 k1 k2 K) ∈ whole) :
    Tell w p loose mean mg mb 391 6 90 whole [.ref x] (fun r news' => (∃ t, r = .bytes (adr b) t) ∧ news' = whole) :=
  Tell.back (all := (x, instObj 394 d) :: (d, pubDict w.params b t0 k1 k2 K) :: whole) (tca_ok hs) (sub2 hx hd) sub2'
theorem tad_ok {news : List (Addr × Obj)} {x d : Addr} {b : Array UInt8} {t0 k1 k2 : Tok} {K : Value} (hs : b.size = 64) :
    Tell w p loose mean mg mb 384 8 120 ((x, instObj 394 d) :: (d, pubDict w.params b t0 k1 k2 K) :: news) [.ref x]
      (fun r news' => (∃ t, r = .str (Str.ofString "0x" ++ hexS (adr b)) t) ∧ news' = (x, instObj 394 d) :: (d, pubDict w.params b t0 k1 k2 K) :: news) := by
  unfold Tell
  intro dp un gd cn cs a' ccd cl outer A₀ base h₀ L m s Q E B F X N T hk hdp hun hret
  refine fillT _ ?_
  k_fill
  intro _
  refine wpAny_call ?_
  k_dflt cell_enter
  k_steps
  all_goals
    (rename Fr _ _ _ _ => kF); (rename News _ _ _ _ => kN)
    exact hret _ _ _ _ ⟨⟨_, rfl⟩, rfl⟩ kF kN
theorem tad_gen {whole : List (Addr × Obj)} {x d : Addr} {b : Array UInt8} {t0 k1 k2 : Tok} {K : Value} (hs : b.size = 64) (hx : (x, instObj 394 d) ∈ whole) (hd : (d, pubDict w.params b t0 k1 k2 K) ∈ whole) :
    Tell w p loose mean mg mb 384 8 120 whole [.ref x] (fun r news' => (∃ t, r = .str (Str.ofString "0x" ++ hexS (adr b)) t) ∧ news' = whole) :=
  Tell.back (all := (x, instObj 394 d) :: (d, pubDict w.params b t0 k1 k2 K) :: whole) (tad_ok hs) (sub2 hx hd) sub2'
theorem tcs_ok {news : List (Addr × Obj)} {x d : Addr} {b : Array UInt8} {t0 k1 k2 : Tok} {K : Value} (hs : b.size = 64) :
    Tell w p loose mean mg mb 377 8 140 ((x, instObj 394 d) :: (d, pubDict w.params b t0 k1 k2 K) :: news) [.ref x]
      (fun r news' => (∃ t, r = .str (csS (adr b)) t) ∧ news' = (x, instObj 394 d) :: (d, pubDict w.params b t0 k1 k2 K) :: news) := by
  unfold Tell
  intro dp un gd cn cs a' ccd cl outer A₀ base h₀ L m s Q E B F X N T hk hdp hun hret
  refine fillT _ ?_
  k_fill
  intro _
  refine wpAny_call ?_
  k_dflt cell_enter
  k_steps
  all_goals
    (rename Fr _ _ _ _ => kF); (rename News _ _ _ _ => kN)
    exact hret _ _ _ _ ⟨⟨_, rfl⟩, rfl⟩ kF kN
theorem tcs_gen {whole : List (Addr × Obj)} {x d : Addr} {b : Array UInt8} {t0 k1 k2 : Tok} {K : Value} (hs : b.size = 64) (hx : (x, instObj 394 d) ∈ whole) (hd : (d, pubDict w.params b t0 k1 k2 K) ∈ whole) :
    Tell w p loose mean mg mb 377 8 140 whole [.ref x] (fun r news' => (∃ t, r = .str (csS (adr b)) t) ∧ news' = whole) :=
  Tell.back (all := (x, instObj 394 d) :: (d, pubDict w.params b t0 k1 k2 K) :: whole) (tcs_ok hs) (sub2 hx hd) sub2'
end
section
open PySem PySem.W PyProof.Rows
set_option maxRecDepth 100000
set_option maxHeartbeats 1600000
local macro_rules | `(tactic| walk_at "idle 0") => `(tactic| skip)
variable {w : World} {p : Program} {loose : List Str} {mean : ExcName → Option Value} {mg mb : Str → Option Value}
theorem lk_at {l D K dk : Addr} {ws : List Value} {ns : List Int} {k n : Nat} {t kd : Tok} (hDl : D < l) (hl : l < dk) (hd : dk < K) (hI : IntsAre ws ns) (hn : ns.length ≤ 70) :
    Tell w p loose mean mg mb 660 62 1600 [(K, instObj 639 dk), (dk, backDict w.params kd), (l, W.listOf #[.ref D, .int 0 t] n), (D, W.listOf ws.toArray k)] [.ref l, .ref K]
      (KeyIs w.params l D n k ws [(K, instObj 639 dk), (dk, backDict w.params kd)] (.ref K)) :=
  (lk_ok (u := t) (rest := [(K, instObj 639 dk), (dk, backDict w.params kd)]) (Nat.ne_of_lt hDl) hI hn (by
    intro q hq
    rcases List.mem_cons.mp hq with rfl | hq
    · exact Nat.ne_of_gt (Nat.lt_trans hl hd)
    · rw [List.mem_singleton.mp hq]; exact Nat.ne_of_gt hl) (.head _) (.tail _ (.head _))).led2 fun q hq => by
    rcases List.mem_cons.mp hq with rfl | hq
    · exact .tail _ (.tail _ (.head _))
    rcases List.mem_cons.mp hq with rfl | hq
    · exact .tail _ (.tail _ (.tail _ (.head _)))
    rcases List.mem_cons.mp hq with rfl | hq
    · exact .head _
    · rw [List.mem_singleton.mp hq]; exact .tail _ (.head _)
theorem take_at {l D K dk x d : Addr} {ox od oK odk : Obj} {ws : List Value} {ns : List Int} {k n : Nat} {t u : Tok} {at1 : Int} (hDl : D < l) (hl : l < dk) (hd : dk < K) (hI : IntsAre ws ns) (hn : ns.length ≤ 70) (a0 : 0 ≤ at1) (a1 : at1 < 100) (pA : PubAt d x [(l, W.listOf #[.ref D, .int at1 t] n), (D, W.listOf ws.toArray k), (K, oK), (dk, odk)]) :
    Tell w p loose mean mg mb 648 1 8 [(x, ox), (d, od), (l, W.listOf #[.ref D, .int at1 t] n), (D, W.listOf ws.toArray k), (K, oK), (dk, odk)] [.ref l, .int 4 u]
      (fun v news' => ∃ x' tv ta, v = .int x' tv ∧ 0 ≤ x' ∧ x' < 4 ∧ news' = (l, W.listOf #[.ref D, .int (at1 + 1) ta] n) :: (D, W.listOf ws.toArray k) :: [(x, ox), (d, od), (K, oK), (dk, odk)]) :=
  (take_ok (rest := [(x, ox), (d, od), (K, oK), (dk, odk)]) (Nat.ne_of_lt hDl) hI hn a0 (by omega) (by decide) (by decide) (by
    have hld : l < d := pA.2 _ (.head _)
    intro q hq
    rcases List.mem_cons.mp hq with rfl | hq
    · exact Nat.ne_of_gt (Nat.lt_trans hld pA.1)
    rcases List.mem_cons.mp hq with rfl | hq
    · exact Nat.ne_of_gt hld
    rcases List.mem_cons.mp hq with rfl | hq
    · exact Nat.ne_of_gt (Nat.lt_trans hl hd)
    · rw [List.mem_singleton.mp hq]; exact Nat.ne_of_gt hl)).led2 fun q hq => by
    rcases List.mem_cons.mp hq with rfl | hq
    · exact .tail _ (.tail _ (.head _))
    rcases List.mem_cons.mp hq with rfl | hq
    · exact .tail _ (.tail _ (.tail _ (.head _)))
    rcases List.mem_cons.mp hq with rfl | hq
    · exact .head _
    rcases List.mem_cons.mp hq with rfl | hq
    · exact .tail _ (.head _)
    rcases List.mem_cons.mp hq with rfl | hq
    · exact .tail _ (.tail _ (.tail _ (.tail _ (.head _))))
    · rw [List.mem_singleton.mp hq]; exact .tail _ (.tail _ (.tail _ (.tail _ (.tail _ (.head _)))))
end
section
open PySem PySem.W PyProof.Rows
set_option maxRecDepth 100000
set_option maxHeartbeats 800000
local macro_rules | `(tactic| walk_at "idle 0") => `(tactic| skip)
local macro_rules | `(tactic| walk_at "idle 1") => `(tactic| skip)
theorem ox_list : (Str.ofString "0x").cps.toList = [48, 120] := by decide +kernel
theorem ox_app_len (y : Str) : (Str.ofString "0x" ++ y).length = y.length + 2 := by
  show ((Str.ofString "0x").cps ++ y.cps).size = y.cps.size + 2
  rw [Array.size_append]
  have : (Str.ofString "0x").cps.size = 2 := by decide +kernel
  omega
theorem cut02 (y : Str) : Txt.slice (Str.ofString "0x" ++ y) none (some 2) = Str.ofString "0x" := by
  have h := slice_closes_toL (x := Str.ofString "0x" ++ y) (j := 2) (by decide) (by rw [ox_app_len]; omega)
  rw [eq_of_beq h]
  apply Str.ext_list
  show List.take _ (List.drop _ ((Str.ofString "0x").cps ++ y.cps).toList) = _
  rw [Array.toList_append, ox_list]
  rfl
theorem lower_cs {b : Array UInt8} : Txt.lower (csS b) = Str.ofString "0x" ++ hexS b := lower_marked hexS_hex ox_still
theorem lower_tail {M : Str} {b : Array UInt8} : Txt.lower (marked M (hexS b)) = hexS b := by
  have h := lower_marked (M := M) (z := Str.ofString "") (hexS_hex (b := b)) (by decide +kernel)
  have e1 : Str.ofString "" ++ marked M (hexS b) = marked M (hexS b) := by
    apply Str.ext_list
    rw [Str.cps_append, Array.toList_append]
    rfl
  have e2 : Str.ofString "" ++ hexS b = hexS b := by
    apply Str.ext_list
    rw [Str.cps_append, Array.toList_append]
    rfl
  rw [e1, e2] at h
  exact h
end
section
open PySem PySem.W PyProof.Rows
set_option maxRecDepth 100000
set_option maxHeartbeats 800000
local macro_rules | `(tactic| walk_at "idle 0") => `(tactic| skip)
local macro_rules | `(tactic| walk_at "idle 1") => `(tactic| skip)
local macro_rules | `(tactic| walk_at "idle 2") => `(tactic| skip)
section
variable {prog : Program} {w : World} {A : Around} {E : Value → Shared → Prop} {s : Shared} {value slice : PySem.Expr} {y : Str} {t u : Tok} {h₀ : Heap} {L : Addr} {m : Str → Option Value} {news : List (Addr × Obj)}
theorem slice_ox02 {n : Nat} {Q : Value → Shared → Prop} (hF : Fr h₀ L s.heap m) (hN : News h₀ L s.heap news) (hy : y.length = n) (hn : n ≤ 1000) (h : ∀ h' t' k, Fr h₀ L h' m → News h₀ L h' news → Q (.str (Str.ofString "0x") t') { s with heap := h', toks := k })
    (hs : subscripted slice false (.str (Str.ofString "0x" ++ y) t) (.ref s.heap.objs.size) = operate [.ref s.heap.objs.size, .str (Str.ofString "0x" ++ y) t] (getItem (.str (Str.ofString "0x" ++ y) t) (.ref s.heap.objs.size)) := by with_unfolding_all rfl)
    (ht : ∀ r, letTemporaryGo value (.str (Str.ofString "0x" ++ y) t) r = pure () := by intro _; with_unfolding_all rfl) :
    wpAny (model prog w) A (subscriptTail value slice (.str (Str.ofString "0x" ++ y) t) (.ref s.heap.objs.size)) Q E { s with heap := s.heap.push { cls := .type "slice", data := .fields #[.none, .int 2 u, .none] } } := by
  refine slice_strN_ns hF hN (fun h' t' k F' N' => ?_) hs ht ?_
  · rw [cut02]; exact h h' t' k F' N'
  · rw [ox_app_len, sizeLine_eq]; omega
theorem lowerCs {b : Array UInt8} {Q : Value → Shared → Prop} (hb : b.size = 20) (h : ∀ t' k, Q (.str (Str.ofString "0x" ++ hexS b) t') { s with toks := k }) : wpAny (model prog w) A (call (.builtin "str.lower") [.str (csS b) t]) Q E s := by
  refine SCL.lower ?_ fun _ => ?_
  · rw [ox_app_len, marked_length (fun c hc => isHex_lt (hexS_hex c hc)), hexS_length, hb]; decide
  · rw [lower_cs]; exact h _ _
theorem lowerTail {M : Str} {b : Array UInt8} {Q : Value → Shared → Prop} (hb : b.size = 20) (h : ∀ t' k, Q (.str (hexS b) t') { s with toks := k }) : wpAny (model prog w) A (call (.builtin "str.lower") [.str (marked M (hexS b)) t]) Q E s := by
  refine SCL.lower ?_ fun _ => ?_
  · rw [marked_length (fun c hc => isHex_lt (hexS_hex c hc)), hexS_length, hb]; decide
  · rw [lower_tail]; exact h _ _
theorem csS_length {b : Array UInt8} (hb : b.size = 20) : (csS b).length = 42 := by
  rw [ox_app_len, marked_length (fun c hc => isHex_lt (hexS_hex c hc)), hexS_length, hb]
theorem lenCs {b : Array UInt8} {Q : Value → Shared → Prop} (hb : b.size = 20) (h : ∀ t' k, Q (.int 42 t') { s with toks := k }) : wpAny (model prog w) A (call (.builtin "len") [.str (csS b) t]) Q E s := by
  refine SBL.len ?_ ?_
  · rw [csS_length hb]; decide
  · rw [csS_length hb]; exact h _ _
end
end
end Mine
section
open Mine
open PySem PySem.W PyProof.Rows
set_option maxRecDepth 100000
set_option maxHeartbeats 8000000
local macro_rules | `(tactic| ktr_units) => `(tactic| ((have hcL9 := cLine_is); (simp only [under_make_units, units_in1, units_deeper, Around.mark_units, units_caller]); omega))
local macro_rules | `(tactic| walk_at "call ref") => `(tactic| (k_here; (with_reducible show wpAny _ _ (call (Value.ref 82) _) _ _ _); k_dflt (refine' kec_use ?k1 ?k2 ?k3 ?k4 ?k5 ?kK ?kg ?kh ?kd ?ku ?_; (case k1 => k_asm); (case k2 => k_asm); (case k3 => k_asm); (case k4 => k_asm); (case k5 => k_asm); (case kK => exact rfl); (case kg => with_reducible assumption); (case kh => decide); (case kd => ktr_room); (case ku => ktr_units)); intro t' h' tk' F' N' hsz'))
local macro_rules | `(tactic| walk_at "getMethod") => `(tactic| (k_here; (with_reducible show wpAny _ _ (getMethod (Value.bytes _ _) (Str.ofString "hex") _) _ _ _); k_dflt (refine getHex ?_)))
local macro_rules | `(tactic| walk_at "call builtin:bytes.hex") => `(tactic| (k_here; k_dflt (refine callHex (by with_reducible assumption) (by decide) ?_); intro t1 k1))
local macro_rules | `(tactic| walk_at "subscriptTail") => `(tactic| (k_here; (with_reducible show wpAny _ _ (subscriptTail _ (Expr.Slice _ _ none _) (Value.bytes _ _) (Value.ref _)) _ _ _); (with_reducible rename Fr _ _ _ _ => F'); (with_reducible rename News _ _ _ _ => N'); (first | (refine sliceB (i := 12) (j := 32) (d := 20) (s := ⟨_, _, _, _, _⟩) F' N' (by with_reducible assumption) (by constructor) (by constructor) (by decide) (by decide) (by decide) (by decide) (by decide) ?_)); intro _ _ _ F' N' hsz))
local macro_rules | `(tactic| walk_at "subscriptTail Call") => `(tactic| (k_here; (with_reducible show wpAny _ _ (subscriptTail _ (Expr.Slice _ _ none _) (Value.bytes _ _) (Value.ref _)) _ _ _); (with_reducible rename Fr _ _ _ _ => F'); (with_reducible rename News _ _ _ _ => N'); (first | (refine sliceB (i := 12) (j := 32) (d := 20) (s := ⟨_, _, _, _, _⟩) F' N' (by with_reducible assumption) (by constructor) (by constructor) (by decide) (by decide) (by decide) (by decide) (by decide) ?_)); intro _ _ _ F' N' hsz))
local macro_rules | `(tactic| walk_at "call ref") => `(tactic| (k_here; (with_reducible show wpAny _ _ (call (Value.ref 665) _) _ _ _); k_dflt (refine' Tell.use ?k1 ?k2 ?k3 ?k4 ?k5 ?kK ?kT ?kd ?ku ?_; (case k1 => k_asm); (case k2 => k_asm); (case k3 => k_asm); (case k4 => k_asm); (case k5 => k_asm); (case kK => exact rfl); (case kT => exact (lm_ok (adr_size _))); (case kd => ktr_room); (case ku => ktr_units)); intro v' n' h' tk' hR' F' N'; obtain ⟨t', h1', h2'⟩ := hR'; subst h1'; subst h2'))
local macro_rules | `(tactic| walk_at "call ref") => `(tactic| (k_here; (with_reducible show wpAny _ _ (call (Value.ref 225) _) _ _ _); k_dflt (refine' Tell.use ?k1 ?k2 ?k3 ?k4 ?k5 ?kK (tb_gen ?kx ?ky) ?kd ?ku ?_; (case k1 => k_asm); (case k2 => k_asm); (case k3 => k_asm); (case k4 => k_asm); (case k5 => k_asm); (case kK => exact rfl); (case kx => k_mem); (case ky => k_mem); (case kd => ktr_room); (case ku => ktr_units)); intro v' n' h' tk' hR' F' N'; obtain ⟨⟨t', h1'⟩, h2'⟩ := hR'; subst h1'; subst h2'))
local macro_rules | `(tactic| walk_at "call ref") => `(tactic| (k_here; (with_reducible show wpAny _ _ (call (Value.ref 391) _) _ _ _); k_dflt (refine' Tell.use ?k1 ?k2 ?k3 ?k4 ?k5 ?kK (tca_gen ?kh ?kx ?ky) ?kd ?ku ?_; (case k1 => k_asm); (case k2 => k_asm); (case k3 => k_asm); (case k4 => k_asm); (case k5 => k_asm); (case kK => exact rfl); (case kx => k_mem); (case ky => k_mem); (case kh => with_reducible assumption); (case kd => ktr_room); (case ku => ktr_units)); intro v' n' h' tk' hR' F' N'; obtain ⟨⟨t', h1'⟩, h2'⟩ := hR'; subst h1'; subst h2'))
local macro_rules | `(tactic| walk_at "call ref") => `(tactic| (k_here; (with_reducible show wpAny _ _ (call (Value.ref 384) _) _ _ _); k_dflt (refine' Tell.use ?k1 ?k2 ?k3 ?k4 ?k5 ?kK (tad_gen ?kh ?kx ?ky) ?kd ?ku ?_; (case k1 => k_asm); (case k2 => k_asm); (case k3 => k_asm); (case k4 => k_asm); (case k5 => k_asm); (case kK => exact rfl); (case kx => k_mem); (case ky => k_mem); (case kh => with_reducible assumption); (case kd => ktr_room); (case ku => ktr_units)); intro v' n' h' tk' hR' F' N'; obtain ⟨⟨t', h1'⟩, h2'⟩ := hR'; subst h1'; subst h2'))
local macro_rules | `(tactic| walk_at "call ref") => `(tactic| (k_here; (with_reducible show wpAny _ _ (call (Value.ref 377) _) _ _ _); k_dflt (refine' Tell.use ?k1 ?k2 ?k3 ?k4 ?k5 ?kK (tcs_gen ?kh ?kx ?ky) ?kd ?ku ?_; (case k1 => k_asm); (case k2 => k_asm); (case k3 => k_asm); (case k4 => k_asm); (case k5 => k_asm); (case kK => exact rfl); (case kx => k_mem); (case ky => k_mem); (case kh => with_reducible assumption); (case kd => ktr_room); (case ku => ktr_units)); intro v' n' h' tk' hR' F' N'; obtain ⟨⟨t', h1'⟩, h2'⟩ := hR'; subst h1'; subst h2'))
local macro_rules | `(tactic| walk_at "call ref") => `(tactic| ((with_reducible show wpAny _ _ (call (Value.ref 660) _) _ _ _); refine hold ?_))
local macro_rules | `(tactic| walk_at "call ref") => `(tactic| ((with_reducible show wpAny _ _ (call (Value.ref 648) _) _ _ _); refine hold ?_))
local macro_rules | `(tactic| walk_at "subscriptTail Name Slice str ref") => `(tactic| (k_here; (with_reducible rename Fr _ _ _ _ => F'); (with_reducible rename News _ _ _ _ => N'); k_dflt (refine slice_ox (s := ⟨_, _, _, _, _⟩) F' N' (by with_reducible assumption) (by decide) ?_); intro _ _ _ F' N'))
local macro_rules | `(tactic| walk_at "subscriptTail Name Slice str ref") => `(tactic| (k_here; (with_reducible rename Fr _ _ _ _ => F'); (with_reducible rename News _ _ _ _ => N'); k_dflt (refine slice_ox02 (s := ⟨_, _, _, _, _⟩) F' N' (by with_reducible assumption) (by decide) ?_); intro _ _ _ F' N'))
local macro_rules | `(tactic| walk_at "call builtin:str.lower") => `(tactic| (k_here; (with_reducible show wpAny _ _ (call (Value.builtin "str.lower") [Value.str (csS _) _]) _ _ _); k_dflt (refine lowerCs (adr_size _) ?_); intro _ _))
local macro_rules | `(tactic| walk_at "call builtin:str.lower") => `(tactic| (k_here; (with_reducible show wpAny _ _ (call (Value.builtin "str.lower") [Value.str (marked _ _) _]) _ _ _); k_dflt (refine lowerTail (adr_size _) ?_); intro _ _))
local macro_rules | `(tactic| walk_at "binaryOp Add str str") => `(tactic| (k_here; (with_reducible show wpAny _ _ (binaryOp Operator.Add (Value.str _ _) (Value.str _ _)) _ _ _); k_dflt (refine addS ox_len (hexS_short (by omega)) ?_); intro _ _))
local macro_rules | `(tactic| walk_at "call builtin:len") => `(tactic| (k_here; (with_reducible show wpAny _ _ (call (Value.builtin "len") [Value.str _ _]) _ _ _); k_dflt (refine lenCs (adr_size _) ?_); intro _ _))
theorem PySem.Challenge.cw_vj0010_01_holds : PySem.Challenge.rw_vj0010_01.Holds :=
  hd (by
  k_go0
  k_steps
  unfold Hold
  (rename Fr _ _ _ _ => kF); (rename News _ _ _ _ => kN)
  refine' Tell.use ?k1 kF ?k3 kN ?k5 ?kK ?kT ?kd ?ku ?_
  case k5 => k_asm
  case k3 => k_asm
  case k1 => k_asm
  case kK => exact rfl
  case kT => exact lk_at (by omega) (by first | omega | exact And.left (by assumption) ) (by omega) (by assumption) (by rw [List.length_take]; exact Nat.min_le_left _ _)
  case kd => ktr_room
  case ku => ktr_units
  clear kF kN
  intro v1 n1 h1 tk1 hR F1 N1
  obtain ⟨b, t0, x, d, k1, k2, at1, ta, hb, a0, a1, e1, e2, pA⟩ := hR
  subst e1
  subst e2
  k_steps
  unfold Hold
  (rename Fr _ _ _ _ => kF); (rename News _ _ _ _ => kN)
  refine' Tell.use ?k1 kF ?k3 kN ?k5 ?kK ?kT ?kd ?ku ?_
  case k5 => k_asm
  case k3 => k_asm
  case k1 => k_asm
  case kK => exact rfl
  case kT => exact take_at (by omega) (by first | omega | exact And.left (by assumption)) (by omega) (by assumption) (by rw [List.length_take]; exact Nat.min_le_left _ _) a0 a1 pA
  case kd => ktr_room
  case ku => ktr_units
  clear kF kN
  intro v2 n2 h2 tk2 hR F2 N2
  obtain ⟨pick, tv, ta2, e1, p0, p1, e2⟩ := hR
  subst e1
  subst e2
  have hk64 : b.size = 64 ∨ b.size = 40 := Or.inl hb
  have hm40 : (marked (hexS (kec (encB (hexS (adr b))))) (hexS (adr b))).length = 40 := by rw [marked_length (fun c hc => isHex_lt (hexS_hex c hc)), hexS_length, adr_size]
  have hp : pick = 0 ∨ pick = 1 ∨ pick = 2 ∨ pick = 3 := by omega
  clear p0 p1
  rcases hp with rfl | rfl | rfl | rfl
  · k_steps
  · k_steps
  · k_steps
  · k_steps)
end
