import PyProof.Rows.All
import Wide.All
import OpenK.AllK
import Wide.FinOn
import PySem.Challenge.RW_ki0015_01
open PySem PySem.W PyProof.Rows PySem.Calls
set_option Elab.async false
set_option maxRecDepth 100000
set_option maxHeartbeats 8000000
set_option linter.unusedVariables false
namespace Mine
open_top hd for PySem.Challenge.rw_ki0015_01

/- part P1 -/
def dig (v c : Int) : Str := Txt.item (Str.ofString "0123456789abcdef0123456789ABCDEF") (v.fmod 16 + 16 * c.fmod 2)
noncomputable def wrLoop (v c : Int) (t : Str) : Str := if 0 < v then wrLoop (v.fdiv 16) (c.fdiv 2) (dig v c ++ t) else t
termination_by v.toNat
decreasing_by
  have h := Int.fdiv_eq_ediv_of_nonneg v (b := 16) (by decide)
  rw [h]; omega
noncomputable def wrF (v c : Int) : Str := wrLoop (v.fdiv 16) (c.fdiv 2) (dig v c ++ Str.ofString "")
def WrInv (v₀ c₀ value case : Int) (text : Str) : Prop := 0 ≤ value ∧ text.length ≤ 12 ∧ value < 16 ^ (12 - text.length) ∧ ((text = Str.ofString "" ∧ value = v₀ ∧ case = c₀) ∨ (text ≠ Str.ofString "" ∧ wrLoop value case text = wrF v₀ c₀))
theorem len0 : (Str.ofString "").length = 0 := by decide
theorem dig_len (v c : Int) (t : Str) : (dig v c ++ t).length = t.length + 1 := by
  rw [Str.length_append]
  show 1 + t.length = _
  omega
theorem dig_ne (v c : Int) (t : Str) : dig v c ++ t ≠ Str.ofString "" := by
  intro h
  have e := congrArg Str.length h
  rw [dig_len, len0] at e
  omega
theorem wr_start {v c : Int} (h : 0 ≤ v ∧ v < 281474976710656) : WrInv v c v c (Str.ofString "") := by
  refine ⟨h.1, by rw [len0]; decide, ?_, .inl ⟨rfl, rfl, rfl⟩⟩
  rw [len0]
  exact h.2
theorem pow_step (k : Nat) (h : k < 12) : (16 : Int) ^ (12 - k) = 16 * 16 ^ (12 - (k + 1)) := by
  have e : 12 - k = (12 - (k + 1)) + 1 := by omega
  rw [e, Int.pow_succ]
  omega
theorem wr_len {v₀ c₀ v c : Int} {t : Str} (h : WrInv v₀ c₀ v c t) : t.length ≤ 12 := h.2.1
theorem fdiv16 (v : Int) : v.fdiv 16 = v / 16 := Int.fdiv_eq_ediv_of_nonneg v (b := 16) (by decide)
theorem wr_turn1 {v₀ c₀ v c : Int} {t : Str} (h : WrInv v₀ c₀ v c t) (hv : 0 < v) : WrInv v₀ c₀ (v.fdiv 16) (c.fdiv 2) (Txt.item (Str.ofString "0123456789abcdef0123456789ABCDEF") (v.fmod 16 + 16 * c.fmod 2) ++ t) := by
  obtain ⟨h0, hl, hb, hw⟩ := h
  have hk : t.length < 12 := by
    rcases Nat.lt_or_ge t.length 12 with h | h
    · exact h
    · have e : 12 - t.length = 0 := by omega
      rw [e] at hb
      have : (16 : Int) ^ 0 = 1 := rfl
      omega
  rw [pow_step _ hk] at hb
  change WrInv v₀ c₀ (v.fdiv 16) (c.fdiv 2) (dig v c ++ t)
  refine ⟨by rw [fdiv16]; omega, by rw [dig_len]; omega, by rw [dig_len, fdiv16]; omega, .inr ⟨dig_ne _ _ _, ?_⟩⟩
  rcases hw with ⟨rfl, rfl, rfl⟩ | ⟨_, e⟩
  · rfl
  · rw [← e]
    conv => rhs; unfold wrLoop
    rw [if_pos hv]
theorem wr_turn2 {v₀ c₀ v c : Int} {t : Str} (h : WrInv v₀ c₀ v c t) (hv : ¬ 0 < v) (ht : (t == Str.ofString "") = true) : WrInv v₀ c₀ (v.fdiv 16) (c.fdiv 2) (Txt.item (Str.ofString "0123456789abcdef0123456789ABCDEF") (v.fmod 16 + 16 * c.fmod 2) ++ t) := by
  obtain ⟨h0, hl, hb, hw⟩ := h
  have ht' : t = Str.ofString "" := by simpa using ht
  have e0 : v = 0 := by omega
  have hk : t.length = 0 := by rw [ht', len0]
  rw [hk] at hb
  change WrInv v₀ c₀ (v.fdiv 16) (c.fdiv 2) (dig v c ++ t)
  refine ⟨by rw [fdiv16]; omega, by rw [dig_len]; omega, ?_, .inr ⟨dig_ne _ _ _, ?_⟩⟩
  · rw [dig_len, hk, fdiv16]
    have : (16 : Int) ^ (12 - (0 + 1)) = 17592186044416 := rfl
    omega
  rcases hw with ⟨rfl, rfl, rfl⟩ | ⟨n, _⟩
  · rfl
  · exact absurd ht' n
theorem wr_end {v₀ c₀ v c : Int} {t : Str} (h : WrInv v₀ c₀ v c t) (hv : ¬ 0 < v) (ht : (t == Str.ofString "") = false) : t = wrF v₀ c₀ := by
  obtain ⟨h0, hl, hb, hw⟩ := h
  have ht' : t ≠ Str.ofString "" := by
    intro e
    rw [e] at ht
    simp at ht
  rcases hw with ⟨e, _⟩ | ⟨_, e⟩
  · exact absurd e ht'
  · rw [← e]
    unfold wrLoop
    rw [if_neg hv]
theorem wr_meas1 {v c : Int} {t : Str} (hv : 0 < v) : (v.fdiv 16).toNat + (if Txt.item (Str.ofString "0123456789abcdef0123456789ABCDEF") (v.fmod 16 + 16 * c.fmod 2) ++ t = Str.ofString "" then 1 else 0) < v.toNat + (if t = Str.ofString "" then 1 else 0) := by
  have e : Txt.item (Str.ofString "0123456789abcdef0123456789ABCDEF") (v.fmod 16 + 16 * c.fmod 2) ++ t ≠ Str.ofString "" := dig_ne v c t
  rw [if_neg e, fdiv16]
  split <;> omega
theorem wr_meas2 {v c : Int} {t : Str} (hv : ¬ 0 < v) (ht : (t == Str.ofString "") = true) : (v.fdiv 16).toNat + (if Txt.item (Str.ofString "0123456789abcdef0123456789ABCDEF") (v.fmod 16 + 16 * c.fmod 2) ++ t = Str.ofString "" then 1 else 0) < v.toNat + (if t = Str.ofString "" then 1 else 0) := by
  have e : Txt.item (Str.ofString "0123456789abcdef0123456789ABCDEF") (v.fmod 16 + 16 * c.fmod 2) ++ t ≠ Str.ofString "" := dig_ne v c t
  have ht' : t = Str.ofString "" := by simpa using ht
  rw [if_neg e, if_pos ht', fdiv16]
  omega
theorem wr_size {v₀ c₀ v c i : Int} {t x : Str} (h : WrInv v₀ c₀ v c t) : (Txt.item x i).length + t.length ≤ sizeLine := by
  have := h.2.1
  have e : (Txt.item x i).length = 1 := rfl
  rw [sizeLine_eq, e]
  omega

/- part P2 -/
def isX (n : Int) : Bool := decide (48 ≤ n ∧ n ≤ 57 ∨ 65 ≤ n ∧ n ≤ 70 ∨ 97 ≤ n ∧ n ≤ 102)
def isA (n : Int) : Bool := decide (65 ≤ n ∧ n ≤ 90 ∨ 97 ≤ n ∧ n ≤ 122)
def lastI (l : List Int) : Int := l.getLastD 0
def setLast (l : List Int) (x : Int) : List Int := l.dropLast ++ [x]
def rstep (st : List Int × Bool) (n : Int) : List Int × Bool :=
  if isX n = true then
    (if st.2 = true then (setLast st.1 (16 * lastI st.1 + (n % 32 + (if isA n = true then 9 else -16))), true)
     else (st.1 ++ [n % 32 + (if isA n = true then 9 else -16)], true))
  else (st.1, false)
def readF (l : List Int) : List Int × Bool := l.foldl rstep ([], false)
theorem readF_snoc (l : List Int) (n : Int) : readF (l ++ [n]) = rstep (readF l) n := by simp [readF, List.foldl_append]
def RdInv (pre told : List Int) (inside : Bool) : Prop := readF pre = (told, inside) ∧ (inside = true → told ≠ []) ∧ told.length ≤ pre.length
theorem rd_start : RdInv [] [] false := ⟨rfl, (fun h => nomatch h), Nat.le_refl _⟩
theorem rd_out {pre told : List Int} {b : Bool} {n : Int} (h : RdInv pre told b) (hx : isX n = false) : RdInv (pre ++ [n]) told false := by
  obtain ⟨a, _, l⟩ := h
  refine ⟨?_, (fun h => nomatch h), by simp; omega⟩
  rw [readF_snoc, a, rstep, if_neg (by rw [hx]; decide)]
theorem rd_first {pre told : List Int} {n : Int} (h : RdInv pre told false) (hx : isX n = true) : RdInv (pre ++ [n]) (told ++ [n % 32 + (if isA n = true then 9 else -16)]) true := by
  obtain ⟨a, _, l⟩ := h
  refine ⟨?_, (fun _ => by simp), by simp; omega⟩
  rw [readF_snoc, a, rstep, if_pos hx, if_neg (by simp)]
theorem rd_next {pre told : List Int} {n : Int} (h : RdInv pre told true) (hx : isX n = true) : RdInv (pre ++ [n]) (setLast told (16 * lastI told + (n % 32 + (if isA n = true then 9 else -16)))) true := by
  obtain ⟨a, b, l⟩ := h
  refine ⟨?_, (fun _ => by simp [setLast]), ?_⟩
  · rw [readF_snoc, a, rstep, if_pos hx, if_pos rfl]
  · have := b rfl
    have : 0 < told.length := List.length_pos_iff.mpr this
    simp [setLast]; omega
theorem ints_dropLast : ∀ {vs : List Value} {ns : List Int}, IntsAre vs ns → IntsAre vs.dropLast ns.dropLast
  | _, _, .nil => .nil
  | _, _, .cons _ _ .nil => .nil
  | _, _, .cons n t (.cons k u r) => by
    show IntsAre (_ :: List.dropLast (_ :: _)) (_ :: List.dropLast (_ :: _))
    exact .cons n t (ints_dropLast (.cons k u r))
theorem ints_setLast {vs : List Value} {ns : List Int} {x : Int} {u : Tok} (h : IntsAre vs ns) : IntsAre (vs.dropLast ++ [Value.int x u]) (setLast ns x) :=
  IntsAre.append (ints_dropLast h) (.cons x u .nil)
section
variable {prog : Program} {w : World} {A : Around} {E : Value → Shared → Prop} {s : Shared} {h₀ : Heap} {L D : Addr} {m : Str → Option Value} {news news' : List (Addr × Obj)} {vs : List Value} {ns : List Int} {n : Nat} {k x : Int} {t u : Tok}
theorem set_last {Q : Unit → Shared → Prop} (F : Fr h₀ L s.heap m) (N : News h₀ L s.heap news) (U : Upd D (listOf vs.toArray n) (listOf (vs.dropLast ++ [Value.int x u]).toArray n) news news') (hi : IntsAre vs ns) (hne : ns ≠ [])
    (h : ∀ h', Fr h₀ L h' m → News h₀ L h' news' → IntsAre (vs.dropLast ++ [Value.int x u]) (setLast ns x) → Q () { s with heap := h' }) :
    wpAny (model prog w) A (setItem (.ref D) (.int (-1) t) (.int x u)) Q E s := by
  obtain ⟨pre, post, rfl, rfl, a, b⟩ := U.split
  have z := N (D, listOf vs.toArray n) (List.mem_append.mpr (.inr (.head _)))
  have hl : vs.length = ns.length := hi.length
  have hp : 0 < ns.length := List.length_pos_iff.mpr hne
  have hs : vs.toArray.size = vs.length := List.size_toArray
  refine ki_setBack z.1 (by decide) (by rw [hs]; omega) (by decide) (h _ (F.change (Heap.SameBut.update ..) z.2.1 z.2.2) (ki_turn _ N a b ?_ ?_) (ints_setLast hi))
  · apply Array.toList_inj.mp
    have e : (-1 + (vs.toArray.size : Int)).toNat = vs.length - 1 := by rw [hs]; omega
    rw [e]
    obtain ⟨vs', y, rfl⟩ : ∃ vs' y, vs = vs' ++ [y] := ⟨vs.dropLast, vs.getLast (by intro e; rw [e] at hl; simp at hl; omega), (List.dropLast_concat_getLast _).symm⟩
    simp
  · have : vs.dropLast.length = vs.length - 1 := List.length_dropLast ..
    have e : (vs.dropLast ++ [Value.int x u]).toArray.size = vs.toArray.size := by simp; omega
    rw [e]; simp
theorem ints_last : ∀ {vs : List Value} {ns : List Int}, IntsAre vs ns → ns ≠ [] → ∃ t, vs[vs.length - 1]? = some (.int (lastI ns) t)
  | _, _, .nil, h => absurd rfl h
  | _, _, .cons n t .nil, _ => ⟨t, rfl⟩
  | _, _, .cons n t (.cons (vs := vs) (ns := ns) k u r), _ => by
    obtain ⟨t', e⟩ := ints_last (.cons k u r) (by simp)
    refine ⟨t', ?_⟩
    have e' : (Value.int n t :: Value.int k u :: vs).length - 1 = ((Value.int k u :: vs).length - 1) + 1 := by simp
    rw [e', List.getElem?_cons_succ, e]
    rfl
theorem get_last {value slice : PySem.Expr} {Q : Value → Shared → Prop} (N : News h₀ L s.heap news) (hm : (D, listOf vs.toArray n) ∈ news) (hi : IntsAre vs ns) (hne : ns ≠ []) (h : ∀ t, Q (.int (lastI ns) t) s)
    (hs : subscripted slice false (.ref D) (.int (-1) u) = operate [.ref D, .int (-1) u] (getItem (.ref D) (.int (-1) u)) := by with_unfolding_all rfl) :
    wpAny (model prog w) A (subscriptTail value slice (.ref D) (.int (-1) u)) Q E s := by
  obtain ⟨t, e⟩ := ints_last hi hne
  have hl : vs.length = ns.length := hi.length
  have hp : 0 < ns.length := List.length_pos_iff.mpr hne
  refine kde_neg (j := vs.length - 1) (PySem.IsL.isList (n := n) (N _ hm).1) (by decide) (by decide) ?_ e (h t) hs
  unfold seqIndex?
  have : (0 ≤ (-1 : Int) + vs.length ∧ (-1 : Int) + vs.length < vs.length) := by omega
  simp
  omega
end
theorem rd_first_a {pre told : List Int} {n : Int} (h : RdInv pre told false) (hx : isX n = true) (ha : isA n = true) : RdInv (pre ++ [n]) (told ++ [n % 32 + 9]) true := by
  have := rd_first h hx
  rwa [if_pos ha] at this
theorem rd_first_d {pre told : List Int} {n : Int} (h : RdInv pre told false) (hx : isX n = true) (ha : isA n = false) : RdInv (pre ++ [n]) (told ++ [n % 32 + -16]) true := by
  have := rd_first h hx
  rwa [if_neg (by rw [ha]; decide)] at this
theorem rd_next_a {pre told : List Int} {n : Int} (h : RdInv pre told true) (hx : isX n = true) (ha : isA n = true) : RdInv (pre ++ [n]) (setLast told (16 * lastI told + (n % 32 + 9))) true := by
  have := rd_next h hx
  rwa [if_pos ha] at this
theorem rd_next_d {pre told : List Int} {n : Int} (h : RdInv pre told true) (hx : isX n = true) (ha : isA n = false) : RdInv (pre ++ [n]) (setLast told (16 * lastI told + (n % 32 + -16))) true := by
  have := rd_next h hx
  rwa [if_neg (by rw [ha]; decide)] at this
theorem rd_ne {pre told : List Int} (h : RdInv pre told true) : told ≠ [] := h.2.1 rfl
theorem rd_ne' {pre told : List Int} {b : Bool} (h : RdInv pre told b) (hb : b = true) : told ≠ [] := h.2.1 hb
theorem cast_mod (n : Nat) : ((n % 32 : Nat) : Int) = (n : Int) % 32 := by omega

/- part P3 -/
abbrev RdS := List Value × List Int × Nat × Bool
def rdLed (l : Addr) (news : List (Addr × Obj)) (c : RdS) : List (Addr × Obj) := (l, W.listOf c.1.toArray c.2.2.1) :: news
def rdPs (c : RdS) : List (Str × Value) := [(Str.ofString "inside", .bool c.2.2.2)]
def rdM (m₀ : Str → Option Value) (v : Option Value) (b : Bool) (u : Str → Option Value) (y : Str) : Option Value :=
  if y = Str.ofString "thing" then v else if y = Str.ofString "inside" then some (.bool b) else if [Str.ofString "low", Str.ofString "worth"].contains y then u y else m₀ y
def RdEnd (h₀ : Heap) (L l : Addr) (news own : List (Addr × Obj)) (m₀ : Str → Option Value) (pre : List Int) (s₁ s₂ : Shared) : Prop :=
  ∃ (ys : List Value) (ns : List Int) (nn : Nat) (b : Bool) (h' : Heap) (tk : Nat) (m' : Str → Option Value), s₂ = { s₁ with heap := h', toks := tk } ∧ Fr h₀ L h' m' ∧ News h₀ L h' ((l, W.listOf ys.toArray nn) :: (news ++ own)) ∧ IntsAre ys ns ∧ RdInv pre ns b ∧ m' (Str.ofString "inside") = some (.bool b) ∧
    (∀ z, z ≠ Str.ofString "thing" → z ≠ Str.ofString "inside" → z ≠ Str.ofString "low" → z ≠ Str.ofString "worth" → m' z = m₀ z)
def RdPost (h₀ : Heap) (L l : Addr) (news own : List (Addr × Obj)) (m₀ : Str → Option Value) (pre : List Int) (s₁ : Shared) (Q : Flow → Shared → Prop) (f : Flow) (s₂ : Shared) : Prop :=
  match f with
  | .ret v => Q (.ret v) s₂
  | .brk => Q .next s₂
  | _ => RdEnd h₀ L l news own m₀ pre s₁ s₂
section
variable {prog : Program} {w : World} {A : Around} {E : Value → Shared → Prop} {s : Shared} {env : Env} {h₀ : Heap} {body : List Stmt} {Q : Flow → Shared → Prop} {l : Addr} {news : List (Addr × Obj)} {m₀ : Str → Option Value}
abbrev rdJ (l : Addr) (news : List (Addr × Obj)) (m₀ : Str → Option Value) (pre : List Int) : (Str → Option Value) → List (Addr × Obj) → Prop :=
  KstS (rdLed l news) rdPs (fun c : RdS => IntsAre c.1 c.2.1) (Str.ofString "thing") [Str.ofString "low", Str.ofString "worth"] m₀ (fun pre (c : RdS) => RdInv pre c.2.1 c.2.2.2) pre
theorem rd_up {L : Addr} {own : List (Addr × Obj)} {pre : List Int} {s₁ : Shared} {f : Flow} {s₂ : Shared} (p : RdPost h₀ L l news own m₀ pre s₁ Q f s₂) :
    InvPostN h₀ L (rdJ l news m₀ pre) own (l :: news.map (·.1)) s₁ Q f s₂ := by
  have up : RdEnd h₀ L l news own m₀ pre s₁ s₂ → InvEndN h₀ L (rdJ l news m₀ pre) own (l :: news.map (·.1)) s₁ s₂ := by
    rintro ⟨ys, ns, nn, b, h', tk, m', rfl, F, N, hi, hp, hb, hr⟩
    refine InvEndN.intro (nx := rdLed l news (ys, ns, nn, b)) F N ⟨(ys, ns, nn, b), rfl, hi, ?_, ?_, hp⟩ rfl ?_ ?_
    · intro p hp'
      rw [List.mem_singleton.mp hp']
      exact hb
    · intro z h1 h2 h3
      have h2' := h2 _ (.head _)
      have h3' : ¬ z ∈ [Str.ofString "low", Str.ofString "worth"] := by
        intro hm
        rw [List.contains_iff_mem.mpr hm] at h3
        cases h3
      refine hr z h1 h2' ?_ ?_
      · intro e; exact h3' (by rw [e]; exact .head _)
      · intro e; exact h3' (by rw [e]; exact .tail _ (.head _))
    · intro p hp'
      rcases List.mem_cons.mp hp' with rfl | hp'
      · exact .head _
      · exact .tail _ (List.mem_append.mpr (.inl hp'))
    · intro p hp'
      exact .tail _ (List.mem_append.mpr (.inr hp'))
  cases f with
  | ret v => exact p
  | brk => exact p
  | next => exact up p
  | cont => exact up p
theorem rd_text {xt : Str} {tx : Tok} (hh : A.handled = none) (F : Fr h₀ env.locals s.heap m₀) (N : News h₀ env.locals s.heap ((l, W.listOf #[] 0) :: news)) (hin : m₀ (Str.ofString "inside") = some (.bool false))
    (turn : ∀ (ys : List Value) (ns : List Int) (nn : Nat) (b : Bool) (pre post : List Int) (n : Nat) (t : Tok) (u : Str → Option Value) (h : Heap) (tk : Nat) (own : List (Addr × Obj)), KStt.codes xt = pre ++ (n : Int) :: post → OwnOff own (l :: news.map (·.1)) → IntsAre ys ns → RdInv pre ns b →
      Fr h₀ env.locals h (rdM m₀ (some (.str ⟨#[n]⟩ t)) b u) → News h₀ env.locals h ((l, W.listOf ys.toArray nn) :: (news ++ own)) →
      wpAny (model prog w) A (execs body env) (RdPost h₀ env.locals l news own m₀ (pre ++ [(n : Int)]) { s with heap := h, toks := tk } Q) E { s with heap := h, toks := tk })
    (done : ∀ (ys : List Value) (ns : List Int) (nn : Nat) (b : Bool) (u : Str → Option Value) (h : Heap) (tk : Nat), IntsAre ys ns → RdInv (KStt.codes xt) ns b → Fr h₀ env.locals h (rdM m₀ (u (Str.ofString "thing")) b u) → News h₀ env.locals h ((l, W.listOf ys.toArray nn) :: news) → Q .next { s with heap := h, toks := tk }) :
    wpAny (model prog w) A (pyIter (.str xt tx)) (fun it s₂ => LoopAtV prog w A h₀ env (Str.ofString "thing") body Q E it s₂) E s := by
  refine KStt.kst_text (σ := RdS) (rdLed l news) rdPs (fun c => IntsAre c.1 c.2.1) [Str.ofString "low", Str.ofString "worth"] (fun pre c => RdInv pre c.2.1 c.2.2.2) ([], [], 0, false) hh F N .nil ?_ rd_start ?_ ?_
  · intro p hp
    rw [List.mem_singleton.mp hp]
    exact hin
  · rintro ⟨ys, ns, nn, b⟩ pre post n t u h tk own he ho hf hp Fr' N'
    refine wpAny_mono (turn ys ns nn b pre post n t u h tk own he ho hf hp ?_ N') (fun f s₂ p => rd_up p) fun _ _ x => x
    exact Fr'
  · rintro ⟨ys, ns, nn, b⟩ u h tk hf hp Fr' N'
    refine done ys ns nn b u h tk hf hp ?_ N'
    have e : (rdM m₀ (u (Str.ofString "thing")) b u) = (fun y => if y = Str.ofString "thing" then u y else kstB (fun z => if [Str.ofString "low", Str.ofString "worth"].contains z then u z else m₀ z) (rdPs (ys, ns, nn, b)) y) := by
      funext y
      show (if _ then _ else _) = (if _ then _ else _)
      by_cases hy : y = Str.ofString "thing"
      · rw [if_pos hy, if_pos hy, hy]
      · rw [if_neg hy, if_neg hy]; rfl
    rw [e]
    exact Fr'
theorem rd_list {a : Addr} {vs : List Value} {zs : List Int} {k : Nat} (hh : A.handled = none) (hl : (a, W.listOf vs.toArray k) ∈ news) (hz : IntsAre vs zs) (F : Fr h₀ env.locals s.heap m₀) (N : News h₀ env.locals s.heap ((l, W.listOf #[] 0) :: news)) (hin : m₀ (Str.ofString "inside") = some (.bool false))
    (turn : ∀ (ys : List Value) (ns : List Int) (nn : Nat) (b : Bool) (pre post : List Int) (n : Int) (t : Tok) (u : Str → Option Value) (h : Heap) (tk : Nat) (own : List (Addr × Obj)), zs = pre ++ n :: post → OwnOff own (l :: news.map (·.1)) → IntsAre ys ns → RdInv pre ns b →
      Fr h₀ env.locals h (rdM m₀ (some (.int n t)) b u) → News h₀ env.locals h ((l, W.listOf ys.toArray nn) :: (news ++ own)) →
      wpAny (model prog w) A (execs body env) (RdPost h₀ env.locals l news own m₀ (pre ++ [n]) { s with heap := h, toks := tk } Q) E { s with heap := h, toks := tk })
    (done : ∀ (ys : List Value) (ns : List Int) (nn : Nat) (b : Bool) (u : Str → Option Value) (h : Heap) (tk : Nat), IntsAre ys ns → RdInv zs ns b → Fr h₀ env.locals h (rdM m₀ (u (Str.ofString "thing")) b u) → News h₀ env.locals h ((l, W.listOf ys.toArray nn) :: news) → Q .next { s with heap := h, toks := tk }) :
    wpAny (model prog w) A (pyIter (.ref a)) (fun it s₂ => LoopAtV prog w A h₀ env (Str.ofString "thing") body Q E it s₂) E s := by
  refine kst_listL (σ := RdS) (rdLed l news) rdPs (fun c => IntsAre c.1 c.2.1) [Str.ofString "low", Str.ofString "worth"] (fun pre c => RdInv pre c.2.1 c.2.2.2) ([], [], 0, false) hh (fun c => .tail _ hl) hz F N .nil ?_ rd_start ?_ ?_
  · intro p hp
    rw [List.mem_singleton.mp hp]
    exact hin
  · rintro ⟨ys, ns, nn, b⟩ pre post n t u h tk own he hm ho hf hp Fr' N'
    refine wpAny_mono (turn ys ns nn b pre post n t u h tk own he ho hf hp ?_ N') (fun f s₂ p => rd_up p) fun _ _ x => x
    exact Fr'
  · rintro ⟨ys, ns, nn, b⟩ u h tk hf hp Fr' N'
    refine done ys ns nn b u h tk hf hp ?_ N'
    have e : (rdM m₀ (u (Str.ofString "thing")) b u) = (fun y => if y = Str.ofString "thing" then u y else kstB (fun z => if [Str.ofString "low", Str.ofString "worth"].contains z then u z else m₀ z) (rdPs (ys, ns, nn, b)) y) := by
      funext y
      show (if _ then _ else _) = (if _ then _ else _)
      by_cases hy : y = Str.ofString "thing"
      · rw [if_pos hy, if_pos hy, hy]
      · rw [if_neg hy, if_neg hy]; rfl
    rw [e]
    exact Fr'
end

/- part P4 -/
theorem rd_end {h₀ : Heap} {L l : Addr} {news own : List (Addr × Obj)} {m₀ m' : Str → Option Value} {pre : List Int} {s₁ : Shared} {ys : List Value} {ns : List Int} {nn : Nat} {b : Bool} {h' : Heap} {tk : Nat}
    (F : Fr h₀ L h' m') (N : News h₀ L h' ((l, W.listOf ys.toArray nn) :: (news ++ own))) (hi : IntsAre ys ns) (hb : m' (Str.ofString "inside") = some (.bool b))
    (hr : ∀ z, z ≠ Str.ofString "thing" → z ≠ Str.ofString "inside" → z ≠ Str.ofString "low" → z ≠ Str.ofString "worth" → m' z = m₀ z) (hp : RdInv pre ns b) : RdEnd h₀ L l news own m₀ pre s₁ { s₁ with heap := h', toks := tk } :=
  ⟨ys, ns, nn, b, h', tk, m', rfl, F, N, hi, hp, hb, hr⟩
section
variable {pre told : List Int} {n : Int} {k : Nat} {b : Bool}
theorem rf_a (h : RdInv pre told b) (hb : b = false) (hx : isX n = true) (ha : isA n = true) : RdInv (pre ++ [n]) (told ++ [n % 32 + 9]) true := rd_first_a (hb ▸ h) hx ha
theorem rf_d (h : RdInv pre told b) (hb : b = false) (hx : isX n = true) (ha : isA n = false) : RdInv (pre ++ [n]) (told ++ [n % 32 + -16]) true := rd_first_d (hb ▸ h) hx ha
theorem rn_a (h : RdInv pre told b) (hb : b = true) (hx : isX n = true) (ha : isA n = true) : RdInv (pre ++ [n]) (setLast told (16 * lastI told + (n % 32 + 9))) true := rd_next_a (hb ▸ h) hx ha
theorem rn_d (h : RdInv pre told b) (hb : b = true) (hx : isX n = true) (ha : isA n = false) : RdInv (pre ++ [n]) (setLast told (16 * lastI told + (n % 32 + -16))) true := rd_next_d (hb ▸ h) hx ha
theorem rf_aS (h : RdInv pre told b) (hb : b = false) (hx : isX (k : Int) = true) (ha : isA (k : Int) = true) : RdInv (pre ++ [(k : Int)]) (told ++ [((k % 32 : Nat) : Int) + 9]) true := by rw [cast_mod]; exact rf_a h hb hx ha
theorem rf_dS (h : RdInv pre told b) (hb : b = false) (hx : isX (k : Int) = true) (ha : isA (k : Int) = false) : RdInv (pre ++ [(k : Int)]) (told ++ [((k % 32 : Nat) : Int) + -16]) true := by rw [cast_mod]; exact rf_d h hb hx ha
theorem rn_aS (h : RdInv pre told b) (hb : b = true) (hx : isX (k : Int) = true) (ha : isA (k : Int) = true) : RdInv (pre ++ [(k : Int)]) (setLast told (16 * lastI told + (((k % 32 : Nat) : Int) + 9))) true := by rw [cast_mod]; exact rn_a h hb hx ha
theorem rn_dS (h : RdInv pre told b) (hb : b = true) (hx : isX (k : Int) = true) (ha : isA (k : Int) = false) : RdInv (pre ++ [(k : Int)]) (setLast told (16 * lastI told + (((k % 32 : Nat) : Int) + -16))) true := by rw [cast_mod]; exact rn_d h hb hx ha
end
theorem upd_head {l : Addr} {o o' : Obj} {news own : List (Addr × Obj)} {adr : List Addr} (h1 : ∀ p ∈ news, p.1 < l) (h2 : OwnOff own (l :: adr)) : Upd l o o' ((l, o) :: (news ++ own)) ((l, o') :: (news ++ own)) :=
  .head fun p hp => by
    rcases List.mem_append.mp hp with h | h
    · exact Nat.ne_of_lt (h1 p h)
    · exact h2 p h l (.head _)
theorem rd_size {ys : List Value} {ns pre post zs : List Int} {n : Int} {b : Bool} (hi : IntsAre ys ns) (hp : RdInv pre ns b) (he : zs = pre ++ n :: post) (hz : zs.length ≤ 1000) : ys.toArray.size ≤ sizeLine := by
  have h1 : ys.length = ns.length := hi.length
  have h2 := hp.2.2
  have h3 := congrArg List.length he
  simp only [List.length_append, List.length_cons] at h3
  rw [List.size_toArray, sizeLine_eq]
  omega
theorem rd_sizeS {ys : List Value} {ns pre post : List Int} {n : Int} {b : Bool} {x : Str} (hi : IntsAre ys ns) (hp : RdInv pre ns b) (he : KStt.codes x = pre ++ n :: post) (hz : x.length ≤ 1000) : ys.toArray.size ≤ sizeLine :=
  rd_size hi hp he (by rw [KStt.codes_length]; exact hz)
theorem rd_fin {ys : List Value} {ns zs : List Int} {b : Bool} (hp : RdInv zs ns b) (hi : IntsAre ys ns) : IntsAre ys (readF zs).1 := by rw [hp.1]; exact hi

/- part C1 -/
abbrev MyClaim (w : World) (mean : ExcName → Option Value) (mg mb : Str → Option Value) (f : Addr) (lv : Nat) (news : List (Addr × Obj)) (pre : Prop) (vs : List Value) (R : Tok → Value) : Prop :=
  ∀ (dp un : Nat) (gd : Option (List Code)) (cn : Str) (cs : Scope) (a : Addr) (ccd : Value) (cl : List (Str × Addr)) (outer : List Env) (A₀ : Around) (base h₀ : Heap) (L : Addr) (m : Str → Option Value) (s : Shared) (Q E : Value → Shared → Prop),
    Below A₀ base outer h₀ → Fr h₀ L s.heap m → (hd.heap_39 w.params).In h₀ → News h₀ L s.heap news → Top hd.view_39 (looseW hd.view_39 []) mean mg mb h₀ → cs.kind = .function →
    pre → dp + lv < recursionLimit → un + 8 * lv < cLine → (∀ (t : Tok) (h' : Heap) (tk' : Nat), Fr h₀ L h' m → News h₀ L h' news → Q (R t) { s with heap := h', toks := tk' }) →
      wpAny (model Challenge.rw_ki0015_01.row.prog w) (ktrTop dp un gd cn cs L a ccd cl outer) (call (.ref f) vs) Q E s

theorem ctoiS (w : World) (mean : ExcName → Option Value) (mg mb : Str → Option Value) (news : List (Addr × Obj)) (n : Nat) (t : Tok) :
    MyClaim w mean mg mb 21 1 news (True) [.str ⟨#[n]⟩ t] (fun t => .int (n : Int) t) := by
  unfold MyClaim
  k_fill
  w_top off
  intros
  rename_i hret
  refine wpAny_call ?_
  k_dflt cell_enter
  k_steps
  all_goals cb_end hret
local macro_rules | `(tactic| walk_at "call ref") => `(tactic| (k_here; (with_reducible show wpAny _ _ (call (Value.ref 21) [Value.str (Str.mk #[_]) _]) _ _ _); k_dflt (refine' ctoiS _ _ _ _ _ _ _ _ _ _ _ _ _ _ _ _ _ _ _ _ _ _ _ _ ?k1 ?k2 ?k3 ?k4 ?k5 ?kK ?kp ?kd ?ku ?_; (case k1 => k_asm); (case k2 => k_asm); (case k3 => k_asm); (case k4 => k_asm); (case k5 => k_asm); (case kK => first | exact rfl | assumption); (case kp => trivial); (case kd => ktr_room); (case ku => ktr_units); k_whole); intro t9 h9 tk9 F9 N9; (try dsimp only); (try k_fold)))
theorem ctoiI (w : World) (mean : ExcName → Option Value) (mg mb : Str → Option Value) (news : List (Addr × Obj)) (n : Int) (t : Tok) :
    MyClaim w mean mg mb 21 1 news (True) [.int n t] (fun t => .int n t) := by
  unfold MyClaim
  k_fill
  w_top off
  intros
  rename_i hret
  refine wpAny_call ?_
  k_dflt cell_enter
  k_steps
  all_goals cb_end hret
local macro_rules | `(tactic| walk_at "call ref") => `(tactic| (k_here; (with_reducible show wpAny _ _ (call (Value.ref 21) [Value.int _ _]) _ _ _); k_dflt (refine' ctoiI _ _ _ _ _ _ _ _ _ _ _ _ _ _ _ _ _ _ _ _ _ _ _ _ ?k1 ?k2 ?k3 ?k4 ?k5 ?kK ?kp ?kd ?ku ?_; (case k1 => k_asm); (case k2 => k_asm); (case k3 => k_asm); (case k4 => k_asm); (case k5 => k_asm); (case kK => first | exact rfl | assumption); (case kp => trivial); (case kd => ktr_room); (case ku => ktr_units); k_whole); intro t9 h9 tk9 F9 N9; (try dsimp only); (try k_fold)))
theorem isdigitS (w : World) (mean : ExcName → Option Value) (mg mb : Str → Option Value) (news : List (Addr × Obj)) (n : Nat) (t : Tok) :
    MyClaim w mean mg mb 35 2 news (True) [.str ⟨#[n]⟩ t] (fun t => .bool (decide (48 ≤ (n : Int)) && decide ((n : Int) ≤ 57))) := by
  unfold MyClaim
  k_fill
  w_top off
  intros
  rename_i hret
  refine wpAny_call ?_
  k_dflt cell_enter
  k_steps
  all_goals cb_end hret
local macro_rules | `(tactic| walk_at "call ref") => `(tactic| (k_here; (with_reducible show wpAny _ _ (call (Value.ref 35) [Value.str (Str.mk #[_]) _]) _ _ _); k_dflt (refine' isdigitS _ _ _ _ _ _ _ _ _ _ _ _ _ _ _ _ _ _ _ _ _ _ _ _ ?k1 ?k2 ?k3 ?k4 ?k5 ?kK ?kp ?kd ?ku ?_; (case k1 => k_asm); (case k2 => k_asm); (case k3 => k_asm); (case k4 => k_asm); (case k5 => k_asm); (case kK => first | exact rfl | assumption); (case kp => trivial); (case kd => ktr_room); (case ku => ktr_units); k_whole); intro t9 h9 tk9 F9 N9; (try dsimp only); (try k_fold)))
theorem isdigitI (w : World) (mean : ExcName → Option Value) (mg mb : Str → Option Value) (news : List (Addr × Obj)) (n : Int) (t : Tok) :
    MyClaim w mean mg mb 35 2 news (True) [.int n t] (fun t => .bool (decide (48 ≤ n) && decide (n ≤ 57))) := by
  unfold MyClaim
  k_fill
  w_top off
  intros
  rename_i hret
  refine wpAny_call ?_
  k_dflt cell_enter
  k_steps
  all_goals cb_end hret
local macro_rules | `(tactic| walk_at "call ref") => `(tactic| (k_here; (with_reducible show wpAny _ _ (call (Value.ref 35) [Value.int _ _]) _ _ _); k_dflt (refine' isdigitI _ _ _ _ _ _ _ _ _ _ _ _ _ _ _ _ _ _ _ _ _ _ _ _ ?k1 ?k2 ?k3 ?k4 ?k5 ?kK ?kp ?kd ?ku ?_; (case k1 => k_asm); (case k2 => k_asm); (case k3 => k_asm); (case k4 => k_asm); (case k5 => k_asm); (case kK => first | exact rfl | assumption); (case kp => trivial); (case kd => ktr_room); (case ku => ktr_units); k_whole); intro t9 h9 tk9 F9 N9; (try dsimp only); (try k_fold)))
theorem islowerS (w : World) (mean : ExcName → Option Value) (mg mb : Str → Option Value) (news : List (Addr × Obj)) (n : Nat) (t : Tok) :
    MyClaim w mean mg mb 42 2 news (True) [.str ⟨#[n]⟩ t] (fun t => .bool (decide (97 ≤ (n : Int)) && decide ((n : Int) ≤ 122))) := by
  unfold MyClaim
  k_fill
  w_top off
  intros
  rename_i hret
  refine wpAny_call ?_
  k_dflt cell_enter
  k_steps
  all_goals cb_end hret
local macro_rules | `(tactic| walk_at "call ref") => `(tactic| (k_here; (with_reducible show wpAny _ _ (call (Value.ref 42) [Value.str (Str.mk #[_]) _]) _ _ _); k_dflt (refine' islowerS _ _ _ _ _ _ _ _ _ _ _ _ _ _ _ _ _ _ _ _ _ _ _ _ ?k1 ?k2 ?k3 ?k4 ?k5 ?kK ?kp ?kd ?ku ?_; (case k1 => k_asm); (case k2 => k_asm); (case k3 => k_asm); (case k4 => k_asm); (case k5 => k_asm); (case kK => first | exact rfl | assumption); (case kp => trivial); (case kd => ktr_room); (case ku => ktr_units); k_whole); intro t9 h9 tk9 F9 N9; (try dsimp only); (try k_fold)))
theorem islowerI (w : World) (mean : ExcName → Option Value) (mg mb : Str → Option Value) (news : List (Addr × Obj)) (n : Int) (t : Tok) :
    MyClaim w mean mg mb 42 2 news (True) [.int n t] (fun t => .bool (decide (97 ≤ n) && decide (n ≤ 122))) := by
  unfold MyClaim
  k_fill
  w_top off
  intros
  rename_i hret
  refine wpAny_call ?_
  k_dflt cell_enter
  k_steps
  all_goals cb_end hret
local macro_rules | `(tactic| walk_at "call ref") => `(tactic| (k_here; (with_reducible show wpAny _ _ (call (Value.ref 42) [Value.int _ _]) _ _ _); k_dflt (refine' islowerI _ _ _ _ _ _ _ _ _ _ _ _ _ _ _ _ _ _ _ _ _ _ _ _ ?k1 ?k2 ?k3 ?k4 ?k5 ?kK ?kp ?kd ?ku ?_; (case k1 => k_asm); (case k2 => k_asm); (case k3 => k_asm); (case k4 => k_asm); (case k5 => k_asm); (case kK => first | exact rfl | assumption); (case kp => trivial); (case kd => ktr_room); (case ku => ktr_units); k_whole); intro t9 h9 tk9 F9 N9; (try dsimp only); (try k_fold)))
theorem isupperS (w : World) (mean : ExcName → Option Value) (mg mb : Str → Option Value) (news : List (Addr × Obj)) (n : Nat) (t : Tok) :
    MyClaim w mean mg mb 49 2 news (True) [.str ⟨#[n]⟩ t] (fun t => .bool (decide (65 ≤ (n : Int)) && decide ((n : Int) ≤ 90))) := by
  unfold MyClaim
  k_fill
  w_top off
  intros
  rename_i hret
  refine wpAny_call ?_
  k_dflt cell_enter
  k_steps
  all_goals cb_end hret
local macro_rules | `(tactic| walk_at "call ref") => `(tactic| (k_here; (with_reducible show wpAny _ _ (call (Value.ref 49) [Value.str (Str.mk #[_]) _]) _ _ _); k_dflt (refine' isupperS _ _ _ _ _ _ _ _ _ _ _ _ _ _ _ _ _ _ _ _ _ _ _ _ ?k1 ?k2 ?k3 ?k4 ?k5 ?kK ?kp ?kd ?ku ?_; (case k1 => k_asm); (case k2 => k_asm); (case k3 => k_asm); (case k4 => k_asm); (case k5 => k_asm); (case kK => first | exact rfl | assumption); (case kp => trivial); (case kd => ktr_room); (case ku => ktr_units); k_whole); intro t9 h9 tk9 F9 N9; (try dsimp only); (try k_fold)))
theorem isupperI (w : World) (mean : ExcName → Option Value) (mg mb : Str → Option Value) (news : List (Addr × Obj)) (n : Int) (t : Tok) :
    MyClaim w mean mg mb 49 2 news (True) [.int n t] (fun t => .bool (decide (65 ≤ n) && decide (n ≤ 90))) := by
  unfold MyClaim
  k_fill
  w_top off
  intros
  rename_i hret
  refine wpAny_call ?_
  k_dflt cell_enter
  k_steps
  all_goals cb_end hret
local macro_rules | `(tactic| walk_at "call ref") => `(tactic| (k_here; (with_reducible show wpAny _ _ (call (Value.ref 49) [Value.int _ _]) _ _ _); k_dflt (refine' isupperI _ _ _ _ _ _ _ _ _ _ _ _ _ _ _ _ _ _ _ _ _ _ _ _ ?k1 ?k2 ?k3 ?k4 ?k5 ?kK ?kp ?kd ?ku ?_; (case k1 => k_asm); (case k2 => k_asm); (case k3 => k_asm); (case k4 => k_asm); (case k5 => k_asm); (case kK => first | exact rfl | assumption); (case kp => trivial); (case kd => ktr_room); (case ku => ktr_units); k_whole); intro t9 h9 tk9 F9 N9; (try dsimp only); (try k_fold)))
theorem isalphaS (w : World) (mean : ExcName → Option Value) (mg mb : Str → Option Value) (news : List (Addr × Obj)) (n : Nat) (t : Tok) :
    MyClaim w mean mg mb 28 3 news (True) [.str ⟨#[n]⟩ t] (fun t => .bool (decide (65 ≤ (n : Int) ∧ (n : Int) ≤ 90 ∨ 97 ≤ (n : Int) ∧ (n : Int) ≤ 122))) := by
  unfold MyClaim
  k_fill
  w_top off
  intros
  rename_i hret
  refine wpAny_call ?_
  k_dflt cell_enter
  k_steps
  all_goals cb_end hret
local macro_rules | `(tactic| walk_at "call ref") => `(tactic| (k_here; (with_reducible show wpAny _ _ (call (Value.ref 28) [Value.str (Str.mk #[_]) _]) _ _ _); k_dflt (refine' isalphaS _ _ _ _ _ _ _ _ _ _ _ _ _ _ _ _ _ _ _ _ _ _ _ _ ?k1 ?k2 ?k3 ?k4 ?k5 ?kK ?kp ?kd ?ku ?_; (case k1 => k_asm); (case k2 => k_asm); (case k3 => k_asm); (case k4 => k_asm); (case k5 => k_asm); (case kK => first | exact rfl | assumption); (case kp => trivial); (case kd => ktr_room); (case ku => ktr_units); k_whole); intro t9 h9 tk9 F9 N9; (try dsimp only); (try k_fold)))
theorem isalphaI (w : World) (mean : ExcName → Option Value) (mg mb : Str → Option Value) (news : List (Addr × Obj)) (n : Int) (t : Tok) :
    MyClaim w mean mg mb 28 3 news (True) [.int n t] (fun t => .bool (decide (65 ≤ n ∧ n ≤ 90 ∨ 97 ≤ n ∧ n ≤ 122))) := by
  unfold MyClaim
  k_fill
  w_top off
  intros
  rename_i hret
  refine wpAny_call ?_
  k_dflt cell_enter
  k_steps
  all_goals cb_end hret
local macro_rules | `(tactic| walk_at "call ref") => `(tactic| (k_here; (with_reducible show wpAny _ _ (call (Value.ref 28) [Value.int _ _]) _ _ _); k_dflt (refine' isalphaI _ _ _ _ _ _ _ _ _ _ _ _ _ _ _ _ _ _ _ _ _ _ _ _ ?k1 ?k2 ?k3 ?k4 ?k5 ?kK ?kp ?kd ?ku ?_; (case k1 => k_asm); (case k2 => k_asm); (case k3 => k_asm); (case k4 => k_asm); (case k5 => k_asm); (case kK => first | exact rfl | assumption); (case kp => trivial); (case kd => ktr_room); (case ku => ktr_units); k_whole); intro t9 h9 tk9 F9 N9; (try dsimp only); (try k_fold)))
theorem isxdigitS (w : World) (mean : ExcName → Option Value) (mg mb : Str → Option Value) (news : List (Addr × Obj)) (n : Nat) (t : Tok) :
    MyClaim w mean mg mb 56 3 news (True) [.str ⟨#[n]⟩ t] (fun t => .bool (decide (48 ≤ (n : Int) ∧ (n : Int) ≤ 57 ∨ 65 ≤ (n : Int) ∧ (n : Int) ≤ 70 ∨ 97 ≤ (n : Int) ∧ (n : Int) ≤ 102))) := by
  unfold MyClaim
  k_fill
  w_top off
  intros
  rename_i hret
  refine wpAny_call ?_
  k_dflt cell_enter
  k_steps
  all_goals cb_end hret
local macro_rules | `(tactic| walk_at "call ref") => `(tactic| (k_here; (with_reducible show wpAny _ _ (call (Value.ref 56) [Value.str (Str.mk #[_]) _]) _ _ _); k_dflt (refine' isxdigitS _ _ _ _ _ _ _ _ _ _ _ _ _ _ _ _ _ _ _ _ _ _ _ _ ?k1 ?k2 ?k3 ?k4 ?k5 ?kK ?kp ?kd ?ku ?_; (case k1 => k_asm); (case k2 => k_asm); (case k3 => k_asm); (case k4 => k_asm); (case k5 => k_asm); (case kK => first | exact rfl | assumption); (case kp => trivial); (case kd => ktr_room); (case ku => ktr_units); k_whole); intro t9 h9 tk9 F9 N9; (try dsimp only); (try k_fold)))
theorem isxdigitI (w : World) (mean : ExcName → Option Value) (mg mb : Str → Option Value) (news : List (Addr × Obj)) (n : Int) (t : Tok) :
    MyClaim w mean mg mb 56 3 news (True) [.int n t] (fun t => .bool (decide (48 ≤ n ∧ n ≤ 57 ∨ 65 ≤ n ∧ n ≤ 70 ∨ 97 ≤ n ∧ n ≤ 102))) := by
  unfold MyClaim
  k_fill
  w_top off
  intros
  rename_i hret
  refine wpAny_call ?_
  k_dflt cell_enter
  k_steps
  all_goals cb_end hret
local macro_rules | `(tactic| walk_at "call ref") => `(tactic| (k_here; (with_reducible show wpAny _ _ (call (Value.ref 56) [Value.int _ _]) _ _ _); k_dflt (refine' isxdigitI _ _ _ _ _ _ _ _ _ _ _ _ _ _ _ _ _ _ _ _ _ _ _ _ ?k1 ?k2 ?k3 ?k4 ?k5 ?kK ?kp ?kd ?ku ?_; (case k1 => k_asm); (case k2 => k_asm); (case k3 => k_asm); (case k4 => k_asm); (case k5 => k_asm); (case kK => first | exact rfl | assumption); (case kp => trivial); (case kd => ktr_room); (case ku => ktr_units); k_whole); intro t9 h9 tk9 F9 N9; (try dsimp only); (try k_fold)))

/- part C2 -/
theorem and31 {prog : Program} {w : World} {A : Around} {E : Value → Shared → Prop} {s : Shared} {a : Int} {t u : Tok} {Q : Value → Shared → Prop} (h : Q (.int (a % 32) s.toks) { s with toks := s.toks + 1 }) : wpAny (model prog w) A (binaryOp .BitAnd (.int a t) (.int 31 u)) Q E s :=
  and_int (by rw [bitAnd_m5]; exact h)
local macro_rules | `(tactic| walk_at "binaryOp BitAnd int int") => `(tactic| (k_here; (refine and31 ?_)))
local macro_rules | `(tactic| walk_at "call builtin:chr") => `(tactic| (k_here; (with_reducible show wpAny _ _ (call (Value.builtin "chr") [Value.int (_ % 32) _]) _ _ _); (refine chr_of_range (by omega) (by omega) ?_)))
def codeF (n : Int) : Int := if n.fmod 1112064 < 55296 then n.fmod 1112064 else n.fmod 1112064 + 2048
theorem codeF_lo (n : Int) : 0 ≤ codeF n := by
  have h := Int.fmod_eq_emod_of_nonneg n (b := 1112064) (by decide)
  unfold codeF; rw [h]; split <;> omega
theorem codeF_hi (n : Int) : codeF n ≤ 1114111 := by
  have h := Int.fmod_eq_emod_of_nonneg n (b := 1112064) (by decide)
  unfold codeF; rw [h]; split <;> omega
def gapF (n : Int) : Str :=
  if (Builtin.Str.occurrences (Str.ofString "0123456789abcdefABCDEF") ⟨#[(codeF (n.fdiv 3)).toNat]⟩ 0 (Str.ofString "0123456789abcdefABCDEF").length 1).isEmpty = true then ⟨#[(codeF (n.fdiv 3)).toNat]⟩
  else Txt.item (Str.ofString "gG") (n.fmod 2)
theorem gapF_pos {n : Int} (h : (Builtin.Str.occurrences (Str.ofString "0123456789abcdefABCDEF") ⟨#[(codeF (n.fdiv 3)).toNat]⟩ 0 (Str.ofString "0123456789abcdefABCDEF").length 1).isEmpty = true) : (⟨#[(codeF (n.fdiv 3)).toNat]⟩ : Str) = gapF n := by
  unfold gapF; rw [if_pos h]
theorem gapF_neg {n : Int} (h : (Builtin.Str.occurrences (Str.ofString "0123456789abcdefABCDEF") ⟨#[(codeF (n.fdiv 3)).toNat]⟩ 0 (Str.ofString "0123456789abcdefABCDEF").length 1).isEmpty = false) : Txt.item (Str.ofString "gG") (n.fmod 2) = gapF n := by
  unfold gapF; rw [if_neg (by rw [h]; decide)]

theorem ctrlS (w : World) (mean : ExcName → Option Value) (mg mb : Str → Option Value) (news : List (Addr × Obj)) (n : Nat) (t : Tok) :
    MyClaim w mean mg mb 63 2 news (True) [.str ⟨#[n]⟩ t] (fun t => .str ⟨#[n % 32]⟩ t) := by
  unfold MyClaim
  k_fill
  w_top off
  intros
  rename_i hret
  refine wpAny_call ?_
  k_dflt cell_enter
  k_with_none
  k_with "tree" => (first | rfl | (congr; done))
  k_steps
  all_goals cb_end hret
theorem ctrlI (w : World) (mean : ExcName → Option Value) (mg mb : Str → Option Value) (news : List (Addr × Obj)) (n : Int) (t : Tok) :
    MyClaim w mean mg mb 63 2 news (True) [.int n t] (fun t => .int (n % 32) t) := by
  unfold MyClaim
  k_fill
  w_top off
  intros
  rename_i hret
  refine wpAny_call ?_
  k_dflt cell_enter
  k_steps
  all_goals cb_end hret
theorem code (w : World) (mean : ExcName → Option Value) (mg mb : Str → Option Value) (news : List (Addr × Obj)) (n : Int) (t : Tok) :
    MyClaim w mean mg mb 70 1 news (True) [.int n t] (fun t => .int (codeF n) t) := by
  unfold MyClaim
  k_fill
  w_top off
  intros
  rename_i hret
  refine wpAny_call ?_
  k_dflt cell_enter
  k_with_none
  k_with "tree" => ((unfold codeF; split <;> omega))
  k_steps
  all_goals cb_end hret
local macro_rules | `(tactic| walk_at "call ref") => `(tactic| (k_here; (with_reducible show wpAny _ _ (call (Value.ref 70) [Value.int _ _]) _ _ _); k_dflt (refine' code _ _ _ _ _ _ _ _ _ _ _ _ _ _ _ _ _ _ _ _ _ _ _ _ ?k1 ?k2 ?k3 ?k4 ?k5 ?kK ?kp ?kd ?ku ?_; (case k1 => k_asm); (case k2 => k_asm); (case k3 => k_asm); (case k4 => k_asm); (case k5 => k_asm); (case kK => first | exact rfl | assumption); (case kp => trivial); (case kd => ktr_room); (case ku => ktr_units); k_whole); intro t9 h9 tk9 F9 N9; (try dsimp only); (try k_fold)))
local macro_rules | `(tactic| walk_at "call builtin:chr") => `(tactic| (k_here; (with_reducible show wpAny _ _ (call (Value.builtin "chr") [Value.int (codeF _) _]) _ _ _); (refine chr_of_range (codeF_lo _) (codeF_hi _) ?_)))

theorem gap (w : World) (mean : ExcName → Option Value) (mg mb : Str → Option Value) (news : List (Addr × Obj)) (n : Int) (t : Tok) :
    MyClaim w mean mg mb 84 2 news (True) [.int n t] (fun t => .str (gapF n) t) := by
  unfold MyClaim
  k_fill
  w_top off
  intros
  rename_i hret
  refine wpAny_call ?_
  k_dflt cell_enter
  k_with_none
  k_with "tree" => (first | exact gapF_pos (by assumption) | exact gapF_neg (by assumption))
  k_steps
  all_goals cb_end hret
local macro_rules | `(tactic| walk_at "binaryOp Add str str") => `(tactic| (k_here; (with_reducible show wpAny _ _ (binaryOp Operator.Add (Value.str (Txt.item _ _) _) (Value.str _ _)) _ _ _); (refine PyProof.Rows.add_str ?_ (wr_size (by assumption)); intro _ _)))

theorem written (w : World) (mean : ExcName → Option Value) (mg mb : Str → Option Value) (news : List (Addr × Obj)) (v : Int) (tv : Tok) (c : Int) (tc : Tok) :
    MyClaim w mean mg mb 77 1 news (0 ≤ v ∧ v < 281474976710656) [.int v tv, .int c tc] (fun t => .str (wrF v c) t) := by
  unfold MyClaim
  k_fill
  w_top off
  intros
  rename_i hret
  k_with_none
  k_with "exec While BoolOp cons nil" => (k_while_given ["value!", "case!"] (fun v₀ c₀ script value case text => WrInv v₀ c₀ value case text) (fun v₀ c₀ script value case text => value.toNat + (if text = Str.ofString "" then 1 else 0)) "value" "case" "text")
  k_with "state" => (first | exact wr_start (by assumption) | exact wr_turn1 (by assumption) (by assumption) | exact wr_turn2 (by assumption) (by assumption) (by assumption))
  k_with "measure" => (first | exact wr_meas1 (by assumption) | exact wr_meas2 (by assumption) (by assumption))
  k_with "tree" => (exact wr_end (by assumption) (by assumption) (by assumption))
  refine wpAny_call ?_
  k_dflt cell_enter
  k_steps
  all_goals cb_end hret

/- part C3 -/
theorem isxS (w : World) (mean : ExcName → Option Value) (mg mb : Str → Option Value) (news : List (Addr × Obj)) (n : Nat) (t : Tok) :
    MyClaim w mean mg mb 56 3 news True [.str ⟨#[n]⟩ t] (fun t => .bool (isX (n : Int))) := by
  unfold isX
  exact isxdigitS w mean mg mb news n t
theorem isxI (w : World) (mean : ExcName → Option Value) (mg mb : Str → Option Value) (news : List (Addr × Obj)) (n : Int) (t : Tok) :
    MyClaim w mean mg mb 56 3 news True [.int n t] (fun t => .bool (isX n)) := by
  unfold isX
  exact isxdigitI w mean mg mb news n t
theorem isaS (w : World) (mean : ExcName → Option Value) (mg mb : Str → Option Value) (news : List (Addr × Obj)) (n : Nat) (t : Tok) :
    MyClaim w mean mg mb 28 3 news True [.str ⟨#[n]⟩ t] (fun t => .bool (isA (n : Int))) := by
  unfold isA
  exact isalphaS w mean mg mb news n t
theorem isaI (w : World) (mean : ExcName → Option Value) (mg mb : Str → Option Value) (news : List (Addr × Obj)) (n : Int) (t : Tok) :
    MyClaim w mean mg mb 28 3 news True [.int n t] (fun t => .bool (isA n)) := by
  unfold isA
  exact isalphaI w mean mg mb news n t
local macro_rules | `(tactic| walk_at "call ref") => `(tactic| (k_here; (with_reducible show wpAny _ _ (call (Value.ref 56) [Value.str (Str.mk #[_]) _]) _ _ _); k_dflt (refine' isxS _ _ _ _ _ _ _ _ _ _ _ _ _ _ _ _ _ _ _ _ _ _ _ _ ?k1 ?k2 ?k3 ?k4 ?k5 ?kK ?kp ?kd ?ku ?_; (case k1 => k_asm); (case k2 => k_asm); (case k3 => k_asm); (case k4 => k_asm); (case k5 => k_asm); (case kK => first | exact rfl | assumption); (case kp => trivial); (case kd => ktr_room); (case ku => ktr_units); k_whole); intro t9 h9 tk9 F9 N9; (try dsimp only); (try k_fold)))
local macro_rules | `(tactic| walk_at "call ref") => `(tactic| (k_here; (with_reducible show wpAny _ _ (call (Value.ref 56) [Value.int _ _]) _ _ _); k_dflt (refine' isxI _ _ _ _ _ _ _ _ _ _ _ _ _ _ _ _ _ _ _ _ _ _ _ _ ?k1 ?k2 ?k3 ?k4 ?k5 ?kK ?kp ?kd ?ku ?_; (case k1 => k_asm); (case k2 => k_asm); (case k3 => k_asm); (case k4 => k_asm); (case k5 => k_asm); (case kK => first | exact rfl | assumption); (case kp => trivial); (case kd => ktr_room); (case ku => ktr_units); k_whole); intro t9 h9 tk9 F9 N9; (try dsimp only); (try k_fold)))
local macro_rules | `(tactic| walk_at "call ref") => `(tactic| (k_here; (with_reducible show wpAny _ _ (call (Value.ref 28) [Value.str (Str.mk #[_]) _]) _ _ _); k_dflt (refine' isaS _ _ _ _ _ _ _ _ _ _ _ _ _ _ _ _ _ _ _ _ _ _ _ _ ?k1 ?k2 ?k3 ?k4 ?k5 ?kK ?kp ?kd ?ku ?_; (case k1 => k_asm); (case k2 => k_asm); (case k3 => k_asm); (case k4 => k_asm); (case k5 => k_asm); (case kK => first | exact rfl | assumption); (case kp => trivial); (case kd => ktr_room); (case ku => ktr_units); k_whole); intro t9 h9 tk9 F9 N9; (try dsimp only); (try k_fold)))
local macro_rules | `(tactic| walk_at "call ref") => `(tactic| (k_here; (with_reducible show wpAny _ _ (call (Value.ref 28) [Value.int _ _]) _ _ _); k_dflt (refine' isaI _ _ _ _ _ _ _ _ _ _ _ _ _ _ _ _ _ _ _ _ _ _ _ _ ?k1 ?k2 ?k3 ?k4 ?k5 ?kK ?kp ?kd ?ku ?_; (case k1 => k_asm); (case k2 => k_asm); (case k3 => k_asm); (case k4 => k_asm); (case k5 => k_asm); (case kK => first | exact rfl | assumption); (case kp => trivial); (case kd => ktr_room); (case ku => ktr_units); k_whole); intro t9 h9 tk9 F9 N9; (try dsimp only); (try k_fold)))
local macro_rules | `(tactic| walk_at "call ref") => `(tactic| (k_here; (with_reducible show wpAny _ _ (call (Value.ref 63) [Value.str (Str.mk #[_]) _]) _ _ _); k_dflt (refine' ctrlS _ _ _ _ _ _ _ _ _ _ _ _ _ _ _ _ _ _ _ _ _ _ _ _ ?k1 ?k2 ?k3 ?k4 ?k5 ?kK ?kp ?kd ?ku ?_; (case k1 => k_asm); (case k2 => k_asm); (case k3 => k_asm); (case k4 => k_asm); (case k5 => k_asm); (case kK => first | exact rfl | assumption); (case kp => trivial); (case kd => ktr_room); (case ku => ktr_units); k_whole); intro t9 h9 tk9 F9 N9; (try dsimp only); (try k_fold)))
local macro_rules | `(tactic| walk_at "call ref") => `(tactic| (k_here; (with_reducible show wpAny _ _ (call (Value.ref 63) [Value.int _ _]) _ _ _); k_dflt (refine' ctrlI _ _ _ _ _ _ _ _ _ _ _ _ _ _ _ _ _ _ _ _ _ _ _ _ ?k1 ?k2 ?k3 ?k4 ?k5 ?kK ?kp ?kd ?ku ?_; (case k1 => k_asm); (case k2 => k_asm); (case k3 => k_asm); (case k4 => k_asm); (case k5 => k_asm); (case kK => first | exact rfl | assumption); (case kp => trivial); (case kd => ktr_room); (case ku => ktr_units); k_whole); intro t9 h9 tk9 F9 N9; (try dsimp only); (try k_fold)))
local macro_rules | `(tactic| walk_at "subscriptTail Name UnaryOp ref int") => `(tactic| (k_here; (with_reducible show wpAny _ _ (subscriptTail _ _ (Value.ref _) (Value.int _ _)) _ _ _); k_dflt (refine' get_last ?k1 ?k2 ?k3 ?k4 ?_ ?k6; (case k1 => k_asm); (case k2 => k_mem); (case k3 => with_reducible assumption); (case k4 => first | exact rd_ne (by assumption) | exact rd_ne' (by assumption) (by assumption)); (case k6 => with_unfolding_all rfl); k_whole); intro _))
local macro_rules | `(tactic| walk_at "setItem ref int") => `(tactic| (k_here; (with_reducible show wpAny _ _ (setItem (Value.ref _) (Value.int _ _) (Value.int _ _)) _ _ _); k_dflt (refine' set_last ?k1 ?k2 ?k3 ?k4 ?k5 ?_; (case k1 => k_asm); (case k2 => k_asm); (case k3 => exact upd_head (by assumption) (by assumption)); (case k4 => with_reducible assumption); (case k5 => first | exact rd_ne (by assumption) | exact rd_ne' (by assumption) (by assumption)); k_whole); intro h' F' N' hi'; (try k_sweep)))

local macro_rules | `(tactic| walk_at "pyIter str") => `(tactic| (k_here; (rename Fr _ _ _ _ => lF'); (rename News _ _ _ _ => lN'); (k_dflt (refine' rd_text ?k1 lF' lN' ?k2 ?_ ?_; (case k1 => exact rfl); (case k2 => exact if_pos rfl))); (all_goals (try clear lF' lN')); (all_goals (first | (intro ys' ns' nn' b' pre' post' n' t' u' h' tk' own' he' ho' hf' hp' F' N') | (intro ys' ns' nn' b' u' h' tk' hf' hp' F' N'))); (all_goals (try dsimp only [rdM] at F')); (all_goals (try k_fold))))
local macro_rules | `(tactic| walk_at "exec For Name Name cons nil") => `(tactic| (k_here; (rename Fr _ _ _ _ => lF'); (with_unfolding_all refine' For_invVF lF' ?k1 ?k2 ?_; (case k1 => exact rfl); (case k2 => exact rfl); k_whole)))
local macro_rules | `(tactic| walk_at "pyIter ref") => `(tactic| (k_here; (rename Fr _ _ _ _ => lF'); (rename News _ _ _ _ => lN'); (k_dflt (refine' rd_list ?k1 ?k3 ?k4 lF' lN' ?k2 ?_ ?_; (case k1 => exact rfl); (case k3 => assumption); (case k4 => assumption); (case k2 => exact if_pos rfl))); (all_goals (try clear lF' lN')); (all_goals (first | (intro ys' ns' nn' b' pre' post' n' t' u' h' tk' own' he' ho' hf' hp' F' N') | (intro ys' ns' nn' b' u' h' tk' hf' hp' F' N'))); (all_goals (try dsimp only [rdM] at F')); (all_goals (try k_fold))))
local macro_rules | `(tactic| walk_at "RdPost") => `(tactic| (dsimp only [RdPost]))
local macro_rules | `(tactic| walk_at "call builtin:list.append") => `(tactic| (k_here; (with_reducible show wpAny _ _ (call (Value.builtin _) [Value.ref _, _]) _ _ _); k_dflt (refine' append_K ?k1 ?k2 ?k3 ?_ ?z; (case k1 => k_asm); (case k2 => k_asm); (case k3 => exact upd_head (by assumption) (by assumption)); (case z => first | exact rd_sizeS (by assumption) (by assumption) (by assumption) (by assumption) | exact rd_size (by assumption) (by assumption) (by assumption) (by assumption)); k_whole); intro h' F' N'; (try k_sweep)))
local macro_rules | `(tactic| walk_at "RdEnd") => `(tactic| ((rename News _ _ _ _ => nE'); (try simp only [List.push_toArray] at nE'); k_dflt (refine' rd_end ?k1 nE' ?k3 ?k4 ?k5 ?k6; (case k1 => k_asm); (case k3 => first | assumption | exact IntsAre.append (by assumption) (.cons _ _ .nil)); (case k4 => first | exact if_pos rfl | rfl); (case k5 => (intro z h1 h2 h3 h4; simp [rdM, h1, h2, h3, h4])); (case k6 => first | exact rd_out (by assumption) (by assumption) | exact rf_aS (by assumption) (by assumption) (by assumption) (by assumption) | exact rf_dS (by assumption) (by assumption) (by assumption) (by assumption) | exact rn_aS (by assumption) (by assumption) (by assumption) (by assumption) | exact rn_dS (by assumption) (by assumption) (by assumption) (by assumption) | exact rf_a (by assumption) (by assumption) (by assumption) (by assumption) | exact rf_d (by assumption) (by assumption) (by assumption) (by assumption) | exact rn_a (by assumption) (by assumption) (by assumption) (by assumption) | exact rn_d (by assumption) (by assumption) (by assumption) (by assumption)))))

abbrev RdClaim (w : World) (mean : ExcName → Option Value) (mg mb : Str → Option Value) (lv : Nat) (news : List (Addr × Obj)) (pre : Prop) (vs : List Value) (res : List Int) : Prop :=
  ∀ (dp un : Nat) (gd : Option (List Code)) (cn : Str) (cs : Scope) (a : Addr) (ccd : Value) (cl : List (Str × Addr)) (outer : List Env) (A₀ : Around) (base h₀ : Heap) (L : Addr) (m : Str → Option Value) (s : Shared) (Q E : Value → Shared → Prop),
    Below A₀ base outer h₀ → Fr h₀ L s.heap m → (hd.heap_39 w.params).In h₀ → News h₀ L s.heap news → Top hd.view_39 (looseW hd.view_39 []) mean mg mb h₀ → cs.kind = .function →
    pre → dp + lv < recursionLimit → un + 8 * lv < cLine →
    (∀ (l : Addr) (ys : List Value) (nn : Nat) (h' : Heap) (tk' : Nat), Fr h₀ L h' m → News h₀ L h' ((l, W.listOf ys.toArray nn) :: news) → (∀ p ∈ news, p.1 < l) → IntsAre ys res → Q (.ref l) { s with heap := h', toks := tk' }) →
      wpAny (model Challenge.rw_ki0015_01.row.prog w) (ktrTop dp un gd cn cs L a ccd cl outer) (call (.ref 91) vs) Q E s
theorem readS (w : World) (mean : ExcName → Option Value) (mg mb : Str → Option Value) (news : List (Addr × Obj)) (x : Str) (t : Tok) :
    RdClaim w mean mg mb 5 news (x.length ≤ 1000) [.str x t] (readF (KStt.codes x)).1 := by
  unfold RdClaim
  k_fill
  w_top off
  intros
  rename_i hret
  k_with_none
  refine wpAny_call ?_
  k_dflt cell_enter
  k_steps
  all_goals (try (exact hret _ _ _ _ _ (by assumption) (by assumption) (by assumption) (rd_fin (by assumption) (by assumption))))
theorem readL (w : World) (mean : ExcName → Option Value) (mg mb : Str → Option Value) (news : List (Addr × Obj)) (a : Addr) (vs : List Value) (k : Nat) (zs : List Int) :
    RdClaim w mean mg mb 5 news ((a, W.listOf vs.toArray k) ∈ news ∧ IntsAre vs zs ∧ zs.length ≤ 1000) [.ref a] (readF zs).1 := by
  unfold RdClaim
  k_fill
  w_top off
  intros
  rename_i hpre _ _ hret
  obtain ⟨hp1, hp2, hp3⟩ := hpre
  k_with_none
  refine wpAny_call ?_
  k_dflt cell_enter
  k_steps
  all_goals (try (exact hret _ _ _ _ _ (by assumption) (by assumption) (by assumption) (rd_fin (by assumption) (by assumption))))

/- part P5 -/
def worth (n : Int) : Int := n % 32 + (if isA n = true then 9 else -16)
noncomputable def val : List Int → Int
  | [] => 0
  | a :: l => worth a * 16 ^ l.length + val l
theorem rstep_in (told : List Int) (a n : Int) (h : isX n = true) : rstep (told ++ [a], true) n = (told ++ [16 * a + worth n], true) := by
  unfold rstep
  rw [if_pos h, if_pos rfl]
  simp [setLast, lastI, worth]
theorem rstep_new (told : List Int) (n : Int) (h : isX n = true) : rstep (told, false) n = (told ++ [worth n], true) := by
  unfold rstep
  rw [if_pos h, if_neg (by simp)]
  rfl
theorem rstep_gap (told : List Int) (b : Bool) (n : Int) (h : isX n = false) : rstep (told, b) n = (told, false) := by
  unfold rstep
  rw [if_neg (by rw [h]; decide)]
theorem fold_in : ∀ (l : List Int) (told : List Int) (a : Int), (∀ c ∈ l, isX c = true) → l.foldl rstep (told ++ [a], true) = (told ++ [a * 16 ^ l.length + val l], true)
  | [], told, a, _ => by simp [val]
  | n :: l, told, a, h => by
    rw [List.foldl_cons, rstep_in told a n (h n (.head _)), fold_in l told _ fun c hc => h c (.tail _ hc)]
    have e : (16 * a + worth n) * 16 ^ l.length + val l = a * 16 ^ (n :: l).length + val (n :: l) := by
      show _ = a * 16 ^ (l.length + 1) + (worth n * 16 ^ l.length + val l)
      rw [Int.pow_succ]
      generalize (16 : Int) ^ l.length = p
      grind
    rw [e]
theorem fold_new (l : List Int) (told : List Int) (h : ∀ c ∈ l, isX c = true) (hne : l ≠ []) : l.foldl rstep (told, false) = (told ++ [val l], true) := by
  cases l with
  | nil => exact absurd rfl hne
  | cons n l =>
    rw [List.foldl_cons, rstep_new told n (h n (.head _)), fold_in l told _ fun c hc => h c (.tail _ hc)]
    rfl
def tab : Str := Str.ofString "0123456789abcdef0123456789ABCDEF"
def tabC (i : Nat) : Nat := (Txt.charAt tab (i : Int)).getD 0
theorem tab_ok : ∀ i : Fin 32, isX (tabC i.val : Int) = true ∧ worth (tabC i.val : Int) = (i.val % 16 : Nat) := by decide +kernel
theorem fmod_pos' (v : Int) (k : Int) (hk : 0 ≤ k) : v.fmod k = v % k := Int.fmod_eq_emod_of_nonneg v hk
theorem fdiv_pos' (v : Int) (k : Int) (hk : 0 ≤ k) : v.fdiv k = v / k := Int.fdiv_eq_ediv_of_nonneg v hk
theorem dig_codes (v c : Int) : ∃ d : Int, KStt.codes (dig v c) = [d] ∧ isX d = true ∧ worth d = v % 16 := by
  have h1 := fmod_pos' v 16 (by decide)
  have h2 := fmod_pos' c 2 (by decide)
  obtain ⟨i, hi⟩ : ∃ i : Nat, v.fmod 16 + 16 * c.fmod 2 = (i : Int) := ⟨(v.fmod 16 + 16 * c.fmod 2).toNat, by rw [h1, h2]; omega⟩
  have hlt : i < 32 := by rw [h1, h2] at hi; omega
  refine ⟨(tabC i : Int), ?_, (tab_ok ⟨i, hlt⟩).1, ?_⟩
  · unfold dig
    rw [hi]
    rfl
  · rw [(tab_ok ⟨i, hlt⟩).2]
    rw [h1, h2] at hi
    show ((i % 16 : Nat) : Int) = v % 16
    omega
theorem codes_app (a b : Str) : KStt.codes (a ++ b) = KStt.codes a ++ KStt.codes b := by
  unfold KStt.codes
  rw [Str.cps_append, Array.toList_append, List.map_append]
theorem wrLoop_spec (k : Nat) : ∀ (v c : Int) (t : Str), v.toNat ≤ k → 0 ≤ v → (∀ n ∈ KStt.codes t, isX n = true) → KStt.codes t ≠ [] →
    (∀ n ∈ KStt.codes (wrLoop v c t), isX n = true) ∧ KStt.codes (wrLoop v c t) ≠ [] ∧ val (KStt.codes (wrLoop v c t)) = v * 16 ^ (KStt.codes t).length + val (KStt.codes t) := by
  induction k with
  | zero =>
    intro v c t hk h0 ht hne
    have e : v = 0 := by omega
    subst e
    unfold wrLoop
    rw [if_neg (by decide)]
    exact ⟨ht, hne, by simp⟩
  | succ k ih =>
    intro v c t hk h0 ht hne
    unfold wrLoop
    by_cases hv : 0 < v
    · rw [if_pos hv]
      obtain ⟨d, e, hx, hw⟩ := dig_codes v c
      have e1 : KStt.codes (dig v c ++ t) = d :: KStt.codes t := by rw [codes_app, e]; rfl
      have hd := fdiv_pos' v 16 (by decide)
      obtain ⟨a, b, r⟩ := ih (v.fdiv 16) (c.fdiv 2) (dig v c ++ t) (by rw [hd]; omega) (by rw [hd]; omega) (by
        rw [e1]; intro n hn
        rcases List.mem_cons.mp hn with rfl | hn
        · exact hx
        · exact ht n hn) (by rw [e1]; simp)
      refine ⟨a, b, ?_⟩
      rw [r, e1, hd]
      show v / 16 * 16 ^ ((KStt.codes t).length + 1) + (worth d * 16 ^ (KStt.codes t).length + val (KStt.codes t)) = _
      rw [hw, Int.pow_succ]
      have hv' : v = 16 * (v / 16) + v % 16 := by omega
      generalize (16 : Int) ^ (KStt.codes t).length = p
      generalize v / 16 = q at *
      generalize v % 16 = r at *
      subst hv'
      grind
    · rw [if_neg hv]
      have e : v = 0 := by omega
      subst e
      exact ⟨ht, hne, by simp⟩
theorem app_empty (a : Str) : a ++ Str.ofString "" = a := by
  refine Str.ext' ?_
  rw [Str.cps_append]
  have e : (Str.ofString "").cps = #[] := by decide
  rw [e]
  simp
theorem wrF_spec (v c : Int) (h0 : 0 ≤ v) : (∀ n ∈ KStt.codes (wrF v c), isX n = true) ∧ KStt.codes (wrF v c) ≠ [] ∧ val (KStt.codes (wrF v c)) = v := by
  obtain ⟨d, e, hx, hw⟩ := dig_codes v c
  have hd := fdiv_pos' v 16 (by decide)
  unfold wrF
  rw [app_empty]
  obtain ⟨a, b, r⟩ := wrLoop_spec (v.fdiv 16).toNat (v.fdiv 16) (c.fdiv 2) (dig v c) (Nat.le_refl _) (by rw [hd]; omega) (by
    rw [e]; intro n hn; rw [List.mem_singleton.mp hn]; exact hx) (by rw [e]; simp)
  refine ⟨a, b, ?_⟩
  rw [r, e, hd]
  show v / 16 * 16 ^ 1 + (worth d * 16 ^ 0 + 0) = v
  rw [hw]
  omega
theorem wrLoop_len (k : Nat) : ∀ (v c : Int) (t : Str) , v < 16 ^ k → (wrLoop v c t).length ≤ t.length + k := by
  induction k with
  | zero =>
    intro v c t h
    unfold wrLoop
    rw [if_neg (by have : (16 : Int) ^ 0 = 1 := rfl; omega)]
    exact Nat.le_refl _
  | succ k ih =>
    intro v c t h
    unfold wrLoop
    split
    · have hd := fdiv_pos' v 16 (by decide)
      have := ih (v.fdiv 16) (c.fdiv 2) (dig v c ++ t) (by rw [hd]; rw [Int.pow_succ] at h; omega)
      rw [dig_len] at this
      omega
    · omega
theorem wrF_len (v c : Int) (h : v < 281474976710656) : (wrF v c).length ≤ 12 := by
  unfold wrF
  have hd := fdiv_pos' v 16 (by decide)
  have := wrLoop_len 11 (v.fdiv 16) (c.fdiv 2) (dig v c ++ Str.ofString "") (by
    have e : (16 : Int) ^ 11 = 17592186044416 := rfl
    rw [hd, e]; omega)
  rw [dig_len, len0] at this
  omega
def hexT : Str := Str.ofString "0123456789abcdefABCDEF"
theorem hex_all : ∀ i : Fin 103, isX ((i.val : Nat) : Int) = true → i.val ∈ hexT.cps.toList := by decide +kernel
theorem isX_mem {c : Nat} (h : isX (c : Int) = true) : c ∈ hexT.cps.toList := by
  have hb : c < 103 := by
    unfold isX at h
    rw [decide_eq_true_eq] at h
    omega
  exact hex_all ⟨c, hb⟩ h
theorem gG_ok : ∀ i : Fin 2, isX (((Txt.charAt (Str.ofString "gG") ((i.val : Nat) : Int)).getD 0 : Nat) : Int) = false := by decide +kernel
theorem gapF_spec (n : Int) : ∃ d : Int, KStt.codes (gapF n) = [d] ∧ isX d = false := by
  unfold gapF
  split
  · rename_i h
    refine ⟨((codeF (n.fdiv 3)).toNat : Int), rfl, ?_⟩
    have f := StrLaws.found_one hexT (codeF (n.fdiv 3)).toNat
    have h' : (Builtin.Str.occurrences hexT ⟨#[(codeF (n.fdiv 3)).toNat]⟩ 0 hexT.length 1).isEmpty = true := h
    rw [h'] at f
    cases hx : isX ((codeF (n.fdiv 3)).toNat : Int) with
    | false => rfl
    | true =>
      have := isX_mem hx
      rw [decide_eq_true this] at f
      cases f
  · have h2 := fmod_pos' n 2 (by decide)
    obtain ⟨i, hi⟩ : ∃ i : Nat, n.fmod 2 = (i : Int) := ⟨(n.fmod 2).toNat, by rw [h2]; omega⟩
    have hlt : i < 2 := by rw [h2] at hi; omega
    rw [hi]
    exact ⟨_, rfl, gG_ok ⟨i, hlt⟩⟩
theorem gapF_len (n : Int) : (gapF n).length = 1 := by
  obtain ⟨d, e, _⟩ := gapF_spec n
  have := congrArg List.length e
  rw [KStt.codes_length] at this
  exact this
noncomputable def el (k : Int) : Str := gapF k ++ wrF (k.fmod 281474976710656) (k.fdiv 5)
theorem fmod_rng (k : Int) : 0 ≤ k.fmod 281474976710656 ∧ k.fmod 281474976710656 < 281474976710656 := by
  have h := Int.fmod_eq_emod_of_nonneg k (b := 281474976710656) (by decide)
  rw [h]; omega
theorem el_len (k : Int) : (el k).length ≤ 13 := by
  unfold el
  rw [Str.length_append, gapF_len]
  have := wrF_len (k.fmod 281474976710656) (k.fdiv 5) (fmod_rng k).2
  omega
theorem el_size (k : Int) : (gapF k).length + (wrF (k.fmod 281474976710656) (k.fdiv 5)).length ≤ sizeLine := by
  have := el_len k
  unfold el at this
  rw [Str.length_append] at this
  rw [sizeLine_eq]
  omega
theorem fold_el (k : Int) (st : List Int × Bool) : (KStt.codes (el k)).foldl rstep st = (st.1 ++ [k.fmod 281474976710656], true) := by
  obtain ⟨told, b⟩ := st
  obtain ⟨d, e, hx⟩ := gapF_spec k
  obtain ⟨a, b', r⟩ := wrF_spec (k.fmod 281474976710656) (k.fdiv 5) (fmod_rng k).1
  unfold el
  rw [codes_app, e, List.foldl_append, List.foldl_cons, List.foldl_nil, rstep_gap told b d hx, fold_new _ told a b', r]
theorem codes_join : ∀ l : List Str, KStt.codes (Txt.join (Str.ofString "") l) = (l.map KStt.codes).flatten := by
  intro l
  show KStt.codes (Builtin.Str.glued (Str.ofString "") l) = _
  rw [StrLaws.glued_eq_join]
  induction l with
  | nil => rfl
  | cons a r ih =>
    cases r with
    | nil => simp [Str.join]
    | cons b r =>
      show KStt.codes (a ++ Str.ofString "" ++ Str.join (Str.ofString "") (b :: r)) = _
      rw [codes_app, app_empty, ih]
      simp
theorem fold_all : ∀ (l : List Int) (st : List Int × Bool), ((l.map fun k => KStt.codes (el k)).flatten.foldl rstep st).1 = st.1 ++ l.map fun k => k.fmod 281474976710656
  | [], st => by simp
  | k :: l, st => by
    rw [List.map_cons, List.flatten_cons, List.foldl_append, fold_el, fold_all l]
    simp
theorem law_plain (l : List Int) : (readF (KStt.codes (Txt.join (Str.ofString "") (l.map el)))).1 = l.map fun k => k.fmod 281474976710656 := by
  rw [codes_join, List.map_map]
  have := fold_all l ([], false)
  simpa [readF, Function.comp_def] using this
theorem flat_len : ∀ (l : List Int), ((l.map fun k => KStt.codes (el k)).flatten).length ≤ 13 * l.length
  | [] => by simp
  | k :: l => by
    have h1 := flat_len l
    have h2 := el_len k
    rw [List.map_cons, List.flatten_cons, List.length_append, KStt.codes_length, List.length_cons]
    omega
theorem text_len (l : List Int) : (Txt.join (Str.ofString "") (l.map el)).length ≤ 13 * l.length := by
  rw [← KStt.codes_length, codes_join, List.map_map]
  exact flat_len l

/- part P6 -/
section
variable {prog : Program} {w : World} {A : Around} {E : Value → Shared → Prop} {s : Shared} {h₀ : Heap} {L : Addr} {m : Str → Option Value} {env : Env}
def TxtSrc (prog : Program) (w : World) (A : Around) (h₀ : Heap) (L : Addr) (m : Str → Option Value) (env : Env) (elt : Expr) (x : Str) (scope : Scope) (cl : List (Str × Addr)) (Fin : Shared → List Value → List (Addr × Obj) → Prop) (xv : Value) (s₁ : Shared) : Prop :=
  ∃ xt tx news, xv = .str xt tx ∧ A.handled = none ∧ Fr h₀ L s₁.heap m ∧ News h₀ L s₁.heap news ∧ xt.cps.size ≤ sizeLine ∧
    ∀ s₂ : Shared, (∃ h, s₂ = { s₁ with heap := h }) → LCg.CompRest prog w A h₀ L m env elt x scope cl s₂ (fun _ => True) (SignAt xt) (Fin s₂) xt.cps.size 0 [] news
theorem str_st {I : Addr} {c : String} {xt : Str} {tx : Tok} : ∀ i (h h' : Heap) (o : Obj) (nw : List (Addr × Obj)), h.IsStrIter I c xt tx i → h.get? I = some o → h'.get? I = some o → (∀ b o, h₀.get? b = some o → h'.get? b = some o) → News h₀ L h' nw → True → h'.IsStrIter I c xt tx i :=
  fun i h h' o nw st e e' _ _ _ => by obtain ⟨o', q, r⟩ := st; rw [e] at q; cases q; exact ⟨o, e', r⟩
theorem ListComp_T {elt iter : Expr} {x : Str} {px : Pos} {scope : Scope} {cl : List (Str × Addr)} {pos : Pos} {Q : Value → Shared → Prop} (F₀ : Fr h₀ L s.heap m)
    (hclos : closureFor scope env = pure cl) (hcell : ∀ y ∈ scope.names, y.2 ≠ .cell) (hkind : scope.kind = .function)
    (hnames : ∀ y ∈ scope.names, y.2 = .local → scope.names.lookup y.1 = some .local) (hx : scope.names.lookup x = some .local)
    (h : wpAny (model prog w) A (eval iter env) (TxtSrc prog w A h₀ L m env elt x scope cl (fun s₂ => LCg.FinE h₀ L m s₂ Q)) E s)
    (hs : ∀ x, foldedSetIterable iter env x = pure x := by intro _; rfl) :
    wpAny (model prog w) A (eval (.ListComp elt [⟨.Name x px, iter, [], 0⟩] scope pos) env) Q E s := by
  rw [eval_ListComp]
  refine wpAny_comprehension_free (use := none) rfl hs hclos hkind hnames (wpAny_mono h (fun xv s₁ h₁ => ?_) fun _ _ e => e)
  obtain ⟨xt, tx, news, rfl, hh, F, N, hsz, R⟩ := h₁
  cases ha : xt.cps.all (· < 128)
  · refine wpAny_pyIter_wide ha ?_
    refine LCg.block_U (Walks.strWide hh s₁.heap.objs.size xt tx) hsz (fun i h st => by obtain ⟨o, e, _⟩ := st; exact ⟨o, e⟩) str_st hcell hkind hx ⟨_, Heap.get?_push_size _ rfl, rfl, rfl⟩ (fun b hb => ?_)
      (F.keeps fun _ _ e => Heap.get?_push_of_some _ e) (N.grown fun _ _ e => Heap.get?_push_of_some _ e) (Nat.ne_of_lt F.ns.lt) (next_is_new F) (fun p hp => Nat.ne_of_lt (Heap.lt_size (N p hp).1)) trivial (R _ ⟨_, rfl⟩) ?_
    · rw [List.mem_singleton.mp hb]
      show s₁.heap.objs.size < (s₁.heap.push _).objs.size
      rw [Heap.size_push]; exact Nat.lt_succ_self _
    · intro D C h tk m' ys news' F' N' o1 hn hC₀ hD₀ hCL hDL hCD offC fin
      refine ⟨m', hn, fun h'' hs'' => fin D h'' tk (F'.change hs'' hCL hC₀) (fun p hp => ?_) o1⟩
      refine ⟨hs''.extBut _ _ ?_ (N' p hp).1, (N' p hp).2⟩
      rcases List.mem_cons.mp hp with rfl | hp
      · exact Ne.symm hCD
      · exact offC p hp
  · refine wpAny_pyIter_ascii ha ?_
    refine LCg.block_U (Walks.strAscii hh s₁.heap.objs.size xt tx) hsz (fun i h st => by obtain ⟨o, e, _⟩ := st; exact ⟨o, e⟩) str_st hcell hkind hx ⟨_, Heap.get?_push_size _ rfl, rfl, rfl⟩ (fun b hb => ?_)
      (F.keeps fun _ _ e => Heap.get?_push_of_some _ e) (N.grown fun _ _ e => Heap.get?_push_of_some _ e) (Nat.ne_of_lt F.ns.lt) (next_is_new F) (fun p hp => Nat.ne_of_lt (Heap.lt_size (N p hp).1)) trivial (R _ ⟨_, rfl⟩) ?_
    · rw [List.mem_singleton.mp hb]
      show s₁.heap.objs.size < (s₁.heap.push _).objs.size
      rw [Heap.size_push]; exact Nat.lt_succ_self _
    · intro D C h tk m' ys news' F' N' o1 hn hC₀ hD₀ hCL hDL hCD offC fin
      refine ⟨m', hn, fun h'' hs'' => fin D h'' tk (F'.change hs'' hCL hC₀) (fun p hp => ?_) o1⟩
      refine ⟨hs''.extBut _ _ ?_ (N' p hp).1, (N' p hp).2⟩
      rcases List.mem_cons.mp hp with rfl | hp
      · exact Ne.symm hCD
      · exact offC p hp
theorem txt_src {elt : Expr} {x : Str} {scope : Scope} {cl : List (Str × Addr)} {Fin : Shared → List Value → List (Addr × Obj) → Prop} {xt : Str} {tx : Tok} {s₁ : Shared} {news : List (Addr × Obj)} (hh : A.handled = none) (F : Fr h₀ L s₁.heap m) (N : News h₀ L s₁.heap news) (hsz : xt.length ≤ sizeLine)
    (turn : ∀ (n : Nat) (t : Tok) I oI C oC D m₂ ys h tk (E' : Value → Shared → Prop), LCg.NsObj oC m₂ → m₂ x = some (.str ⟨#[n]⟩ t) → Fr h₀ L h m → News h₀ L h ((I, oI) :: (C, oC) :: (D, LCg.lst ys) :: news) → LCg.Off3 I C D news → ((@Ne Nat I C) ∧ (@Ne Nat I D) ∧ (@Ne Nat C D)) →
      wpAny (model prog w) A (eval elt (compEnvC scope cl C env)) (LCg.CompEnd h₀ L m { s₁ with heap := h, toks := tk } I oI C oC D (LCg.lst ys) (fun _ => True) (fun y news' => KCfEl news (n : Int) y news')) E' { s₁ with heap := h, toks := tk })
    (fin : ∀ g ys, IntsAre ys (KStt.codes xt) → Fin { s₁ with heap := g } ys news) :
    TxtSrc prog w A h₀ L m env elt x scope cl Fin (.str xt tx) s₁ := by
  refine ⟨xt, tx, news, rfl, hh, F, N, hsz, ?_⟩
  rintro s₂ ⟨g, rfl⟩
  have hlen : (KStt.codes xt).length = xt.cps.size := KStt.codes_length xt
  have key : ∀ (j i : Nat) (ys : List Value), i + j = xt.cps.size → IntsAre ys ((KStt.codes xt).take i) → LCg.CompRest prog w A h₀ L m env elt x scope cl { s₁ with heap := g } (fun _ => True) (SignAt xt) (Fin { s₁ with heap := g }) j i ys news := by
    intro j
    induction j with
    | zero =>
      intro i ys hi hy
      have e : i = (KStt.codes xt).length := by omega
      subst e
      rw [List.take_length] at hy
      exact LCg.CompRest.zero (fin g ys hy)
    | succ j ih =>
      intro i ys hi hy
      refine LCg.CompRest.succ ?_
      intro v I oI C oC D m₂ h tk E' hv hC hx' F' N' off ne
      obtain ⟨n, u, hn, rfl⟩ := hv
      have hn' := KStt.code_at hn
      refine wpAny_mono (turn n u I oI C oC D m₂ ys h tk E' hC hx' F' N' off ne) (fun y s₂ hq => ?_) fun _ _ e => e
      obtain ⟨h', tk', nw, e, F2, N2, off', hS, hnw, t', hy'⟩ := hq
      rw [hnw] at N2 off'
      refine ⟨h', tk', news, e, F2, N2, off', hS, ?_⟩
      rw [hy']
      refine ih (i + 1) _ (by omega) ?_
      rw [List.take_add_one, hn']
      simpa using IntsAre.append hy (.cons (n : Int) t' .nil)
  exact key xt.cps.size 0 [] (by omega) (by simp only [List.take_zero]; exact .nil)
end

/- part C4 -/
theorem text_le (ns : List Int) : (Txt.join (Str.ofString "") ((ns.take 10 ++ [48879]).map el)).length ≤ 1000 := by
  have h := text_len (ns.take 10 ++ [48879])
  have h2 : (ns.take 10 ++ [48879]).length ≤ 11 := by
    rw [List.length_append, List.length_take]
    simp
    omega
  omega

theorem join_step {prog : Program} {w : World} {A : Around} {E : Value → Shared → Prop} {s : Shared} {t : Tok} {Q : Value → Shared → Prop} {h₀ : Heap} {L D : Addr} {news : List (Addr × Obj)} {ys : List Value} {ns : List Int} (N : News h₀ L s.heap news) (hm : (D, LCg.lst ys) ∈ news)
    (hc : CarriedAll ys ((ns.take 10 ++ [48879]).map fun k => PyData.str (el k))) (h : ∀ t' k, Q (.str (Txt.join (Str.ofString "") ((ns.take 10 ++ [48879]).map el)) t') { s with toks := k }) :
    wpAny (model prog w) A (call (.builtin "str.join") [.str (Str.ofString "") t, .ref D]) Q E s :=
  KT.join_B 13 ⟨_, (N _ hm).1, rfl, _, rfl⟩ hc (fun a _ => el_len a) (by rw [List.length_append, List.length_take]; simp; omega) (by decide) h

local macro_rules | `(tactic| walk_at "call ref") => `(tactic| (k_here; (with_reducible show wpAny _ _ (call (Value.ref 84) [Value.int _ _]) _ _ _); k_dflt (refine' gap _ _ _ _ _ _ _ _ _ _ _ _ _ _ _ _ _ _ _ _ _ _ _ _ ?k1 ?k2 ?k3 ?k4 ?k5 ?kK ?kp ?kd ?ku ?_; (case k1 => k_asm); (case k2 => k_asm); (case k3 => k_asm); (case k4 => k_asm); (case k5 => k_asm); (case kK => first | exact rfl | assumption); (case kp => trivial); (case kd => ktr_room); (case ku => ktr_units); k_whole); intro t9 h9 tk9 F9 N9; (try dsimp only); (try k_fold)))
local macro_rules | `(tactic| walk_at "call ref") => `(tactic| (k_here; (with_reducible show wpAny _ _ (call (Value.ref 77) [Value.int _ _, Value.int _ _]) _ _ _); k_dflt (refine' written _ _ _ _ _ _ _ _ _ _ _ _ _ _ _ _ _ _ _ _ _ _ _ _ _ _ ?k1 ?k2 ?k3 ?k4 ?k5 ?kK ?kp ?kd ?ku ?_; (case k1 => k_asm); (case k2 => k_asm); (case k3 => k_asm); (case k4 => k_asm); (case k5 => k_asm); (case kK => first | exact rfl | assumption); (case kp => exact fmod_rng _); (case kd => ktr_room); (case ku => ktr_units); k_whole); intro t9 h9 tk9 F9 N9; (try dsimp only); (try k_fold)))

theorem readT (w : World) (mean : ExcName → Option Value) (mg mb : Str → Option Value) (news : List (Addr × Obj)) (ns : List Int) (t : Tok) :
    RdClaim w mean mg mb 5 news True [.str (Txt.join (Str.ofString "") ((ns.take 10 ++ [48879]).map el)) t] ((ns.take 10 ++ [48879]).map fun k : Int => k.fmod 281474976710656) := by
  have h := readS w mean mg mb news (Txt.join (Str.ofString "") ((ns.take 10 ++ [48879]).map el)) t
  rw [law_plain] at h
  intro dp un gd cn cs a ccd cl outer A₀ base h₀ L m s Q E h1 h2 h3 h4 h5 h6 _ h7 h8 h9
  exact h dp un gd cn cs a ccd cl outer A₀ base h₀ L m s Q E h1 h2 h3 h4 h5 h6 (text_le ns) h7 h8 h9
theorem readU (w : World) (mean : ExcName → Option Value) (mg mb : Str → Option Value) (news : List (Addr × Obj)) (a : Addr) (vs : List Value) (k : Nat) (ns : List Int) :
    RdClaim w mean mg mb 5 news ((a, W.listOf vs.toArray k) ∈ news ∧ IntsAre vs (KStt.codes (Txt.join (Str.ofString "") ((ns.take 10 ++ [48879]).map el)))) [.ref a] ((ns.take 10 ++ [48879]).map fun k : Int => k.fmod 281474976710656) := by
  have h := readL w mean mg mb news a vs k (KStt.codes (Txt.join (Str.ofString "") ((ns.take 10 ++ [48879]).map el)))
  rw [law_plain] at h
  intro dp un gd cn cs a ccd cl outer A₀ base h₀ L m s Q E h1 h2 h3 h4 h5 h6 hp h7 h8 h9
  exact h dp un gd cn cs a ccd cl outer A₀ base h₀ L m s Q E h1 h2 h3 h4 h5 h6 ⟨hp.1, hp.2, by rw [KStt.codes_length]; exact text_le ns⟩ h7 h8 h9
theorem text_size (ns : List Int) : (Txt.join (Str.ofString "") ((ns.take 10 ++ [48879]).map el)).length ≤ sizeLine := by
  have := text_le ns
  rw [sizeLine_eq]
  omega

local macro_rules | `(tactic| walk_at "call ref") => `(tactic| (k_here; (with_reducible show wpAny _ _ (call (Value.ref 91) [Value.str _ _]) _ _ _); k_dflt (refine' readT _ _ _ _ _ _ _ _ _ _ _ _ _ _ _ _ _ _ _ _ _ _ _ _ ?k1 ?k2 ?k3 ?k4 ?k5 ?kK ?kp ?kd ?ku ?_; (case k1 => k_asm); (case k2 => k_asm); (case k3 => k_asm); (case k4 => k_asm); (case k5 => k_asm); (case kK => first | exact rfl | assumption); (case kp => exact trivial); (case kd => ktr_room); (case ku => ktr_units); k_whole); intro l9 ys9 nn9 h9 tk9 F9 N9 l1 hi9; (try k_lt l1); (try dsimp only); (try k_fold)))
local macro_rules | `(tactic| walk_at "call ref") => `(tactic| (k_here; (with_reducible show wpAny _ _ (call (Value.ref 91) [Value.ref _]) _ _ _); k_dflt (refine' readU _ _ _ _ _ _ _ _ _ _ _ _ _ _ _ _ _ _ _ _ _ _ _ _ _ _ ?k1 ?k2 ?k3 ?k4 ?k5 ?kK ?kp ?kd ?ku ?_; (case k1 => k_asm); (case k2 => k_asm); (case k3 => k_asm); (case k4 => k_asm); (case k5 => k_asm); (case kK => first | exact rfl | assumption); (case kp => exact ⟨by k_mem, by assumption⟩); (case kd => ktr_room); (case ku => ktr_units); k_whole); intro l9 ys9 nn9 h9 tk9 F9 N9 l1 hi9; (try k_lt l1); (try dsimp only); (try k_fold)))

local macro_rules | `(tactic| walk_at "eval ListComp") => `(tactic| (k_here; (with_reducible show wpAny _ _ (eval (PySem.Expr.ListComp (PySem.Expr.Call _ _ _ _) _ _ _) _) _ _ _); k_dflt (refine ListComp_T (F₀ := by k_asm) (by with_unfolding_all rfl) (by decide) (by rfl) (by decide) (by rfl) ?_)))
local macro_rules | `(tactic| walk_at "TxtSrc") => `(tactic| (k_here; k_dflt (refine' txt_src ?k1 ?k2 ?k3 ?k4 ?_ ?_; (case k1 => exact rfl); (case k2 => k_asm); (case k3 => k_asm); (case k4 => exact text_size _)); (all_goals (first | (intro n' t' I' oI' C' oC' D' m' ys' h' tk' E' hC' hx' F' N' off' ne'; (try (simp only [LCg.Off3, and_true] at off'))) | (intro g' ys' hi'))); kcf_last))
local macro_rules | `(tactic| walk_at "CompSrc") => `(tactic| (k_here; (with_reducible show LCg.CompSrc _ _ _ _ _ _ _ (PySem.Expr.BinOp _ PySem.Operator.Add _ _) _ _ _ _ _ _); k_dflt (refine LCg.CompSrc.ledger (by rfl) (by k_asm) (by k_asm) (by k_mem) (by kcf_size) ?_; intro g'; (refine' kct_list el (by first | assumption | l_ints) (fun k' t' I' oI' C' oC' D' m' ys' h' tk' E' hk' hC' hx' F' N' off' ne' hMark' => ?_) ?_); (all_goals (try (simp only [LCg.Off3, and_true] at off'))); kcf_last)))
local macro_rules | `(tactic| walk_at "CompSrc") => `(tactic| (k_here; (with_reducible show LCg.CompSrc _ _ _ _ _ _ _ (PySem.Expr.BinOp _ PySem.Operator.Mod _ _) _ _ _ _ _ _); k_dflt (refine LCg.CompSrc.ledger (by rfl) (by k_asm) (by k_asm) (by k_mem) (by kcf_size) ?_; intro g'; (refine' kcf_list (fun k => k.fmod 281474976710656) (by first | assumption | l_ints) (fun k' t' I' oI' C' oC' D' m' ys' h' tk' E' hk' hC' hx' F' N' off' ne' hMark' => ?_) ?_); (all_goals (try (simp only [LCg.Off3, and_true] at off'))); kcf_last)))
local macro_rules | `(tactic| walk_at "KCfEl") => `(tactic| (k_dflt (exact ⟨rfl, _, rfl⟩)))
local macro_rules | `(tactic| walk_at "binaryOp Add str str") => `(tactic| (k_here; (with_reducible show wpAny _ _ (binaryOp Operator.Add (Value.str (gapF _) _) (Value.str (wrF _ _) _)) _ _ _); (refine PyProof.Rows.add_str ?_ (el_size _); intro _ _)))
local macro_rules | `(tactic| walk_at "KCtEl") => `(tactic| (k_dflt (exact ⟨rfl, _, rfl⟩)))
local macro_rules | `(tactic| walk_at "call builtin:str.join") => `(tactic| (k_here; (with_reducible show wpAny _ _ (call (Value.builtin "str.join") [Value.str _ _, Value.ref _]) _ _ _); k_dflt (refine' join_step ?k1 ?k2 ?k3 ?_; (case k1 => k_asm); (case k2 => k_mem); (case k3 => k_asm); k_whole); intro _ _))

theorem main : PySem.Challenge.rw_ki0015_01.Holds := by
  refine hd ?_
  k_with_none
  k_go0
  (all_goals try k_fold)
  k_steps
end Mine

theorem PySem.Challenge.cw_ki0015_01_holds : PySem.Challenge.rw_ki0015_01.Holds :=
  Mine.main
