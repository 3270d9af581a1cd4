import PyProof.Rows.All
import Wide.All
import OpenK.AllK
import Wide.FinOn
import PySem.Challenge.RW_oy0114_01

open PySem PySem.W PySem.Calls PyProof.Rows
set_option Elab.async false
set_option maxRecDepth 100000
set_option maxHeartbeats 8000000
namespace Mine
noncomputable section
open_top hd for PySem.Challenge.rw_oy0114_01
local macro_rules | `(tactic| k_room) => `(tactic| ktr_room)
local macro_rules | `(tactic| k_units) => `(tactic| ktr_units)
local macro_rules | `(tactic| walk_at $s:str) => `(tactic| k_extra $s)
section
section
variable {prog : Program} {w : World} {A A₀ : Around} {E : Value → Shared → Prop} {s : Shared} {K : Frag} {L : Addr} {h₀ base : Heap} {m mg mb : Str → Option Value} {news : List (Addr × Obj)} {p : Program} {loose : List Str} {mean : ExcName → Option Value} {Q : Value → Shared → Prop}
/-- a def is entered with nothing of the caller's hidden: all that stands at the call stands under it -/
theorem enter0 {env : Env} {outer : List Env} {R : Result → Shared → Prop} {name qual : Str} {params : Arguments} {body : List Stmt} {scope : Scope} {dV kV doc pm cdv ct oc : Value} {an od : Option Addr} {osl : Array (Option Value)} {f : Addr} {args : Args} {binds : List (Str × Value)}
    (B : Below A₀ base outer h₀) (F : Fr h₀ L s.heap m) (X₀ : K.In h₀) (T : Top p loose mean mg mb h₀) (hA : A.frames = some (env :: outer)) (hf : env.frame = some L) (hke : env.scope.kind = .function)
    (ho : K.lookup f = some ⟨oc, od, .func (fnOf name qual params body scope dV kV doc pm an cdv ct), osl⟩) (hcd : codeIn K cdv qual = true) (hroom : A.depth < recursionLimit)
    (hbind : BindsTo s (fnOf name qual params body scope dV kV doc pm an cdv ct) args binds) (hloc : ∀ y ∈ binds, scope.names.lookup y.1 = some .local)
    (h : ∀ L' h₁, Fr s.heap L' h₁ (fun y => binds.reverse.lookup y) → News s.heap L' h₁ [] → Below A base (env :: outer) s.heap → K.In s.heap → Top p loose mean mg mb s.heap →
      wpAny (model prog w) (A.deeper (envOf qual scope L' f cdv)) (execs body (envOf qual scope L' f cdv))
        (fun fl s' => LeaveK h₀ L m s.heap R (match fl with | .ret v => v | _ => .none) s')
        (fun e s' => wpAny (model prog w) (A.deeper (envOf qual scope L' f cdv)) (leaving (envOf qual scope L' f cdv) e) (fun _ s'' => R (.error e) s'') (fun e' s'' => R (.error e') s'') s')
        { s with heap := h₁, toks := s.toks + binds.length })
    (hco : scope.isCoroutine = false) (hgen : scope.isGenerator = false) (hk : scope.kind = .function)
    (hcell : ∀ x ∈ scope.names, x.2 ≠ .cell) : codeAny (model prog w) A (.call (.ref f) args) R s := by
  obtain ⟨FG, BG, st, lv⟩ := groundX (R := R) B F (News.nil) hA hf hke
  refine codeAny_call_def (fd := fnOf name qual params body scope dV kV doc pm an cdv ct) (body := body) (binds := binds) hroom (X₀.keeps F.keep _ _ ho) rfl (T.nolimit.keeps F.keep) (codeRec_of (X₀.keeps F.keep) hcd) rfl hbind hcell hloc (fun h₁ hns hk₁ => ?_) hco hgen hk
  exact wpAny_mono (h s.heap.objs.size h₁ ⟨hns, fun b o e => hk₁ b o e, Nat.le_refl _⟩ News.nil BG (X₀.keeps st) (T.keeps st)) (fun fl s' hl => lv _ _ hl) fun _ _ y => y
theorem news_kept {g h' : Heap} {L' : Addr} {m' : Str → Option Value} (N : News h₀ L g news) (F : Fr g L' h' m') : News h₀ L h' news :=
  fun p hp => ⟨F.keep _ _ (N p hp).1, (N p hp).2⟩
end
theorem ex_bytes {xs ys : List Int} {t : Tok} (h : xs = ys) : ∃ t', Value.bytes (byteArr xs) t = .bytes (byteArr ys) t' := ⟨t, h ▸ rfl⟩
theorem ex_bytesA {b c : Array UInt8} {t : Tok} (h : b = c) : ∃ t', Value.bytes b t = .bytes c t' := ⟨t, h ▸ rfl⟩
theorem ex_str {x y : Str} {t : Tok} (h : x = y) : ∃ t', Value.str x t = .str y t' := ⟨t, h ▸ rfl⟩
/-- the contract of a def: what it asks of the heap, what it hands back -/
noncomputable def Ctr (w : World) (f : Addr) (dd : Nat) (vs : List Value) (kw : List (Str × Value)) (Hyp : Heap → Prop) (Out : Value → Heap → Heap → Prop) : Prop :=
  ∀ (mean : ExcName → Option Value) (mg mb : Str → Option Value) (dp un : Nat) (gd : Option (List Code)) (cn : Str) (cs : Scope) (a : Addr) (ccd : Value) (cl : List (Str × Addr)) (outer : List Env) (A₀ : Around) (base h₀ : Heap) (L : Addr) (m : Str → Option Value) (news : List (Addr × Obj)) (s : Shared) (Q E : Value → Shared → Prop),
    Below A₀ base outer h₀ → Fr h₀ L s.heap m → (Mine.hd.heap_39 w.params).In h₀ → News h₀ L s.heap news → Top Mine.hd.view_39 (looseW Mine.hd.view_39 [Str.ofString "bytes_types", Str.ofString "a2b_base64", Str.ofString "b2a_base64", Str.ofString "b64encode", Str.ofString "b64decode", Str.ofString "_initial_missing", Str.ofString "reduce"]) mean mg mb h₀ → cs.kind = .function →
    dp + dd < recursionLimit → un + 8 * dd < cLine → Hyp s.heap →
    (∀ r h' tk', Fr h₀ L h' m → News h₀ L h' news → (∀ b o, s.heap.get? b = some o → h'.get? b = some o) → Out r s.heap h' → Q r { s with heap := h', toks := tk' }) →
    wpAny (model PySem.Challenge.rw_oy0114_01.row.prog w) (ktrTop dp un gd cn cs L a ccd cl outer) (call (.ref f) vs kw) Q E s
theorem Ctr.use {w : World} {f : Addr} {dd : Nat} {vs : List Value} {kw : List (Str × Value)} {Hyp : Heap → Prop} {Out : Value → Heap → Heap → Prop} (C : Ctr w f dd vs kw Hyp Out)
    {mean : ExcName → Option Value} {mg mb : Str → Option Value} {dp un : Nat} {gd : Option (List Code)} {cn : Str} {cs : Scope} {a : Addr} {ccd : Value} {cl : List (Str × Addr)} {outer : List Env} {A₀ : Around} {base h₀ : Heap} {L : Addr} {m : Str → Option Value} {news : List (Addr × Obj)} {s : Shared} {Q E : Value → Shared → Prop}
    (B : Below A₀ base outer h₀) (F : Fr h₀ L s.heap m) (X : (Mine.hd.heap_39 w.params).In h₀) (N : News h₀ L s.heap news) (T : Top Mine.hd.view_39 (looseW Mine.hd.view_39 [Str.ofString "bytes_types", Str.ofString "a2b_base64", Str.ofString "b2a_base64", Str.ofString "b64encode", Str.ofString "b64decode", Str.ofString "_initial_missing", Str.ofString "reduce"]) mean mg mb h₀) (hk : cs.kind = .function)
    (hd : dp + dd < recursionLimit) (hu : un + 8 * dd < cLine) (hyp : Hyp s.heap)
    (ret : ∀ r h' tk', Fr h₀ L h' m → News h₀ L h' news → (∀ b o, s.heap.get? b = some o → h'.get? b = some o) → Out r s.heap h' → Q r { s with heap := h', toks := tk' }) :
    wpAny (model PySem.Challenge.rw_oy0114_01.row.prog w) (ktrTop dp un gd cn cs L a ccd cl outer) (call (.ref f) vs kw) Q E s :=
  C _ _ _ _ _ _ _ _ _ _ _ _ _ _ _ _ _ _ _ _ _ B F X N T hk hd hu hyp ret
end
section
noncomputable def b64L : List Int := [65, 66, 67, 68, 69, 70, 71, 72, 73, 74, 75, 76, 77, 78, 79, 80, 81, 82, 83, 84, 85, 86, 87, 88, 89, 90, 97, 98, 99,
     100, 101, 102, 103, 104, 105, 106, 107, 108, 109, 110, 111, 112, 113, 114, 115, 116, 117, 118, 119, 120, 121, 122,
     48, 49, 50, 51, 52, 53, 54, 55, 56, 57, 43, 47]
/-- the sign of a figure -/
noncomputable def tab (i : Int) : Int := b64L.getD i.toNat 0
theorem b64L_in : ∀ n ∈ b64L, (0 : Int) ≤ n ∧ n < 256 := by decide
theorem tab_in (i : Int) : 0 ≤ tab i ∧ tab i < 256 := KBw.getD_in b64L_in
theorem and_shift (k : Nat) : ∀ (x y : Int), 0 ≤ y → y < 2 ^ k → Builtin.bitAnd (x * 2 ^ k) y = 0 := by
  induction k with
  | zero =>
    intro x y h0 h1
    have : y = 0 := by simp at h1; omega
    subst this
    rw [bitAnd_comm]
    have := bitAnd_range (x * 2 ^ 0) (y := 0) (by decide)
    rw [bitAnd_comm] at this
    omega
  | succ k ih =>
    intro x y h0 h1
    have hp : (2 : Int) ^ (k + 1) = 2 * 2 ^ k := by rw [Int.pow_succ]; omega
    rw [kbt_halves]
    have e : x * 2 ^ (k + 1) = 2 * (x * 2 ^ k) := by rw [hp, Int.mul_left_comm]
    have e1 : x * 2 ^ (k + 1) / 2 = x * 2 ^ k := by rw [e]; omega
    have e2 : x * 2 ^ (k + 1) % 2 = 0 := by rw [e]; omega
    rw [e1, e2, ih x (y / 2) (by omega) (by rw [hp] at h1; omega)]
    simp
theorem or_shift (k : Nat) (x y : Int) (h0 : 0 ≤ y) (h1 : y < 2 ^ k) : Builtin.bitOr (x * 2 ^ k) y = x * 2 ^ k + y := by
  rw [bitOr_and, and_shift k x y h0 h1]; omega
noncomputable def encStep (st : List Int × Int × Int) (b : Int) : List Int × Int × Int :=
  if st.2.1 = 4 then (st.1 ++ [tab ((st.2.2 * 256 + b) % 65536 / 64 % 64), tab ((st.2.2 * 256 + b) % 65536 % 64)], 0, (st.2.2 * 256 + b) % 65536)
  else if st.2.1 = 2 then (st.1 ++ [tab ((st.2.2 * 256 + b) % 65536 / 16 % 64)], 4, (st.2.2 * 256 + b) % 65536)
  else (st.1 ++ [tab ((st.2.2 * 256 + b) % 65536 / 4 % 64)], 2, (st.2.2 * 256 + b) % 65536)
noncomputable def encL (ns : List Int) : List Int := (ns.foldl encStep ([], 0, 0)).1
structure EncP (pre out : List Int) (lb lc : Int) : Prop where
  eq : pre.foldl encStep ([], 0, 0) = (out, lb, lc)
  len : out.length ≤ 2 * pre.length
  bits : lb = 2 * ((pre.length : Int) % 3)
  lo : 0 ≤ lc
  hi : lc < 65536
  isIn : KBa.In out
theorem encP_nil : EncP [] [] 0 0 := ⟨rfl, by decide, by decide, by decide, by decide, fun _ h => nomatch h⟩
theorem in_snoc {l : List Int} {x : Int} (h : KBa.In l) (hx : 0 ≤ x ∧ x < 256) : KBa.In (l ++ [x]) := fun n hn => (List.mem_append.mp hn).elim (h n) fun q => by rw [List.mem_singleton.mp q]; exact hx
theorem encP_0 {pre out : List Int} {lc b : Int} (h : EncP pre out 0 lc) : EncP (pre ++ [b]) (out ++ [tab ((lc * 256 + b) % 65536 / 4 % 64)]) 2 ((lc * 256 + b) % 65536) := by
  obtain ⟨e, h1, h2, h3, h4, h5⟩ := h
  refine ⟨by rw [List.foldl_append, e]; rfl, ?_, ?_, by omega, by omega, in_snoc h5 (tab_in _)⟩
  · simp only [List.length_append, List.length_cons, List.length_nil]; omega
  · simp only [List.length_append, List.length_cons, List.length_nil]; omega
theorem encP_2 {pre out : List Int} {lc b : Int} (h : EncP pre out 2 lc) : EncP (pre ++ [b]) (out ++ [tab ((lc * 256 + b) % 65536 / 16 % 64)]) 4 ((lc * 256 + b) % 65536) := by
  obtain ⟨e, h1, h2, h3, h4, h5⟩ := h
  refine ⟨by rw [List.foldl_append, e]; rfl, ?_, ?_, by omega, by omega, in_snoc h5 (tab_in _)⟩
  · simp only [List.length_append, List.length_cons, List.length_nil]; omega
  · simp only [List.length_append, List.length_cons, List.length_nil]; omega
theorem encP_4 {pre out : List Int} {lc b : Int} (h : EncP pre out 4 lc) : EncP (pre ++ [b]) ((out ++ [tab ((lc * 256 + b) % 65536 / 64 % 64)]) ++ [tab ((lc * 256 + b) % 65536 / 1 % 64)]) 0 ((lc * 256 + b) % 65536) := by
  rw [Int.ediv_one]
  obtain ⟨e, h1, h2, h3, h4, h5⟩ := h
  refine ⟨by rw [List.foldl_append, e, List.append_assoc]; rfl, ?_, ?_, by omega, by omega, in_snoc (in_snoc h5 (tab_in _)) (tab_in _)⟩
  · simp only [List.length_append, List.length_cons, List.length_nil]; omega
  · simp only [List.length_append, List.length_cons, List.length_nil]; omega
theorem EncP.cases {pre out : List Int} {lb lc : Int} (h : EncP pre out lb lc) : lb = 0 ∨ lb = 2 ∨ lb = 4 := by
  have := h.bits; omega
section
variable {prog : Program} {w : World} {A : Around} {E : Value → Shared → Prop} {s : Shared} {Q : Value → Shared → Prop} {a b : Int} {t u : Tok}
theorem and_63 (h : Q (.int (a % 64) s.toks) { s with toks := s.toks + 1 }) : wpAny (model prog w) A (binaryOp .BitAnd (.int a t) (.int 63 u)) Q E s := and_int (by rw [bitAnd_m6]; exact h)
theorem and_15 (h : Q (.int (a % 16) s.toks) { s with toks := s.toks + 1 }) : wpAny (model prog w) A (binaryOp .BitAnd (.int a t) (.int 15 u)) Q E s := and_int (by rw [bitAnd_m4]; exact h)
theorem and_3 (h : Q (.int (a % 4) s.toks) { s with toks := s.toks + 1 }) : wpAny (model prog w) A (binaryOp .BitAnd (.int a t) (.int 3 u)) Q E s := and_int (by rw [bitAnd_m2]; exact h)
theorem and_65535 (h : Q (.int (a % 65536) s.toks) { s with toks := s.toks + 1 }) : wpAny (model prog w) A (binaryOp .BitAnd (.int a t) (.int 65535 u)) Q E s := and_int (by rw [bitAnd_m16]; exact h)
theorem or_by {k : Nat} {p c : Int} (hp : (2 : Int) ^ k = p) (hc : a * p = c) (h0 : 0 ≤ b) (h1 : b < p) (h : Q (.int (a * p + b) s.toks) { s with toks := s.toks + 1 }) : wpAny (model prog w) A (binaryOp .BitOr (.int c t) (.int b u)) Q E s :=
  or_int (by subst hp; subst hc; rw [or_shift k a b h0 h1]; exact h)
theorem shl_by {n p : Int} (hn : 0 ≤ n) (hn2 : n ≤ 1000000) (hp : (2 : Int) ^ n.toNat = p) (h0 : 0 ≤ a) (h1 : a < 65536) (h : Q (.int (a * p) s.toks) { s with toks := s.toks + 1 }) : wpAny (model prog w) A (binaryOp .LShift (.int a t) (.int n u)) Q E s :=
  lshift_int_small hn hn2 (by omega) (by subst hp; exact h)
theorem shr_by {n p : Int} (hn : 0 ≤ n) (hp : (2 : Int) ^ n.toNat = p) (hp0 : 0 ≤ p) (h : Q (.int (a / p) s.toks) { s with toks := s.toks + 1 }) : wpAny (model prog w) A (binaryOp .RShift (.int a t) (.int n u)) Q E s :=
  rshift_int hn (by subst hp; rw [Int.fdiv_eq_ediv_of_nonneg _ hp0]; exact h)
theorem b64_item {value slice : PySem.Expr} {i : Int} {ui : Tok} {arr : Array UInt8} (harr : KBw.bInts arr = b64L) (h0 : 0 ≤ i) (h1 : i < 64)
    (h : ∀ t' k, 0 ≤ tab i → tab i < 256 → Q (.int (tab i) t') { s with toks := k })
    (hs : subscripted slice false (.bytes arr t) (.int i ui) = operate [.bytes arr t, .int i ui] (getItem (.bytes arr t) (.int i ui)) := by with_unfolding_all rfl)
    (ht : ∀ r, letTemporaryGo value (.bytes arr t) r = pure () := by intro _; with_unfolding_all rfl) : wpAny (model prog w) A (subscriptTail value slice (.bytes arr t) (.int i ui)) Q E s :=
  KBw.item_K harr (by decide) h0 h1 h hs ht
end
end
section
theorem tab_cases (v : Int) (h0 : 0 ≤ v) (h1 : v < 64) : (v < 26 ∧ tab v = v + 65) ∨ (26 ≤ v ∧ v < 52 ∧ tab v = v + 71) ∨ (52 ≤ v ∧ v < 62 ∧ tab v = v - 4) ∨ (v = 62 ∧ tab v = 43) ∨ (v = 63 ∧ tab v = 47) := by
  obtain ⟨n, rfl⟩ := Int.eq_ofNat_of_zero_le h0
  have hn : n < 64 := by omega
  have key : ∀ n : Fin 64, ((n.val : Int) < 26 ∧ tab (n.val : Int) = (n.val : Int) + 65) ∨ (26 ≤ (n.val : Int) ∧ (n.val : Int) < 52 ∧ tab (n.val : Int) = (n.val : Int) + 71) ∨ (52 ≤ (n.val : Int) ∧ (n.val : Int) < 62 ∧ tab (n.val : Int) = (n.val : Int) - 4) ∨ ((n.val : Int) = 62 ∧ tab (n.val : Int) = 43) ∨ ((n.val : Int) = 63 ∧ tab (n.val : Int) = 47) := by decide +kernel
  exact key ⟨n, hn⟩
/-- a sign's figure -/
noncomputable def uv (c : Int) : Int := if 65 ≤ c ∧ c ≤ 90 then c - 65 else if 97 ≤ c ∧ c ≤ 122 then c - 71 else if 48 ≤ c ∧ c ≤ 57 then c + 4 else if c = 43 then 62 else if c = 47 then 63 else 64
theorem uv_tab (v : Int) (h0 : 0 ≤ v) (h1 : v < 64) : uv (tab v) = v := by
  obtain ⟨n, rfl⟩ := Int.eq_ofNat_of_zero_le h0
  have key : ∀ n : Fin 64, uv (tab (n.val : Int)) = (n.val : Int) := by decide +kernel
  exact key ⟨n, by omega⟩
noncomputable def Figs (fs : List Int) : Prop := ∀ v ∈ fs, 0 ≤ v ∧ v < 64
noncomputable def decStep (st : List Int × Int × Int) (v : Int) : List Int × Int × Int :=
  if st.2.1 = 0 then (st.1, 1, v)
  else if st.2.1 = 1 then (st.1 ++ [st.2.2 * 4 + v / 16], 2, v % 16)
  else if st.2.1 = 2 then (st.1 ++ [st.2.2 * 16 + v / 4], 3, v % 4)
  else (st.1 ++ [st.2.2 * 64 + v], 0, 0)
noncomputable def decL (fs : List Int) : List Int := (fs.foldl decStep ([], 0, 0)).1
structure DecP (pre out : List Int) (qp lc pads : Int) (fpre : List Int) : Prop where
  pads0 : pads = 0
  figs : Figs fpre
  same : pre = fpre.map tab
  eq : fpre.foldl decStep ([], 0, 0) = (out, qp, lc)
  len : out.length ≤ pre.length
  pos : qp = (pre.length : Int) % 4
  lo : 0 ≤ lc
  hi : (qp = 0 ∧ lc = 0) ∨ (qp = 1 ∧ lc < 64) ∨ (qp = 2 ∧ lc < 16) ∨ (qp = 3 ∧ lc < 4)
  isIn : KBa.In out
theorem decP_nil : DecP [] [] 0 0 0 [] := ⟨rfl, (fun _ h => nomatch h), rfl, rfl, by decide, by decide, by decide, by decide, (fun _ h => nomatch h)⟩
theorem figs_snoc {l : List Int} {v : Int} (h : Figs l) (h0 : 0 ≤ v) (h1 : v < 64) : Figs (l ++ [v]) := fun n hn => (List.mem_append.mp hn).elim (h n) fun q => by rw [List.mem_singleton.mp q]; exact ⟨h0, h1⟩
theorem len_both {l r : List Int} {a b : Int} (h : l.length ≤ r.length) : (l ++ [a]).length ≤ (r ++ [b]).length := by
  rw [List.length_append, List.length_append]; exact Nat.add_le_add_right h 1
theorem len_right {l r : List Int} {b : Int} (h : l.length ≤ r.length) : l.length ≤ (r ++ [b]).length := Nat.le_trans h (by rw [List.length_append]; exact Nat.le_add_right _ _)
theorem mod_up {n : Nat} {q p : Int} (h : q = (n : Int) % 4) (hp : p = if q = 3 then 0 else q + 1) : p = ((n + 1 : Nat) : Int) % 4 := by
  split at hp <;> omega
theorem mod_next {r : List Int} {b q p : Int} (h : q = (r.length : Int) % 4) (hp : p = if q = 3 then 0 else q + 1) : p = ((r ++ [b]).length : Int) % 4 := by
  rw [List.length_append, List.length_singleton]; exact mod_up h hp
theorem in_1 {l v : Int} (a : 0 ≤ l) (b : l < 64) (c : 0 ≤ v) (d : v < 64) : 0 ≤ l * 4 + v / 16 ∧ l * 4 + v / 16 < 256 := by omega
theorem in_2 {l v : Int} (a : 0 ≤ l) (b : l < 16) (c : 0 ≤ v) (d : v < 64) : 0 ≤ l * 16 + v / 4 ∧ l * 16 + v / 4 < 256 := by omega
theorem in_3 {l v : Int} (a : 0 ≤ l) (b : l < 4) (c : 0 ≤ v) (d : v < 64) : 0 ≤ l * 64 + v ∧ l * 64 + v < 256 := by omega
section
variable {pre out fpre : List Int} {lc v : Int} (h0 : 0 ≤ v) (h1 : v < 64)
include h0 h1
theorem decP_0 (h : DecP pre out 0 lc 0 fpre) : DecP (pre ++ [tab v]) out 1 v 0 (fpre ++ [v]) := by
  obtain ⟨_, f, e, q, l, p, _, _, i⟩ := h
  exact ⟨rfl, figs_snoc f h0 h1, by rw [e, List.map_append]; rfl, by rw [List.foldl_append, q]; rfl, len_right l, mod_next p (by decide), h0, .inr (.inl ⟨rfl, h1⟩), i⟩
theorem decP_1 (h : DecP pre out 1 lc 0 fpre) : DecP (pre ++ [tab v]) (out ++ [lc * 4 + v / 16]) 2 (v % 16) 0 (fpre ++ [v]) := by
  obtain ⟨_, f, e, q, l, p, lo, hi, i⟩ := h
  have hl : lc < 64 := by rcases hi with ⟨q, _⟩ | ⟨_, q⟩ | ⟨q, _⟩ | ⟨q, _⟩ <;> first | exact q | exact absurd q (by decide)
  exact ⟨rfl, figs_snoc f h0 h1, by rw [e, List.map_append]; rfl, by rw [List.foldl_append, q]; rfl, len_both l, mod_next p (by decide), Int.emod_nonneg _ (by decide), .inr (.inr (.inl ⟨rfl, Int.emod_lt_of_pos _ (by decide)⟩)), in_snoc i (in_1 lo hl h0 h1)⟩
theorem decP_2 (h : DecP pre out 2 lc 0 fpre) : DecP (pre ++ [tab v]) (out ++ [lc * 16 + v / 4]) 3 (v % 4) 0 (fpre ++ [v]) := by
  obtain ⟨_, f, e, q, l, p, lo, hi, i⟩ := h
  have hl : lc < 16 := by rcases hi with ⟨q, _⟩ | ⟨q, _⟩ | ⟨_, q⟩ | ⟨q, _⟩ <;> first | exact q | exact absurd q (by decide)
  exact ⟨rfl, figs_snoc f h0 h1, by rw [e, List.map_append]; rfl, by rw [List.foldl_append, q]; rfl, len_both l, mod_next p (by decide), Int.emod_nonneg _ (by decide), .inr (.inr (.inr ⟨rfl, Int.emod_lt_of_pos _ (by decide)⟩)), in_snoc i (in_2 lo hl h0 h1)⟩
theorem decP_3 (h : DecP pre out 3 lc 0 fpre) : DecP (pre ++ [tab v]) (out ++ [lc * 64 + v]) 0 0 0 (fpre ++ [v]) := by
  obtain ⟨_, f, e, q, l, p, lo, hi, i⟩ := h
  have hl : lc < 4 := by rcases hi with ⟨q, _⟩ | ⟨q, _⟩ | ⟨q, _⟩ | ⟨_, q⟩ <;> first | exact q | exact absurd q (by decide)
  exact ⟨rfl, figs_snoc f h0 h1, by rw [e, List.map_append]; rfl, by rw [List.foldl_append, q]; rfl, len_both l, mod_next p (by decide), by decide, .inl ⟨rfl, rfl⟩, in_snoc i (in_3 lo hl h0 h1)⟩
end
/-- the loop's word: the figures taken so far, whatever they are -/
noncomputable def DecE (pre out : List Int) (qp lc pads : Int) : Prop := ∃ fpre, DecP pre out qp lc pads fpre
theorem tab_map_in (fs : List Int) : KBa.In (fs.map tab) := fun n hn => by
  obtain ⟨v, _, rfl⟩ := List.mem_map.mp hn
  exact tab_in v
theorem tab_inj {v u : Int} (h0 : 0 ≤ v) (h1 : v < 64) (g0 : 0 ≤ u) (g1 : u < 64) (e : tab v = tab u) : v = u := by
  rw [← uv_tab v h0 h1, ← uv_tab u g0 g1, e]
theorem map_tab_inj : ∀ {l r : List Int}, Figs l → Figs r → l.map tab = r.map tab → l = r
  | [], [], _, _, _ => rfl
  | [], _ :: _, _, _, e => by simp at e
  | _ :: _, [], _, _, e => by simp at e
  | v :: l, u :: r, hl, hr, e => by
    simp only [List.map_cons, List.cons.injEq] at e
    rw [tab_inj (hl v (.head _)).1 (hl v (.head _)).2 (hr u (.head _)).1 (hr u (.head _)).2 e.1, map_tab_inj (fun x hx => hl x (.tail _ hx)) (fun x hx => hr x (.tail _ hx)) e.2]
end
section
open PySem.Builtin
theorem forIn_inv {S : Type} (f : Nat → S → Sem (ForInStep S)) (inv : Nat → S) (n : Nat) (h : ∀ k x, k < n → f x (inv k) = pure (.yield (inv (k + 1)))) :
    ∀ (l : List Nat) (k : Nat), k + l.length = n → forIn l (inv k) f = pure (inv n)
  | [], k, e => by simp at e; subst e; rfl
  | x :: l, k, e => by
    have hk : k < n := by simp at e; omega
    rw [List.forIn_cons, h k x hk]
    exact forIn_inv f inv n h l (k + 1) (by simp at e ⊢; omega)
theorem forIn_two {S : Type} (f : Nat → S → Sem (ForInStep S)) (s₀ s₁ : S) (h0 : ∀ x, f x s₀ = pure (.yield s₁)) (h1 : ∀ x, f x s₁ = pure (.done s₁)) :
    ∀ (l : List Nat), l ≠ [] → forIn l s₀ f = pure s₁
  | [], e => absurd rfl e
  | [x], _ => by rw [List.forIn_cons, h0]; rfl
  | x :: y :: l, _ => by
    rw [List.forIn_cons, h0]
    show forIn (y :: l) s₁ f = _
    rw [List.forIn_cons, h1]; rfl
theorem dec_run (id : String) (b : Array UInt8) (hb : ∀ i, (b.getD i 0).toNat < 128) (hsz : b.size ≤ sizeLine) : _codecs.runDecoder id _codecs.asciiDecoder none true b 0 [] = pure (b.map (·.toNat), b.size) := by
  unfold _codecs.runDecoder
  simp only [Std.Legacy.Range.forIn_eq_forIn_range', Std.Legacy.Range.size]
  have hs : (b.size - 0 + 1 - 1) / 1 = b.size := by simp
  rw [hs]
  have key := fun f hf => forIn_inv (S := Nat × Array Nat × _codecs.Faults) f (fun k => (k, (b.map (·.toNat)).extract 0 k, {})) b.size hf (List.range' 0 b.size) 0 (by simp)
  simp only [Array.extract_zero] at key
  rw [key]
  · show Sem.pure _ = Sem.pure _
    simp
  · intro k x hk
    have h1 : ¬ (((b.map (·.toNat)).extract 0 k).size > sizeLine) := by simp; omega
    have h2 : ¬ (k ≥ b.size) := by omega
    dsimp only
    rw [if_neg h1, if_neg h2]
    have h3 : _codecs.asciiDecoder.find true b k = .char (b.getD k 0).toNat (k + 1) := by
      show (if (b.getD k 0).toNat < 128 then _ else _) = _
      rw [if_pos (hb k)]
    rw [h3]
    show Sem.pure _ = Sem.pure _
    congr 3
    simp only [Prod.mk.injEq, and_true]
    apply Array.ext'
    simp [List.take_add_one, hk]
theorem enc_run (id : String) (self : Value) (s : Str) (hb : ∀ c ∈ s.cps, c < 128) (hn : 0 < s.cps.size) (hsz : s.cps.size ≤ sizeLine) : _codecs.encodeNarrow id _codecs.asciiCodec none self s = pure (s.cps.map (·.toUInt8)) := by
  unfold _codecs.encodeNarrow
  simp only [Std.Legacy.Range.forIn_eq_forIn_range', Std.Legacy.Range.size]
  have hs : (s.length - 0 + 1 - 1) / 1 = s.cps.size := by simp; rfl
  rw [hs]
  have key := fun f h0 h1 => forIn_two (S := Nat × Array UInt8 × _codecs.Faults) f (0, #[], {}) (s.cps.size, s.cps.map (·.toUInt8), {}) h0 h1 (List.range' 0 s.cps.size) (by intro q; have := congrArg List.length q; rw [List.length_range'] at this; simp only [List.length_nil] at this; omega)
  have hbad : ∀ c ∈ s.cps, _codecs.asciiCodec.bad c = false := fun c hc => by
    show decide (c ≥ 128) = false
    have := hb c hc
    exact decide_eq_false (by omega)
  rw [key]
  · rfl
  · intro x
    dsimp only
    rw [if_neg (by simp)]
    have h0 : s.cps[0]? = some (s.cps[0]) := by simp [hn]
    rw [h0]
    dsimp only
    rw [hbad _ (Array.getElem_mem hn)]
    have h3 : Array.findIdx? _codecs.asciiCodec.bad (s.cps.extract 0) = none := by
      rw [Array.findIdx?_eq_none_iff]
      intro c hc
      exact hbad c (by simpa using hc)
    rw [h3]
    show Sem.pure _ = Sem.pure _
    have e1 : (s.cps.extract 0).extract 0 s.cps.size = s.cps := by simp
    have e2 : (s.cps.extract 0).size = s.cps.size := by simp
    have g : ∀ (l : List Nat) (acc : Array UInt8), l.foldl (fun acc y => acc ++ (_codecs.asciiCodec.bytesOf y).toArray) acc = acc ++ (l.map (·.toUInt8)).toArray := by
      intro l
      induction l with
      | nil => intro acc; simp
      | cons y l ih =>
        intro acc
        rw [List.foldl_cons, ih]
        show acc ++ [y.toUInt8].toArray ++ _ = _
        simp
    have e3 : Array.foldl (fun acc y => acc ++ (_codecs.asciiCodec.bytesOf y).toArray) #[] s.cps = s.cps.map (·.toUInt8) := by
      rw [← Array.foldl_toList, g]
      apply Array.ext'
      simp
    simp only [e1, Option.getD_none, e2, Nat.zero_add, e3]
  · intro x
    dsimp only
    have hq : ¬ ((s.cps.map (·.toUInt8)).size > sizeLine) := by simp; omega
    rw [if_neg hq]
    have h0 : s.cps[s.cps.size]? = none := by simp
    rw [h0]
theorem slot_translate : Slot "bytes" "translate" "bytes.translate" :=
  .of (owner := "bytes") (n := "translate") (by rw [typeLookup_type, builtinLookup_eq_fast]; kernel_rfl) (by decide +kernel) (by decide +kernel) (by decide +kernel)
    (by first | exact .inl (by decide +kernel) | exact .inr (by decide +kernel)) (by rw [isSubtype_type]; kernel_rfl)
theorem type_translate : typeOf (.builtin "bytes.translate") = pure (.type "method_descriptor") := by show builtinType _ = _; rw [builtinType_eq_fast]; kernel_rfl
theorem entry_translate : entryFor table "bytes.translate" = some Builtin.«bytes.translate» := entryFor_of_tree (by kernel_rfl)
theorem args_translate (a b : Value) : argsOk "bytes.translate" ⟨[a, b], []⟩ := by unfold argsOk; kernel_rfl
theorem args_decode (a b : Value) : argsOk "bytes.decode" ⟨[a, b], []⟩ := by unfold argsOk; kernel_rfl
theorem check_maketrans (a b : Value) : checkBuiltinCall "bytes.maketrans" ⟨[a, b], []⟩ = pure () := by kernel_rfl
theorem plain_maketrans : plainId "bytes.maketrans" = true := by decide +kernel
theorem entry_maketrans : entryFor table "bytes.maketrans" = some Builtin.«bytes.maketrans» := entryFor_of_tree (by kernel_rfl)
theorem args_maketrans (a b : Value) : argsOk "bytes.maketrans" ⟨[a, b], []⟩ := by unfold argsOk; kernel_rfl
theorem slot_encode : Slot "str" "encode" "str.encode" :=
  .of (owner := "str") (n := "encode") (by rw [typeLookup_type, builtinLookup_eq_fast]; kernel_rfl) (by decide +kernel) (by decide +kernel) (by decide +kernel)
    (by first | exact .inl (by decide +kernel) | exact .inr (by decide +kernel)) (by rw [isSubtype_type]; kernel_rfl)
theorem type_encode : typeOf (.builtin "str.encode") = pure (.type "method_descriptor") := by show builtinType _ = _; rw [builtinType_eq_fast]; kernel_rfl
theorem entry_encode : entryFor table "str.encode" = some Builtin.«str.encode» := entryFor_of_tree (by kernel_rfl)
theorem args_encode (a b : Value) : argsOk "str.encode" ⟨[a, b], []⟩ := by unfold argsOk; kernel_rfl
theorem meta_bytes : typeOf (.type "bytes") = pure (.type "type") := by kernel_rfl
theorem stub_bytes : Manifest.isStub "bytes" = false := by decide +kernel
/-- the table that maketrans makes -/
noncomputable def trans (frm to : Array UInt8) : Array UInt8 := (frm.toList.zip to.toList).foldl (fun t (f, x) => t.setIfInBounds f.toNat x) ((Array.range 256).map (·.toUInt8))
section
variable {b tb frm to : Array UInt8} {c : UInt8} {cs : List UInt8} {t u : Tok} {x : Str} {n : Nat}
theorem meets_maketrans (h : frm.size = to.size) : Meets («bytes.maketrans» ⟨[.bytes frm t, .bytes to u], []⟩) (fun _ R s => (trans frm to).size ≤ sizeLine ∧ ∀ t' k, R (.ok (.ret (.bytes (trans frm to) t'))) { s with toks := k }) := by
  refine .of_wp fun prog w A R s hS => ?_
  obtain ⟨hsz, hR⟩ := hS
  unfold Builtin.«bytes.maketrans» Bytes.maketransM
  refine wpAny_bind (wpAny_of_eq (a := ()) (by kernel_rfl) ?_)
  refine wpAny_bind (wpAny_of_eq (a := ()) (by kernel_rfl) ?_)
  refine wpAny_bind (wpAny_of_eq KBd.like_eq ?_)
  refine wpAny_bind (wpAny_of_eq KBd.like_eq ?_)
  rw [if_neg (by simp [h])]
  exact wpAny_bind (wpAny_mkBytes (wpAny_pure ⟨_, rfl, hR _ _⟩) hsz)
theorem meets_translate (h : tb.size = 256) : Meets («bytes.translate» ⟨[.bytes b t, .bytes tb u], []⟩) (fun _ R s => b.size ≤ sizeLine ∧ ∀ t' k, R (.ok (.ret (.bytes (b.map fun c => tb.getD c.toNat c) t'))) { s with toks := k }) := by
  refine .of_wp fun prog w A R s hS => ?_
  obtain ⟨hsz, hR⟩ := hS
  unfold Builtin.«bytes.translate» Bytes.translateM
  dsimp only [List.length_cons, List.length_nil]
  rw [if_neg (by decide)]
  rw [if_neg (by simp)]
  rw [if_neg (show ¬ ((Value.bytes tb u == Value.none) = true) from Bool.false_ne_true)]
  refine wpAny_bind (wpAny_of_eq KBd.like_eq ?_)
  rw [if_neg (by simp [h])]
  refine wpAny_bind (wpAny_pure ?_)
  refine wpAny_bind (wpAny_pure ?_)
  refine wpAny_bind (wpAny_of_eq (a := b) (by rfl) ?_)
  have e : Array.map (fun c => tb.getD c.toNat c) (b.filter (fun x => !(#[] : Array UInt8).contains x)) = b.map fun c => tb.getD c.toNat c := by
    have : (b.filter (fun x => !(#[] : Array UInt8).contains x)) = b := by
      apply Array.ext'
      simp
    rw [this]
  simp only [e]
  split
  · rename_i hq
    have hq' := beq_iff_eq.mp hq
    refine wpAny_bind (wpAny_rule ?_)
    refine wpAny_bind (wpAny_of_eq (a := Value.bytes b t) (by rfl) ?_)
    refine wpAny_pure ⟨_, rfl, ?_⟩
    have := hR t s.toks
    rw [hq'] at this
    exact this
  · exact wpAny_bind (wpAny_mkBytes (wpAny_pure ⟨_, rfl, hR _ _⟩) (by simpa using hsz))
theorem road_ascii {id : String} : _codecs.decodeRoad id b (Str.ofString "ascii") none [] = (_codecs.runDecoder id _codecs.asciiDecoder none true b 0 [] >>= fun r => mkStr ⟨r.1⟩) := by kernel_rfl
theorem meets_text_ascii {t1 t2 : Tok} {d : Str} (hb : ∀ i, (b.getD i 0).toNat < 128) :
    Meets («_codecs.decode.text» ⟨[.bytes b t, .str (Str.ofString "ascii") t1, .none, .str d t2], []⟩) (fun _ R s => b.size ≤ sizeLine ∧ R (.ok (.ret (.str ⟨b.map (·.toNat)⟩ s.toks))) { s with toks := s.toks + 1 }) := by
  refine .of_wp fun prog w A R s hS => ?_
  obtain ⟨hsz, h⟩ := hS
  show wpAny _ _ (Bytes.bytesLike _ (.bytes b t) >>= fun r => _) _ _ s
  refine wpAny_bind (wpAny_of_eq KBd.like_eq ?_)
  refine wpAny_bind (wpAny_of_eq KBd.held_eq ?_)
  show wpAny _ _ (_codecs.decodeRoad _ b (Str.ofString "ascii") none [] >>= fun v => _) _ _ s
  rw [road_ascii, dec_run _ b hb hsz]
  refine wpAny_bind (wpAny_bind (wpAny_pure ?_))
  exact wpAny_mkStr (wpAny_pure ⟨_, rfl, h⟩) (by show (b.map _).size ≤ _; simpa using hsz)
theorem decode_eq : «bytes.decode» ⟨[.bytes (c :: cs).toArray t, .str (Str.ofString "ascii") u], []⟩ = (mkStr (Str.ofString "utf-8") >>= fun _ => mkStr (Str.ofString "ascii") >>= fun e => mkStr (Str.ofString "bytes.decode") >>= fun d =>
    call (.builtin "_codecs.decode.text") [.bytes (c :: cs).toArray t, e, .none, d] >>= fun v => ret v) := by kernel_rfl
theorem meets_decode_ascii (hb : ∀ i, ((c :: cs).toArray.getD i 0).toNat < 128) :
    Meets («bytes.decode» ⟨[.bytes (c :: cs).toArray t, .str (Str.ofString "ascii") u], []⟩) (fun _ R s => (c :: cs).toArray.size ≤ sizeLine ∧ ∀ t' k, R (.ok (.ret (.str ⟨(c :: cs).toArray.map (·.toNat)⟩ t'))) { s with toks := k }) := by
  refine .of_wp fun prog w A R s hS => ?_
  obtain ⟨hsz, h⟩ := hS
  rw [decode_eq]
  refine wpAny_bind (wpAny_mkStr ?_ (by decide))
  refine wpAny_bind (wpAny_mkStr ?_ (by decide))
  refine wpAny_bind (wpAny_mkStr ?_ (by decide))
  exact wpAny_bind (call_function_meets KBd.kind_text KBd.plain_text KBd.entry_text (KBd.args_text _ _ _ _) (meets_text_ascii hb) ⟨hsz, wpAny_pure ⟨_, rfl, h _ _⟩⟩)
theorem encode_eq : «str.encode» ⟨[.str x t, .str (Str.ofString "ascii") u], []⟩ = ((_codecs.encodeNarrow "str.encode" _codecs.asciiCodec none (.str x t) x >>= fun r => mkBytes r) >>= fun v => ret v) := by kernel_rfl
theorem meets_encode (hb : ∀ c ∈ x.cps, c < 128) (hn : 0 < x.cps.size) :
    Meets («str.encode» ⟨[.str x t, .str (Str.ofString "ascii") u], []⟩) (fun _ R s => x.cps.size ≤ sizeLine ∧ ∀ t' k, R (.ok (.ret (.bytes (x.cps.map (·.toUInt8)) t'))) { s with toks := k }) := by
  refine .of_wp fun prog w A R s hS => ?_
  obtain ⟨hsz, h⟩ := hS
  rw [encode_eq, enc_run _ _ _ hb hn hsz]
  exact wpAny_bind (wpAny_bind (wpAny_pure (wpAny_mkBytes (wpAny_pure ⟨_, rfl, h _ _⟩) (by simpa using hsz))))
end
section
variable {prog : Program} {w : World} {A : Around} {E : Value → Shared → Prop} {s : Shared} {Q : Value → Shared → Prop} {b tb frm to : Array UInt8} {c : UInt8} {cs : List UInt8} {t u : Tok} {x : Str}
theorem call_maketrans (h : frm.size = to.size) (hsz : (trans frm to).size ≤ sizeLine) (hQ : ∀ tb t' k, tb = trans frm to → Q (.bytes tb t') { s with toks := k }) :
    wpAny (model prog w) A (call (.builtin "bytes.maketrans") [.bytes frm t, .bytes to u]) Q E s :=
  wpAny_call (codeAny_call_builtin plain_maketrans entry_maketrans (wpAny_of_eq (check_maketrans _ _) (meets_maketrans h prog w A (wants Q E) s ⟨hsz, fun t' k => hQ _ t' k rfl⟩)))
theorem call_translate (h : tb.size = 256) (hsz : b.size ≤ sizeLine) (hQ : ∀ t' k, Q (.bytes (b.map fun c => tb.getD c.toNat c) t') { s with toks := k }) :
    wpAny (model prog w) A (call (.builtin "bytes.translate") [.bytes b t, .bytes tb u]) Q E s :=
  call_meets slot_translate (typeIs_bytes _ _ _) entry_translate (args_translate _ _) (meets_translate h) ⟨hsz, hQ⟩
theorem call_decode (hb : ∀ i, ((c :: cs).toArray.getD i 0).toNat < 128) (hsz : (c :: cs).toArray.size ≤ sizeLine) (hQ : ∀ t' k, Q (.str ⟨(c :: cs).toArray.map (·.toNat)⟩ t') { s with toks := k }) :
    wpAny (model prog w) A (call (.builtin "bytes.decode") [.bytes (c :: cs).toArray t, .str (Str.ofString "ascii") u]) Q E s :=
  call_meets FB.slot_bytes_decode (typeIs_bytes _ _ _) FB.entry_bytes_decode (args_decode _ _) (meets_decode_ascii hb) ⟨hsz, hQ⟩
theorem call_encode (hb : ∀ c ∈ x.cps, c < 128) (hn : 0 < x.cps.size) (hsz : x.cps.size ≤ sizeLine) (hQ : ∀ t' k, Q (.bytes (x.cps.map (·.toUInt8)) t') { s with toks := k }) :
    wpAny (model prog w) A (call (.builtin "str.encode") [.str x t, .str (Str.ofString "ascii") u]) Q E s :=
  call_meets slot_encode (by rfl) entry_encode (args_encode _ _) (meets_encode hb hn) ⟨hsz, hQ⟩
theorem method_translate {M : Model} {pl : Sem Bool} {Q : Value × List Value → Shared → Prop} (h : Q (.builtin "bytes.translate", [.bytes b t]) s) : wpAny M A (getMethod (.bytes b t) (Str.ofString "translate") pl) Q E s := by
  with_reducible exact KBd.method_of (.bytes b t) (typeIs_bytes _ _ _) slot_translate type_translate KBd.noRef h
theorem str_method {M : Model} {pl : Sem Bool} {Q : Value × List Value → Shared → Prop} {name : PySem.Str} {id : String} (v : Value) (hT : s.TypeIs v "str") (slot : Slot "str" name id) (ty : typeOf (.builtin id) = pure (.type "method_descriptor"))
    (hd : ∀ a, v = .ref a → ∃ o, s.heap.get? a = some o ∧ o.dict = none) (h : Q (.builtin id, [v]) s) : wpAny M A (getMethod v name pl) Q E s :=
  getMethod_builtin hT PySem.F.plainAttrs_str slot ty hd h
theorem str_noRef : ∀ a, Value.str x t = .ref a → ∃ o, s.heap.get? a = some o ∧ o.dict = none := fun _ e => nomatch e
theorem method_encode {M : Model} {pl : Sem Bool} {Q : Value × List Value → Shared → Prop} (h : Q (.builtin "str.encode", [.str x t]) s) : wpAny M A (getMethod (.str x t) (Str.ofString "encode") pl) Q E s := by
  with_reducible exact str_method (.str x t) (typeIs_str _ _ _) slot_encode type_encode str_noRef h
theorem method_maketrans {K : Frag} {h₀ : Heap} {L : Addr} {m : Str → Option Value} {pl : Sem Bool} {Q : Value × List Value → Shared → Prop} (F : Fr h₀ L s.heap m) (X₀ : K.In h₀)
    (e : findCls K (.type "bytes") (.type "type") (Str.ofString "maketrans") = some (.val (.builtin "bytes.maketrans")))
    (h : Q ((.builtin "bytes.maketrans"), []) { s with toks := s.toks + 1 }) : wpAny (model prog w) A (getMethod (.type "bytes") (Str.ofString "maketrans") pl) Q E s :=
  @method_type prog w A E s K L h₀ m (Str.ofString "maketrans") (.builtin "bytes.maketrans") "bytes" pl Q F X₀ meta_bytes stub_bytes e (by decide +kernel) h
end
end
section
/-- the two signs that stand for + and / -/
noncomputable def altA (sw : Bool) : Array UInt8 := if sw then #[62, 60] else #[60, 62]
noncomputable def altL (sw : Bool) : List Int := if sw then [62, 60] else [60, 62]
theorem altA_ints (sw : Bool) : KBw.bInts (altA sw) = altL sw := by cases sw <;> rfl
theorem altL_len (sw : Bool) : (altL sw).length = 2 := by cases sw <;> rfl
theorem altA_size (sw : Bool) : (altA sw).size = 2 := by cases sw <;> rfl
theorem trans_size (frm to : Array UInt8) : (trans frm to).size = 256 := by
  have key : ∀ (l : List (UInt8 × UInt8)) (t : Array UInt8), (l.foldl (fun t (f, x) => t.setIfInBounds f.toNat x) t).size = t.size := by
    intro l
    induction l with
    | nil => intro t; rfl
    | cons p l ih => intro t; rw [List.foldl_cons, ih]; simp
  rw [trans, key]
  simp
/-- the sign of a figure where 62 and 63 are written otherwise -/
noncomputable def atab (sw : Bool) (v : Int) : Int := if v = 62 then (if sw then 62 else 60) else if v = 63 then (if sw then 60 else 62) else tab v
theorem trans_at (f g a b c : UInt8) : (trans #[f, g] #[a, b]).getD c.toNat c = if c = g then b else if c = f then a else c := by
  have hs := trans_size #[f, g] #[a, b]
  have e : trans #[f, g] #[a, b] = (((Array.range 256).map (·.toUInt8)).setIfInBounds f.toNat a).setIfInBounds g.toNat b := by
    show (List.foldl _ _ [(f, a), (g, b)]) = _
    rw [List.foldl_cons, List.foldl_cons, List.foldl_nil]
  have hc : c.toNat < 256 := c.toNat_lt
  have hg : g.toNat < 256 := g.toNat_lt
  have hf : f.toNat < 256 := f.toNat_lt
  rw [Array.getD_eq_getD_getElem?, e, Array.getElem?_setIfInBounds, Array.getElem?_setIfInBounds]
  simp only [Array.size_setIfInBounds, Array.size_map, Array.size_range]
  by_cases h1 : c = g
  · subst h1; simp [hc]
  · have n1 : ¬ g.toNat = c.toNat := fun q => h1 (UInt8.toNat_inj.mp q.symm)
    rw [if_neg n1, if_neg h1]
    by_cases h2 : c = f
    · subst h2; simp [hc]
    · have n2 : ¬ f.toNat = c.toNat := fun q => h2 (UInt8.toNat_inj.mp q.symm)
      rw [if_neg n2, if_neg h2]
      simp [hc]
theorem byte_eq {a b : Int} (ha : 0 ≤ a ∧ a < 256) (hb : 0 ≤ b ∧ b < 256) : a.toNat.toUInt8 = b.toNat.toUInt8 ↔ a = b := by
  constructor
  · intro h
    have := congrArg UInt8.toNat h
    have e1 : a.toNat.toUInt8.toNat = a.toNat % 256 := rfl
    have e2 : b.toNat.toUInt8.toNat = b.toNat % 256 := rfl
    omega
  · intro h; rw [h]
theorem tab_low (v : Int) (h0 : 0 ≤ v) (h1 : v < 62) : 48 ≤ tab v ∧ tab v ≠ 60 ∧ tab v ≠ 62 ∧ tab v < 128 := by
  obtain ⟨n, rfl⟩ := Int.eq_ofNat_of_zero_le h0
  have key : ∀ m : Fin 62, 48 ≤ tab (m.val : Int) ∧ tab (m.val : Int) ≠ 60 ∧ tab (m.val : Int) ≠ 62 ∧ tab (m.val : Int) < 128 := by decide +kernel
  exact key ⟨n, by omega⟩
theorem atab_cases (sw : Bool) (v : Int) (h0 : 0 ≤ v) (h1 : v < 64) : (v = 62 ∧ tab v = 43 ∧ atab sw v = if sw then 62 else 60) ∨ (v = 63 ∧ tab v = 47 ∧ atab sw v = if sw then 60 else 62) ∨ (v < 62 ∧ atab sw v = tab v ∧ 48 ≤ tab v ∧ tab v ≠ 60 ∧ tab v ≠ 62 ∧ tab v < 128) := by
  by_cases e1 : v = 62
  · exact .inl ⟨e1, by rw [e1]; rfl, by rw [atab, if_pos e1]⟩
  · by_cases e2 : v = 63
    · exact .inr (.inl ⟨e2, by rw [e2]; rfl, by rw [atab, if_neg e1, if_pos e2]⟩)
    · have h2 : v < 62 := by omega
      exact .inr (.inr ⟨h2, by rw [atab, if_neg e1, if_neg e2], tab_low v h0 h2⟩)
theorem atab_all (sw : Bool) (v : Int) (h0 : 0 ≤ v) (h1 : v < 64) : ((trans #[43, 47] (altA sw)).getD (tab v).toNat.toUInt8.toNat (tab v).toNat.toUInt8 = (atab sw v).toNat.toUInt8) ∧
    ((trans (altA sw) #[43, 47]).getD (atab sw v).toNat.toUInt8.toNat (atab sw v).toNat.toUInt8 = (tab v).toNat.toUInt8) ∧ 0 ≤ atab sw v ∧ atab sw v < 128 := by
  have e43 : (43 : UInt8) = (43 : Int).toNat.toUInt8 := rfl
  have e47 : (47 : UInt8) = (47 : Int).toNat.toUInt8 := rfl
  have e60 : (60 : UInt8) = (60 : Int).toNat.toUInt8 := rfl
  have e62 : (62 : UInt8) = (62 : Int).toNat.toUInt8 := rfl
  rcases atab_cases sw v h0 h1 with ⟨_, b, c⟩ | ⟨_, b, c⟩ | ⟨_, c, d, f, g, i⟩
  · rw [b, c]; cases sw
    · simp only [altA, Bool.false_eq_true, if_false, trans_at]; decide
    · simp only [altA, if_true, trans_at]; decide
  · rw [b, c]; cases sw
    · simp only [altA, Bool.false_eq_true, if_false, trans_at]; decide
    · simp only [altA, if_true, trans_at]; decide
  · rw [c]
    have hin := tab_in v
    have n1 : ¬ (tab v).toNat.toUInt8 = 43 := by rw [e43, byte_eq hin (by decide)]; omega
    have n2 : ¬ (tab v).toNat.toUInt8 = 47 := by rw [e47, byte_eq hin (by decide)]; omega
    have n3 : ¬ (tab v).toNat.toUInt8 = 60 := by rw [e60, byte_eq hin (by decide)]; omega
    have n4 : ¬ (tab v).toNat.toUInt8 = 62 := by rw [e62, byte_eq hin (by decide)]; omega
    have m1 : tab v ≠ 43 := by omega
    have m2 : tab v ≠ 47 ∨ tab v = 47 := by omega
    cases sw
    · simp only [altA, Bool.false_eq_true, if_false, trans_at, n1, n2, n3, n4]; exact ⟨trivial, trivial, by omega, by omega⟩
    · simp only [altA, if_true, trans_at, n1, n2, n3, n4, if_false]; exact ⟨trivial, trivial, by omega, by omega⟩
theorem trans_to (sw : Bool) {fs : List Int} (h : Figs fs) : (byteArr (fs.map tab)).map (fun c => (trans #[43, 47] (altA sw)).getD c.toNat c) = byteArr (fs.map (atab sw)) := by
  unfold byteArr
  rw [List.map_toArray, List.map_map, List.map_map, List.map_map]
  congr 1
  exact List.map_congr_left fun v hv => (atab_all sw v (h v hv).1 (h v hv).2).1
theorem trans_from (sw : Bool) {fs : List Int} (h : Figs fs) : (byteArr (fs.map (atab sw))).map (fun c => (trans (altA sw) #[43, 47]).getD c.toNat c) = byteArr (fs.map tab) := by
  unfold byteArr
  rw [List.map_toArray, List.map_map, List.map_map, List.map_map]
  congr 1
  exact List.map_congr_left fun v hv => (atab_all sw v (h v hv).1 (h v hv).2).2.1
/-- the text of a row of figures -/
noncomputable def txt (sw : Bool) (fs : List Int) : Str := ⟨(fs.map fun v => (atab sw v).toNat).toArray⟩
theorem txt_bytes (sw : Bool) (fs : List Int) : (txt sw fs).cps.map (·.toUInt8) = byteArr (fs.map (atab sw)) := by
  unfold txt byteArr
  simp
theorem txt_low (sw : Bool) {fs : List Int} (h : Figs fs) : ∀ c ∈ (txt sw fs).cps, c < 128 := by
  intro c hc
  unfold txt at hc
  simp only [List.mem_toArray, List.mem_map] at hc
  obtain ⟨v, hv, rfl⟩ := hc
  have := (atab_all sw v (h v hv).1 (h v hv).2).2.2
  omega
theorem txt_size (sw : Bool) (fs : List Int) : (txt sw fs).cps.size = fs.length := by simp [txt]
theorem bytes_txt (sw : Bool) {fs : List Int} (h : Figs fs) : (byteArr (fs.map (atab sw))).map (·.toNat) = (txt sw fs).cps := by
  unfold txt byteArr
  rw [List.map_toArray, List.map_map, List.map_map]
  congr 1
  refine List.map_congr_left fun v hv => ?_
  have := (atab_all sw v (h v hv).1 (h v hv).2).2.2
  show ((atab sw v).toNat.toUInt8).toNat = (atab sw v).toNat
  show (atab sw v).toNat % 256 = _
  omega
theorem bytes_low (sw : Bool) {fs : List Int} (h : Figs fs) : ∀ i, ((byteArr (fs.map (atab sw))).getD i 0).toNat < 128 := by
  intro i
  have e : ∀ c ∈ (byteArr (fs.map (atab sw))).toList, c.toNat < 128 := by
    intro c hc
    unfold byteArr at hc
    simp only [List.map_map, List.mem_map] at hc
    obtain ⟨v, hv, rfl⟩ := hc
    have := (atab_all sw v (h v hv).1 (h v hv).2).2.2
    show (atab sw v).toNat % 256 < 128
    omega
  rw [Array.getD_eq_getD_getElem?]
  cases q : (byteArr (fs.map (atab sw)))[i]? with
  | none => decide
  | some c => exact e c (by rw [← Array.getElem?_toList] at q; exact List.mem_of_getElem? q)
end
section
noncomputable def joinL (z : List Nat) : List (List Nat) → List Nat
  | [] => []
  | [p] => p
  | p :: q :: r => p ++ z ++ joinL z (q :: r)
noncomputable def splitL (c : Nat) : List Nat → List (List Nat)
  | [] => [[]]
  | d :: l => if d = c then [] :: splitL c l else match splitL c l with
    | [] => [[d]]
    | p :: r => (d :: p) :: r
theorem splitL_ne (c : Nat) : ∀ l, splitL c l ≠ []
  | [] => by simp [splitL]
  | d :: l => by
    unfold splitL
    split
    · simp
    · split <;> simp
theorem splitL_free (c : Nat) : ∀ p : List Nat, c ∉ p → splitL c p = [p]
  | [], _ => rfl
  | d :: l, h => by
    have h1 : ¬ d = c := fun q => h (q ▸ .head _)
    have h2 := splitL_free c l fun q => h (.tail _ q)
    unfold splitL
    rw [if_neg h1, h2]
theorem splitL_cut (c : Nat) (l : List Nat) : ∀ p : List Nat, c ∉ p → splitL c (p ++ c :: l) = p :: splitL c l
  | [], _ => by simp [splitL]
  | d :: p, h => by
    have h1 : ¬ d = c := fun q => h (q ▸ .head _)
    have h2 := splitL_cut c l p fun q => h (.tail _ q)
    rw [List.cons_append, splitL, if_neg h1, h2]
theorem split_unique (c : Nat) : ∀ (ps : List (List Nat)), ps ≠ [] → (∀ p ∈ ps, c ∉ p) → splitL c (joinL [c] ps) = ps
  | [], h, _ => absurd rfl h
  | [p], _, h => splitL_free c p (h p (.head _))
  | p :: q :: r, _, h => by
    have ih := split_unique c (q :: r) (by simp) fun x hx => h x (.tail _ hx)
    have e : joinL [c] (p :: q :: r) = p ++ c :: joinL [c] (q :: r) := by simp [joinL]
    rw [e, splitL_cut c _ p (h p (.head _)), ih]
theorem join_cps (z : Str) : ∀ ps : List Str, (Str.join z ps).cps.toList = joinL z.cps.toList (ps.map (·.cps.toList))
  | [] => rfl
  | [p] => rfl
  | p :: q :: r => by
    have ih := join_cps z (q :: r)
    show (p ++ z ++ Str.join z (q :: r)).cps.toList = _
    rw [Str.cps_append, Str.cps_append]
    simp only [Array.toList_append, ih, List.map_cons, joinL, List.append_assoc]
theorem str_ext {x y : Str} (h : x.cps.toList = y.cps.toList) : x = y := by
  obtain ⟨a⟩ := x
  obtain ⟨b⟩ := y
  exact congrArg Str.mk (Array.toList_inj.mp h)
theorem split_eq (x : Str) (c : Nat) : (Txt.split x ⟨#[c]⟩).map (·.cps.toList) = splitL c x.cps.toList := by
  have h1 := StrLaws.join_split x ⟨#[c]⟩
  have h2 := StrLaws.split_free x c
  have h3 : Txt.split x ⟨#[c]⟩ ≠ [] := by
    intro q
    rw [q] at h1
    have hx : x = ⟨#[]⟩ := h1.symm
    subst hx
    simp [Txt.split, Str.length] at q
  have h4 := congrArg (fun s : Str => s.cps.toList) h1
  rw [join_cps] at h4
  have h5 := split_unique c ((Txt.split x ⟨#[c]⟩).map (·.cps.toList)) (by simpa using h3) (by
    intro p hp
    obtain ⟨q, hq, rfl⟩ := List.mem_map.mp hp
    exact h2 q hq)
  rw [← h4]
  exact h5.symm
/-- every c made a z -/
noncomputable def repL (c : Nat) (z : List Nat) (l : List Nat) : List Nat := l.flatMap fun d => if d = c then z else [d]
theorem joinL_cons (z : List Nat) (d : Nat) (p : List Nat) (r : List (List Nat)) : joinL z ((d :: p) :: r) = d :: joinL z (p :: r) := by
  cases r <;> simp [joinL]
theorem join_splitL (c : Nat) (z : List Nat) : ∀ l, joinL z (splitL c l) = repL c z l
  | [] => rfl
  | d :: l => by
    have ih := join_splitL c z l
    unfold splitL
    by_cases h : d = c
    · rw [if_pos h]
      have e : repL c z (d :: l) = z ++ repL c z l := by simp [repL, h]
      rw [e, ← ih]
      cases q : splitL c l with
      | nil => exact absurd q (splitL_ne c l)
      | cons p r => simp [joinL]
    · rw [if_neg h]
      have e : repL c z (d :: l) = d :: repL c z l := by simp [repL, h]
      rw [e, ← ih]
      cases q : splitL c l with
      | nil => exact absurd q (splitL_ne c l)
      | cons p r => exact joinL_cons z d p r
noncomputable def repS (c : Nat) (z : List Nat) (x : Str) : Str := ⟨(repL c z x.cps.toList).toArray⟩
theorem replace_eq (x z : Str) (c : Nat) : Txt.replace x ⟨#[c]⟩ z = repS c z.cps.toList x := by
  rw [StrLaws.replace_one]
  apply str_ext
  rw [join_cps, split_eq, join_splitL]
  simp [repS]
theorem repL_none {c : Nat} {z l : List Nat} (h : c ∉ l) : repL c z l = l := by
  induction l with
  | nil => rfl
  | cons d l ih =>
    have h1 : ¬ d = c := fun q => h (q ▸ .head _)
    have e : repL c z (d :: l) = d :: repL c z l := by simp [repL, h1]
    rw [e, ih fun q => h (.tail _ q)]
theorem repS_none {c : Nat} {z : List Nat} {x : Str} (h : c ∉ x.cps.toList) : repS c z x = x := by
  apply str_ext
  simp [repS, repL_none h]
theorem notin_rep {d c : Nat} {z : List Nat} {x : Str} (hz : d ∉ z) (hx : d ∉ x.cps.toList) : d ∉ (repS c z x).cps.toList := by
  simp only [repS, repL, List.mem_flatMap, not_exists, not_and]
  intro e he
  split
  · exact hz
  · intro q
    rw [List.mem_singleton.mp q] at hx
    exact hx he
theorem rep_len (c : Nat) (z : List Nat) (x : Str) : (repS c z x).length ≤ x.length * (z.length + 1) := by
  show (repL c z x.cps.toList).toArray.size ≤ x.cps.size * _
  rw [List.size_toArray, ← Array.length_toList]
  generalize x.cps.toList = l
  induction l with
  | nil => simp [repL]
  | cons d l ih =>
    have e : repL c z (d :: l) = (if d = c then z else [d]) ++ repL c z l := by simp [repL]
    rw [e, List.length_append, List.length_cons, Nat.succ_mul]
    split
    · omega
    · simp only [List.length_cons, List.length_nil]; omega
section
variable {prog : Program} {w : World} {A : Around} {E : Value → Shared → Prop} {s : Shared} {x z : Str} {t u v : Tok} {Q : Value → Shared → Prop} {c : Nat}
theorem in_yes {y : Str} (hy : y = ⟨#[c]⟩) (h : Q (.bool (decide (c ∈ x.cps.toList))) s) : wpAny (model prog w) A (compareOp .In (.str y u) (.str x t)) Q E s :=
  PyProof.Rows.in_str (by rw [hy, StrLaws.found_one]; exact h)
theorem in_no {y : Str} (hy : y = ⟨#[c]⟩) (hc : c ∉ x.cps.toList) (h : Q (.bool false) s) : wpAny (model prog w) A (compareOp .In (.str y u) (.str x t)) Q E s :=
  in_yes hy (by rw [decide_eq_false hc]; exact h)
theorem call_rep {y : Str} (hy : y = ⟨#[c]⟩) (hu : u ≠ 0) (hv : v ≠ 0) (huv : u ≠ v) (hyz : (y == z) = false) (hb : x.length + (x.length + 1) * z.length ≤ 16777216) (hk : 0 < s.toks)
    (hq : ∀ t' k, 0 < k → Q (.str (repS c z.cps.toList x) t') { s with toks := k }) : wpAny (model prog w) A (call (.builtin "str.replace") [.str x t, .str y u, .str z v]) Q E s := by
  subst hy
  have e : (2 : Nat) ^ 24 = 16777216 := by decide
  have hl : Builtin.Str.tooLong (x.length + (Builtin.Str.occurrences x ⟨#[c]⟩ 0 x.length (x.length + 1)).length * z.length) = false := by
    have h1 := StrLaws.occ_length_le x ⟨#[c]⟩ 0 x.length (x.length + 1)
    have h2 : (Builtin.Str.occurrences x ⟨#[c]⟩ 0 x.length (x.length + 1)).length * z.length ≤ (x.length + 1) * z.length := Nat.mul_le_mul_right _ h1
    unfold Builtin.Str.tooLong sizeLine
    exact decide_eq_false (by omega)
  refine call_gives F.slot_str_replace (typeIs_str _ _ _) F.entry_str_replace (F.args_str_replace_3 _ _ _)
    (gives_str_replace x ⟨#[c]⟩ z t u v fun _ => ⟨by simp [hu, hv], by simp [huv], hyz, hl⟩) ?_
  have hq' := hq
  rw [← replace_eq] at hq'
  unfold Txt.replace at hq'
  cases hc : ((Builtin.Str.occurrences x ⟨#[c]⟩ 0 x.length (x.length + 1)).isEmpty || ((⟨#[c]⟩ : Str).length == 0 && z.length == 0))
  · rw [hc] at hq'
    simp only [Bool.false_eq_true, if_false] at hq' ⊢
    exact ⟨fits_replaced _ hb, hq' _ _ (Nat.succ_pos _)⟩
  · rw [hc] at hq'
    simp only [if_true] at hq' ⊢
    exact hq' t s.toks hk
end
theorem lit_amp : Str.ofString "&" = ⟨#[38]⟩ := by decide
theorem lit_lt : Str.ofString "<" = ⟨#[60]⟩ := by decide
theorem lit_gt : Str.ofString ">" = ⟨#[62]⟩ := by decide
theorem lit_quot : Str.ofString "\"" = ⟨#[34]⟩ := by decide
theorem lit_cr : Str.ofString "\r" = ⟨#[13]⟩ := by decide
theorem lit_nl : Str.ofString "\n" = ⟨#[10]⟩ := by decide
theorem lit_tab : Str.ofString "\t" = ⟨#[9]⟩ := by decide
theorem ne_lt : (Str.ofString "<" == Str.ofString "&lt;") = false := by decide
theorem ne_gt : (Str.ofString ">" == Str.ofString "&gt;") = false := by decide
theorem toks_pos {α : Type} {M : Model} {A : Around} {tr : Sem α} {Q : α → Shared → Prop} {E : Value → Shared → Prop} {s : Shared} (hk : 0 < s.toks)
    (h : ∀ tk, 0 < tk → wpAny M A tr Q E { s with toks := tk }) : wpAny M A tr Q E s := h s.toks hk
end
section
theorem pick_fig (k' : Int) : 0 ≤ (if k'.fmod 5 = 0 then (62 : Int) else if k'.fmod 5 = 1 then 63 else if k'.fmod 5 = 2 then 62 else if k'.fmod 5 = 3 then 63 else if k'.fmod 5 = 4 then (k'.fdiv 5).fmod 64 else k') ∧
    (if k'.fmod 5 = 0 then (62 : Int) else if k'.fmod 5 = 1 then 63 else if k'.fmod 5 = 2 then 62 else if k'.fmod 5 = 3 then 63 else if k'.fmod 5 = 4 then (k'.fdiv 5).fmod 64 else k') < 64 := by
  rw [Int.fmod_eq_emod_of_nonneg _ (by decide), Int.fmod_eq_emod_of_nonneg _ (by decide)]
  have h := Int.emod_nonneg k' (show (5 : Int) ≠ 0 by decide)
  have h' := Int.emod_lt_of_pos k' (show (0 : Int) < 5 by decide)
  have g := Int.emod_nonneg (k'.fdiv 5) (show (64 : Int) ≠ 0 by decide)
  have g' := Int.emod_lt_of_pos (k'.fdiv 5) (show (0 : Int) < 64 by decide)
  repeat' split
  all_goals omega
theorem flat_len (n : Nat) : ((List.replicate n [(0 : Int)]).flatten).length = n := by simp
theorem pad_num (a : Nat) : ((-((a : Int) + 1)).fmod 4).toNat < 4 ∧ (a + 1 + ((-((a : Int) + 1)).fmod 4).toNat) % 4 = 0 := by
  rw [Int.fmod_eq_emod_of_nonneg _ (by decide)]
  omega
theorem row_ok {us : List Value} {ns : List Int} (h : IntsAre us ((List.map (fun (k' : Int) => if k'.fmod 5 = 0 then (62 : Int) else if k'.fmod 5 = 1 then 63 else if k'.fmod 5 = 2 then 62 else if k'.fmod 5 = 3 then 63 else if k'.fmod 5 = 4 then (k'.fdiv 5).fmod 64 else k') (ns.take 11) ++ [62]) ++
      (List.replicate ((-(((List.map (fun (k' : Int) => if k'.fmod 5 = 0 then (62 : Int) else if k'.fmod 5 = 1 then 63 else if k'.fmod 5 = 2 then 62 else if k'.fmod 5 = 3 then 63 else if k'.fmod 5 = 4 then (k'.fdiv 5).fmod 64 else k') (ns.take 11)).length + 1 : Nat) : Int)).fmod 4).toNat [(0 : Int)]).flatten)) :
    ∃ row, IntsAre us row ∧ Figs row ∧ (row.length = 4 ∨ row.length = 8 ∨ row.length = 12) ∧ 62 ∈ row := by
  refine ⟨_, h, ?_, ?_, ?_⟩
  · intro v hv
    rcases List.mem_append.mp hv with hv | hv
    · rcases List.mem_append.mp hv with hv | hv
      · obtain ⟨k, _, rfl⟩ := List.mem_map.mp hv
        exact pick_fig k
      · rw [List.mem_singleton.mp hv]; decide
    · obtain ⟨l, hl, hv⟩ := List.mem_flatten.mp hv
      rw [List.eq_of_mem_replicate hl, List.mem_singleton] at hv
      rw [hv]; decide
  · rw [List.length_append, List.length_append, flat_len, List.length_map, List.length_take, List.length_singleton]
    have h1 := pad_num (min 11 ns.length)
    have e : (((min 11 ns.length + 1 : Nat) : Int)) = (((min 11 ns.length : Nat) : Int) + 1) := by omega
    rw [e]
    omega
  · exact List.mem_append.mpr (.inl (List.mem_append.mpr (.inr (.head _))))
theorem row_sz (ns : List Int) : (List.map (fun (k' : Int) => if k'.fmod 5 = 0 then (62 : Int) else if k'.fmod 5 = 1 then 63 else if k'.fmod 5 = 2 then 62 else if k'.fmod 5 = 3 then 63 else if k'.fmod 5 = 4 then (k'.fdiv 5).fmod 64 else k') (ns.take 11) ++ [62]).length +
      ((List.replicate ((-(((List.map (fun (k' : Int) => if k'.fmod 5 = 0 then (62 : Int) else if k'.fmod 5 = 1 then 63 else if k'.fmod 5 = 2 then 62 else if k'.fmod 5 = 3 then 63 else if k'.fmod 5 = 4 then (k'.fdiv 5).fmod 64 else k') (ns.take 11)).length + 1 : Nat) : Int)).fmod 4).toNat [(0 : Int)]).flatten).length ≤ sizeLine := by
  rw [List.length_append, flat_len, List.length_map, List.length_take, List.length_singleton, sizeLine_eq]
  have h1 := pad_num (min 11 ns.length)
  have e : (((min 11 ns.length + 1 : Nat) : Int)) = (((min 11 ns.length : Nat) : Int) + 1) := by omega
  rw [e]
  omega
end
section
noncomputable def oct4 (a b c d : Int) : List Int :=
  [(((a * 64 + b) * 64 + c) * 64 + d) / 65536, (((a * 64 + b) * 64 + c) * 64 + d) / 256 % 256, (((a * 64 + b) * 64 + c) * 64 + d) % 256]
theorem fdiv_n (x : Int) {n : Int} (h : 0 ≤ n) : Int.fdiv x n = x / n := Int.fdiv_eq_ediv_of_nonneg _ h
theorem fmod_n (x : Int) {n : Int} (h : 0 ≤ n) : Int.fmod x n = x % n := Int.fmod_eq_emod_of_nonneg _ h
theorem in_oct4 {a b c d : Int} (ha : 0 ≤ a ∧ a < 64) (hb : 0 ≤ b ∧ b < 64) (hc : 0 ≤ c ∧ c < 64) (hd : 0 ≤ d ∧ d < 64) : ∀ n ∈ oct4 a b c d, 0 ≤ n ∧ n < 256 := by
  intro n hn
  simp only [oct4, List.mem_cons, List.not_mem_nil, or_false] at hn
  rcases hn with rfl | rfl | rfl <;> omega
theorem in_app {l r : List Int} (h1 : ∀ n ∈ l, 0 ≤ n ∧ n < 256) (h2 : ∀ n ∈ r, 0 ≤ n ∧ n < 256) : ∀ n ∈ l ++ r, 0 ≤ n ∧ n < 256 := fun n hn => (List.mem_append.mp hn).elim (h1 n) (h2 n)
noncomputable def octs : List Int → List Int
  | a :: b :: c :: d :: r => oct4 a b c d ++ octs r
  | _ => []
theorem octs_in : ∀ (fs : List Int), Figs fs → KBa.In (octs fs)
  | [], _ => fun _ h => nomatch h
  | [_], _ => fun _ h => nomatch h
  | [_, _], _ => fun _ h => nomatch h
  | [_, _, _], _ => fun _ h => nomatch h
  | a :: b :: c :: d :: r, hf => in_app (in_oct4 (hf a (by simp)) (hf b (by simp)) (hf c (by simp)) (hf d (by simp))) (octs_in r fun x hx => hf x (by simp [hx]))
theorem octs_take : ∀ (i : Nat) (fs : List Int), 4 * i + 4 ≤ fs.length → octs (fs.take (4 * i + 4)) = octs (fs.take (4 * i)) ++ oct4 (fs.getD (4 * i) 0) (fs.getD (4 * i + 1) 0) (fs.getD (4 * i + 2) 0) (fs.getD (4 * i + 3) 0)
  | 0, a :: b :: c :: d :: r, _ => by simp [octs]
  | i + 1, a :: b :: c :: d :: r, h => by
    have ih := octs_take i r (by simp only [List.length_cons] at h; omega)
    have e1 : 4 * (i + 1) + 4 = (4 * i + 4) + 1 + 1 + 1 + 1 := by omega
    have e2 : 4 * (i + 1) = (4 * i) + 1 + 1 + 1 + 1 := by omega
    rw [e1, e2]
    simp only [List.take_succ_cons, octs, ih, List.append_assoc]
    rfl
  | _, [], h => by simp at h
  | _, [_], h => by simp at h
  | _, [_, _], h => by simp at h
  | _, [_, _, _], h => by simp at h
noncomputable def stepKs (a c : Int) (n : Nat) : List Int := (List.range n).map fun (i : Nat) => a + (i : Int) * c
theorem stepKs_len (a c : Int) (n : Nat) : (stepKs a c n).length = n := by simp [stepKs]
section
variable {prog : Program} {w : World} {A : Around} {E : Value → Shared → Prop} {s : Shared} {env : Env} {h₀ : Heap} {x : Str} {body : List Stmt} {Q : Flow → Shared → Prop}
/-- a loop over a range of any step by what holds of it -/
theorem step_loop {σ : Type} {r : Addr} {a₀ b₀ d : Int} {t₀ u₀ v₀ : Tok} {n : Nat} {m₀ : Str → Option Value} (Led : σ → List (Addr × Obj)) (ps : σ → List (Str × Value)) (Facts : σ → Prop) (stored : List Str) (P : List Int → σ → Prop) (c₀ : σ)
    (hh : A.handled = none) (hr : IsRange s.heap r a₀ b₀ d t₀ u₀ v₀) (hsmall : Builtin.Range.small a₀ b₀ d = true) (hn : Builtin.Range.rangeSize a₀ b₀ d = (n : Int)) (F : Fr h₀ env.locals s.heap m₀) (N : News h₀ env.locals s.heap (Led c₀)) (hf : Facts c₀) (hk : ∀ p ∈ ps c₀, m₀ p.1 = some p.2) (hp : P [] c₀)
    (turn : ∀ (c : σ) (pre : List Int) (k : Int) t (u : Str → Option Value) h tk own, k = a₀ + (pre.length : Int) * d → pre.length < n → OwnOff own ((Led c₀).map (·.1)) → Facts c → P pre c →
      Fr h₀ env.locals h (fun y => if y = x then some (.int k t) else kstB (fun z => if stored.contains z then u z else m₀ z) (ps c) y) → News h₀ env.locals h (Led c ++ own) →
      wpAny (model prog w) A (execs body env) (InvPostN h₀ env.locals (KstS Led ps Facts x stored m₀ P (pre ++ [k])) own ((Led c₀).map (·.1)) { s with heap := h, toks := tk } Q) E { s with heap := h, toks := tk })
    (done : ∀ (c : σ) (u : Str → Option Value) h tk, Facts c → P (stepKs a₀ d n) c → Fr h₀ env.locals h (fun y => if y = x then u y else kstB (fun z => if stored.contains z then u z else m₀ z) (ps c) y) → News h₀ env.locals h (Led c) → Q .next { s with heap := h, toks := tk }) :
    wpAny (model prog w) A (pyIter (.ref r)) (fun it s₂ => LoopAtV prog w A h₀ env x body Q E it s₂) E s := by
  refine wpAny_pyIter_range hr hsmall ?_
  have W := (Walks.range (prog := prog) (w := w) hh s.heap.objs.size a₀ d n).bound
  have hstart : IsRangeIter (s.heap.push { cls := .type "range_iterator", data := .fields #[rawInt a₀, rawInt (n : Int), rawInt d] }) s.heap.objs.size (a₀ + ((0 : Nat) : Int) * d) ((n : Int) - ((0 : Nat) : Int)) d := by
    have e1 : a₀ + ((0 : Nat) : Int) * d = a₀ := by simp
    have e2 : (n : Int) - ((0 : Nat) : Int) = n := by simp
    rw [e1, e2]
    exact Heap.get?_push_size _ rfl
  have hnew : ∀ p ∈ Led c₀, p.1 ≠ s.heap.objs.size := fun p hp q => absurd (Heap.lt_size (N p hp).1) (q ▸ Nat.lt_irrefl _)
  have hat : ∀ (i : Nat), i < n → (stepKs a₀ d n).take (i + 1) = (stepKs a₀ d n).take i ++ [a₀ + (i : Int) * d] := fun i hi => by
    have : (stepKs a₀ d n)[i]? = some (a₀ + (i : Int) * d) := by simp [stepKs, hi]
    rw [List.take_add_one, this]; rfl
  refine loop_invN (fun i m nx => KstS Led ps Facts x stored m₀ P ((stepKs a₀ d n).take i) m nx) W ?_ ?_ ?_ ?_ (by rw [hn]; exact hstart) (F.push _) (fun p hp => ⟨Heap.get?_push_of_some _ (N p hp).1, (N p hp).2⟩) ⟨c₀, rfl, hf, hk, fun _ _ _ _ => rfl, by simpa using hp⟩ ?_ ?_
  · intro hm
    exact absurd F.ns.lt ((List.mem_singleton.mp hm) ▸ Nat.lt_irrefl _)
  · intro b hb
    rw [List.mem_singleton.mp hb]
    exact next_is_new F
  · exact fun p hp hI => hnew p hp (List.mem_singleton.mp hI)
  · exact fun p hp hI => hnew p hp (List.mem_singleton.mp hI)
  · rintro i v m₁ nx h tk own hi ⟨_, t, rfl⟩ _ hoff ⟨c, rfl, hf', h1, h2, hp'⟩ F₁ N₁
    have hlen : ((stepKs a₀ d n).take i).length = i := by rw [List.length_take, stepKs_len]; omega
    rw [hat i hi]
    exact turn c _ _ t m₁ h tk own (by rw [hlen]) (by rw [hlen]; exact hi) hoff hf' hp' (kst_fr h1 h2 F₁) N₁
  · rintro m₁ nx h tk ⟨c, rfl, hf', h1, h2, hp'⟩ F₁ N₁
    rw [List.take_of_length_le (Nat.le_of_eq (stepKs_len a₀ d n))] at hp'
    exact done c m₁ h tk hf' hp' (kst_frOut h1 h2 F₁) N₁
end
theorem ints_oct {vs : List Value} {out : List Int} (h : IntsAre vs out) (a b c d : Int) (t1 t2 t3 : Tok) :
    IntsAre (vs ++ [Value.int (Int.fdiv (((a * 64 + b) * 64 + c) * 64 + d) 65536) t1, .int (Int.fmod (Int.fdiv (((a * 64 + b) * 64 + c) * 64 + d) 256) 256) t2, .int (Int.fmod (((a * 64 + b) * 64 + c) * 64 + d) 256) t3]) (out ++ oct4 a b c d) := by
  refine IntsAre.append h ?_
  unfold oct4
  rw [fdiv_n _ (by decide : (0 : Int) ≤ 65536), fdiv_n _ (by decide : (0 : Int) ≤ 256), fmod_n _ (by decide : (0 : Int) ≤ 256), fmod_n _ (by decide : (0 : Int) ≤ 256)]
  exact .cons _ _ (.cons _ _ (.cons _ _ .nil))
structure OctP (fs : List Int) (pre out : List Int) : Prop where
  eq : out = octs (fs.take (4 * pre.length))
  len : out.length = 3 * pre.length
theorem octP_nil (fs : List Int) : OctP fs [] [] := ⟨rfl, rfl⟩
theorem octP_turn {fs pre out : List Int} {k : Int} {n : Nat} (h : OctP fs pre out) (hk : k = 0 + (pre.length : Int) * 4) (hn : pre.length < n) (hl : fs.length = 4 * n) :
    OctP fs (pre ++ [k]) (out ++ oct4 (fs.getD k.toNat 0) (fs.getD (k + 1).toNat 0) (fs.getD (k + 2).toNat 0) (fs.getD (k + 3).toNat 0)) := by
  have e0 : k.toNat = 4 * pre.length := by omega
  have e1 : (k + 1).toNat = 4 * pre.length + 1 := by omega
  have e2 : (k + 2).toNat = 4 * pre.length + 2 := by omega
  have e3 : (k + 3).toNat = 4 * pre.length + 3 := by omega
  have e4 : 4 * (pre ++ [k]).length = 4 * pre.length + 4 := by rw [List.length_append, List.length_singleton]; omega
  refine ⟨by rw [e0, e1, e2, e3, e4, octs_take _ _ (by omega), h.eq], ?_⟩
  have := h.len
  simp only [List.length_append, oct4, List.length_cons, List.length_nil]
  omega
theorem oct_room {vs : List Value} {a b c : Value} (h : vs.length ≤ 100) : ¬(!vs.toArray.isEmpty && Builtin.List.listTooLong (vs.toArray.size + [a, b, c].toArray.size)) = true := by
  have e : Builtin.List.listTooLong (vs.toArray.size + [a, b, c].toArray.size) = false := by
    unfold Builtin.List.listTooLong
    rw [sizeLine_eq]
    simp only [List.size_toArray, List.length_cons, List.length_nil]
    exact decide_eq_false (by omega)
  rw [e, Bool.and_false]
  exact Bool.false_ne_true
theorem oct_len {vs : List Value} (h : vs.length ≤ 100) : vs.toArray.toList.length ≤ sizeLine := by rw [sizeLine_eq]; show vs.length ≤ _; omega
theorem oct_len2 {vs : List Value} {a b c : Value} (h : vs.length ≤ 100) : vs.toArray.size + [a, b, c].toArray.size ≤ sizeLine + 1 := by
  rw [sizeLine_eq]; simp only [List.size_toArray, List.length_cons, List.length_nil]; omega
theorem octP_end {fs pre out : List Int} {n : Nat} (h : OctP fs pre out) (hn : pre.length = n) (hl : fs.length = 4 * n) : out = octs fs := by
  rw [h.eq, hn, ← hl, List.take_length]
theorem figs_at {fs : List Int} (h : Figs fs) {i : Nat} (hi : i < fs.length) : 0 ≤ fs.getD i 0 ∧ fs.getD i 0 < 64 := by
  rw [List.getD_eq_getElem?_getD, List.getElem?_eq_getElem hi]
  exact h _ (List.getElem_mem hi)
theorem four_n {fs : List Int} (hl : fs.length = 4 ∨ fs.length = 8 ∨ fs.length = 12) : ∃ n, fs.length = 4 * n ∧ n ≤ 3 ∧ Builtin.Range.small 0 (fs.length : Int) 4 = true ∧ Builtin.Range.rangeSize 0 (fs.length : Int) 4 = (n : Int) := by
  rcases hl with h | h | h
  · exact ⟨1, h, by decide, by rw [h]; decide, by rw [h]; decide⟩
  · exact ⟨2, h, by decide, by rw [h]; decide, by rw [h]; decide⟩
  · exact ⟨3, h, by decide, by rw [h]; decide, by rw [h]; decide⟩
theorem oct_extend {prog : Program} {w : World} {A : Around} {E : Value → Shared → Prop} {s : Shared} {h₀ : Heap} {L D e : Addr} {m : Str → Option Value} {news news' : List (Addr × Obj)} {n n2 : Nat} {vs : List Value} {a b c : Value} {Q : Value → Shared → Prop}
    (F : Fr h₀ L s.heap m) (N : News h₀ L s.heap news) (hb : (e, listOf [a, b, c].toArray n2) ∈ news) (U : Upd D (listOf vs.toArray n) (listOf (vs ++ [a, b, c]).toArray (n + 1)) news news') (hv : vs.length ≤ 100)
    (h : ∀ h', Fr h₀ L h' m → News h₀ L h' news' → Q .none { s with heap := h' }) : wpAny (model prog w) A (call (.builtin "list.extend") [.ref D, .ref e]) Q E s :=
  kl_extend F N hb rfl (Nat.succ_ne_zero _) U (oct_room hv) (oct_len hv) (oct_len2 hv) h
theorem oct_c (w : World) (l : Addr) (vs : List Value) (fs : List Int) (hf : Figs fs) (hi : IntsAre vs fs) (hl : fs.length = 4 ∨ fs.length = 8 ∨ fs.length = 12) :
    Ctr w 146 3 [.ref l] [] (fun h => h.IsList l vs.toArray) (fun r _ _ => ∃ t, r = .bytes (byteArr (octs fs)) t) := by
  k_with_none
  k_with "callWith" => (k_here; (with_reducible show wpAny _ _ (callWith _ _ (Prod.snd _) _ _) _ _ _); with_reducible refine PyProof.Rows.callWith_method1 ?_ (by k_dflt rfl) (by k_dflt rfl))
  k_with "execs cons" => (k_here; first | k_gentoks | (with_reducible refine wpAny_execs_cons ?_; (try dsimp only)))
  k_with "call type:bytes" => (k_here; k_dflt (refine KBa.make_K (by k_asm) (by k_asm) (by rfl) (by kba_isList) (by kba_listInts) (by assumption) (by kba_size) ?_); intro _ _ _ F' N' kbaIn)
  k_with "call builtin:list.extend" => (k_here; (with_unfolding_all show wpAny _ _ (call (Value.builtin "list.extend") [Value.ref _, Value.ref _]) _ _ _); k_dflt (refine oct_extend (by k_asm) (by k_asm) (by k_mem) (by k_upd) (by omega) ?_); intro h' F' N')
  w_on
  unfold Ctr
  k_fill
  intro mean mg mb dp un gd cn cs aa ccd cl outer A₀ base h₀ L m news s Q E B F X N T hk hdp hu hyp hret
  refine wpAny_call ?_
  k_dflt (refine' enter0 (binds := [(Str.ofString "figures", .ref l)]) ?k1 ?k2 ?k3 ?k5 ?kA ?kF ?kK ?k6 ?k7 ?k8 ?k9 ?kB ?_ ?c2 ?c3 ?c4 ?c5; (case kA => exact rfl); (case kF => exact rfl); (case kK => assumption); (case k1 => k_asm); (case k2 => k_asm); (case k3 => k_asm); (case k5 => k_asm); (case k6 => k_is); (case k7 => k_is); (case k8 => ktr_room); (case k9 => exact BindsTo.of_eq rfl); (case c5 => decide); (case kB => exact locs rfl); (case c2 => exact rfl); (case c3 => exact rfl); (case c4 => exact rfl); k_whole; intro L' h' F' N' B' X' T'; (try dsimp only); (try k_fold))
  w_strict (repeat' (first | (k_unfold; (try dsimp only)) | ((fail_if_success (with_reducible show wpAny _ _ (exec (Stmt.For _ _ _ _ _) _) _ _ _)); walk1) | fail "no step"))
  (rename Fr _ _ _ _ => lF'); (with_unfolding_all refine' For_invVF lF' ?k1 ?k2 ?_; (case k1 => exact rfl); (case k2 => exact rfl); k_whole)
  w_strict (repeat' (first | (k_unfold; (try dsimp only)) | ((fail_if_success (with_reducible show wpAny _ _ (pyIter _) _ _ _)); walk1) | fail "no step"))
  (rename IsRange _ _ _ _ _ _ _ _ => rgX)
  (rename Fr _ _ _ _ => fF)
  (rename News _ _ _ _ => fN)
  have hlen2 := hi.length
  obtain ⟨n, hn1, hn2, hn3, hn4⟩ := four_n hl
  refine' step_loop (σ := List Value × List Int × Nat) (n := n) (fun c => [(_, listOf c.1.toArray c.2.2)]) (fun _ => []) (fun c => IntsAre c.1 c.2.1) [Str.ofString "whole"] (fun pre c => OctP fs pre c.2.1) ([], [], _) rfl rgX hn3 hn4 fF fN IntsAre.nil (fun _ hp => nomatch hp) (octP_nil fs) ?_ ?_
  · clear fF fN rgX hn3 hn4
    rintro ⟨us, out, nn⟩ kPre kK kT kU kH kTk kOwn kEq kLt kOff kFacts kInv kFr kNews
    have kMark := kstMark
    dsimp only [kstB] at kFr
    dsimp only at kNews kFacts kInv
    simp only [List.nil_append, List.cons_append] at kNews
    simp only [List.map_cons, List.map_nil] at kOff
    have q7 : us.length ≤ 100 := by have q1 := kInv.len; have q6 := kFacts.length; omega
    have k0 : 0 ≤ kK := by omega
    have k3 : kK + 3 < (fs.length : Int) := by omega
    have k4 : kK ≤ 100 := by omega
    have b0 := figs_at hf (i := kK.toNat) (by omega)
    have b1 := figs_at hf (i := (kK + 1).toNat) (by omega)
    have b2 := figs_at hf (i := (kK + 2).toNat) (by omega)
    have b3 := figs_at hf (i := (kK + 3).toNat) (by omega)
    have hT := octP_turn kInv kEq kLt hn1
    clear kInv kEq kLt hn1 hn2 hl
    try k_fold
    w_strict (repeat' (first | (k_unfold; (try dsimp only)) | ((fail_if_success (with_reducible show InvEndN _ _ _ _ _ _ _)); walk1) | fail "no step"))
    (rename News _ _ _ _ => nE')
    refine kst_end (us ++ [_, _, _], out ++ oct4 _ _ _ _, nn + 1) (by assumption) nE' (by first | kst_in | kst_inAny) (by first | (intro p hp; kst_mem) | kst_anyIn) rfl (ints_oct kFacts _ _ _ _ _ _ _) (by kst_all) (by kst_same) hT
  · clear fF fN rgX hn3 hn4
    rintro ⟨us, out, nn⟩ kU kH kTk kFacts kInv kFr kNews
    have kMark := kstMark
    dsimp only [kstB] at kFr
    dsimp only at kNews kFacts kInv
    have q6 := kFacts.length
    have e := octP_end kInv (stepKs_len _ _ _) hn1
    subst e
    have q5 := octs_in fs hf
    have q7 : us.length ≤ 100 := by have := kInv.len; rw [stepKs_len] at this; omega
    try k_fold
    w_strict k_steps
    all_goals (exact hret _ _ _ (by k_asm) (news_kept N (by assumption)) (Fr.keep (by assumption)) (ex_bytes rfl))
end
section
theorem oct4_eq {a b c d : Int} (ha : 0 ≤ a ∧ a < 64) (hb : 0 ≤ b ∧ b < 64) (hc : 0 ≤ c ∧ c < 64) (hd : 0 ≤ d ∧ d < 64) : oct4 a b c d = [a * 4 + b / 16, b % 16 * 16 + c / 4, c % 4 * 64 + d] := by
  have e1 : (((a * 64 + b) * 64 + c) * 64 + d) / 65536 = a * 4 + b / 16 := by omega
  have e2 : (((a * 64 + b) * 64 + c) * 64 + d) / 256 % 256 = b % 16 * 16 + c / 4 := by omega
  have e3 : (((a * 64 + b) * 64 + c) * 64 + d) % 256 = c % 4 * 64 + d := by omega
  rw [oct4, e1, e2, e3]
theorem bits_1 {l a p : Int} (ha : 0 ≤ a ∧ a < 64) (hp : 0 ≤ p ∧ p < 4) : (l * 256 + (a * 4 + p)) % 65536 / 4 % 64 = a := by omega
theorem bits_1r {l a p : Int} (hp : 0 ≤ p ∧ p < 4) : (l * 256 + (a * 4 + p)) % 65536 % 4 = p := by omega
theorem bits_2 {l q r p : Int} (hq : 0 ≤ q ∧ q < 16) (hr : 0 ≤ r ∧ r < 16) (hl : l % 4 = p) : (l * 256 + (q * 16 + r)) % 65536 / 16 % 64 = p * 16 + q := by omega
theorem bits_2r {l q r : Int} (hr : 0 ≤ r ∧ r < 16) : (l * 256 + (q * 16 + r)) % 65536 % 16 = r := by omega
theorem bits_3 {l q d r : Int} (hq : 0 ≤ q ∧ q < 4) (hd : 0 ≤ d ∧ d < 64) (hl : l % 16 = r) : (l * 256 + (q * 64 + d)) % 65536 / 64 % 64 = r * 4 + q := by omega
theorem bits_3r {l q d : Int} (hd : 0 ≤ d ∧ d < 64) : (l * 256 + (q * 64 + d)) % 65536 % 64 = d := by omega
/-- what b64encode's inner loop makes of a row's octets: the row's signs -/
theorem enc4 (a b c d : Int) (ha : 0 ≤ a ∧ a < 64) (hb : 0 ≤ b ∧ b < 64) (hc : 0 ≤ c ∧ c < 64) (hd : 0 ≤ d ∧ d < 64) (out : List Int) (lc : Int) :
    ∃ lc', (oct4 a b c d).foldl encStep (out, 0, lc) = (out ++ [tab a, tab b, tab c, tab d], 0, lc') := by
  have p1 : 0 ≤ b / 16 ∧ b / 16 < 4 := by omega
  have p2 : 0 ≤ b % 16 ∧ b % 16 < 16 := by omega
  have p3 : 0 ≤ c / 4 ∧ c / 4 < 16 := by omega
  have p4 : 0 ≤ c % 4 ∧ c % 4 < 4 := by omega
  have e1 : encStep (out, 0, lc) (a * 4 + b / 16) = (out ++ [tab a], 2, (lc * 256 + (a * 4 + b / 16)) % 65536) := by
    show (out ++ [tab _], _, _) = _
    rw [bits_1 ha p1]
  have r1 := bits_1r (l := lc) (a := a) p1
  generalize (lc * 256 + (a * 4 + b / 16)) % 65536 = l1 at e1 r1
  have e2 : encStep (out ++ [tab a], 2, l1) (b % 16 * 16 + c / 4) = (out ++ [tab a] ++ [tab b], 4, (l1 * 256 + (b % 16 * 16 + c / 4)) % 65536) := by
    show (out ++ [tab a] ++ [tab _], _, _) = _
    rw [bits_2 p2 p3 r1, show b / 16 * 16 + b % 16 = b by omega]
  have r2 := bits_2r (l := l1) (q := b % 16) p3
  generalize (l1 * 256 + (b % 16 * 16 + c / 4)) % 65536 = l2 at e2 r2
  have e3 : encStep (out ++ [tab a] ++ [tab b], 4, l2) (c % 4 * 64 + d) = (out ++ [tab a] ++ [tab b] ++ [tab c, tab d], 0, (l2 * 256 + (c % 4 * 64 + d)) % 65536) := by
    show (out ++ [tab a] ++ [tab b] ++ [tab _, tab _], _, _) = _
    rw [bits_3 p4 hd r2, bits_3r hd, show c / 4 * 4 + c % 4 = c by omega]
  refine ⟨(l2 * 256 + (c % 4 * 64 + d)) % 65536, ?_⟩
  rw [oct4_eq ha hb hc hd]
  show encStep (encStep (encStep (out, 0, lc) _) _) _ = _
  rw [e1, e2, e3, List.append_assoc, List.append_assoc]
  rfl
theorem enc_octs : ∀ (fs : List Int), Figs fs → fs.length % 4 = 0 → ∀ (out : List Int) (lc : Int), ∃ lc', (octs fs).foldl encStep (out, 0, lc) = (out ++ fs.map tab, 0, lc')
  | [], _, _, out, lc => ⟨lc, by simp [octs]⟩
  | [_], _, h, _, _ => by simp at h
  | [_, _], _, h, _, _ => by simp at h
  | [_, _, _], _, h, _, _ => by simp at h
  | a :: b :: c :: d :: r, hf, h, out, lc => by
    obtain ⟨l1, e1⟩ := enc4 a b c d (hf a (by simp)) (hf b (by simp)) (hf c (by simp)) (hf d (by simp)) out lc
    obtain ⟨l2, e2⟩ := enc_octs r (fun x hx => hf x (by simp [hx])) (by simp at h; omega) (out ++ [tab a, tab b, tab c, tab d]) l1
    refine ⟨l2, ?_⟩
    rw [octs, List.foldl_append, e1, e2]
    simp
theorem encL_octs {fs : List Int} (hf : Figs fs) (h : fs.length % 4 = 0) : encL (octs fs) = fs.map tab := by
  obtain ⟨l, e⟩ := enc_octs fs hf h [] 0
  rw [encL, e]; rfl
theorem dec4 (a b c d : Int) (ha : 0 ≤ a ∧ a < 64) (hb : 0 ≤ b ∧ b < 64) (hc : 0 ≤ c ∧ c < 64) (hd : 0 ≤ d ∧ d < 64) (out : List Int) :
    [a, b, c, d].foldl decStep (out, 0, 0) = (out ++ oct4 a b c d, 0, 0) := by
  rw [oct4_eq ha hb hc hd]
  show (out ++ [_] ++ [_] ++ [_], _, _) = _
  rw [List.append_assoc, List.append_assoc]
  rfl
theorem dec_octs : ∀ (fs : List Int), Figs fs → fs.length % 4 = 0 → ∀ (out : List Int), fs.foldl decStep (out, 0, 0) = (out ++ octs fs, 0, 0)
  | [], _, _, out => by simp [octs]
  | [_], _, h, _ => by simp at h
  | [_, _], _, h, _ => by simp at h
  | [_, _, _], _, h, _ => by simp at h
  | a :: b :: c :: d :: r, hf, h, out => by
    have e1 := dec4 a b c d (hf a (by simp)) (hf b (by simp)) (hf c (by simp)) (hf d (by simp)) out
    have e2 := dec_octs r (fun x hx => hf x (by simp [hx])) (by simp at h; omega) (out ++ oct4 a b c d)
    have e3 : (a :: b :: c :: d :: r).foldl decStep (out, 0, 0) = r.foldl decStep ([a, b, c, d].foldl decStep (out, 0, 0)) := rfl
    rw [e3, e1, e2, octs, List.append_assoc]
theorem decL_octs {fs : List Int} (hf : Figs fs) (h : fs.length % 4 = 0) : decL fs = octs fs := by
  rw [decL, dec_octs fs hf h []]; rfl
theorem octs_len : ∀ (fs : List Int), fs.length % 4 = 0 → (octs fs).length * 4 = fs.length * 3
  | [], _ => rfl
  | [_], h => by simp at h
  | [_, _], h => by simp at h
  | [_, _, _], h => by simp at h
  | a :: b :: c :: d :: r, h => by
    have := octs_len r (by simp at h; omega)
    rw [octs, List.length_append]
    simp only [oct4, List.length_cons, List.length_nil] at this ⊢
    omega
end
section
theorem truth_c (w : World) :
    Ctr w 63 2 [.bool false] [] (fun _ => True) (fun r _ _ => r = .bool false) := by
  k_with_none
  k_with "call type:type" => ((with_reducible show wpAny _ _ (call _ [Value.bytes _ _]) _ _ _); refine call_type_of (Tx := "bytes") rfl (by decide +kernel) ?_)
  w_on
  unfold Ctr
  k_fill
  intro mean mg mb dp un gd cn cs aa ccd cl outer A₀ base h₀ L m news s Q E B F X N T hk hdp hu hyp hret
  refine wpAny_call ?_
  k_dflt (refine' enter0 (binds := [(Str.ofString "x", .bool false)]) ?k1 ?k2 ?k3 ?k5 ?kA ?kF ?kK ?k6 ?k7 ?k8 ?k9 ?kB ?_ ?c2 ?c3 ?c4 ?c5; (case kA => exact rfl); (case kF => exact rfl); (case kK => assumption); (case k1 => k_asm); (case k2 => k_asm); (case k3 => k_asm); (case k5 => k_asm); (case k6 => k_is); (case k7 => k_is); (case k8 => ktr_room); (case k9 => first | exact BindsTo.of_eq rfl | exact binds_K (by k_in) rfl (by k_is) rfl rfl rfl); (case c5 => decide); (case kB => exact locs rfl); (case c2 => exact rfl); (case c3 => exact rfl); (case c4 => exact rfl); k_whole; intro L' h' F' N' B' X' T'; (try dsimp only); (try k_fold))
  w_strict k_steps
  all_goals (exact hret _ _ _ (by k_asm) (news_kept N (by assumption)) (Fr.keep (by assumption)) rfl)
theorem buffer_c (w : World) (b : Array UInt8) (t : Tok) :
    Ctr w 56 2 [.bytes b t] [] (fun _ => True) (fun r _ _ => r = .bytes b t) := by
  k_with_none
  k_with "call type:type" => ((with_reducible show wpAny _ _ (call _ [Value.bytes _ _]) _ _ _); refine call_type_of (Tx := "bytes") rfl (by decide +kernel) ?_)
  w_on
  unfold Ctr
  k_fill
  intro mean mg mb dp un gd cn cs aa ccd cl outer A₀ base h₀ L m news s Q E B F X N T hk hdp hu hyp hret
  refine wpAny_call ?_
  k_dflt (refine' enter0 (binds := [(Str.ofString "data", .bytes b t)]) ?k1 ?k2 ?k3 ?k5 ?kA ?kF ?kK ?k6 ?k7 ?k8 ?k9 ?kB ?_ ?c2 ?c3 ?c4 ?c5; (case kA => exact rfl); (case kF => exact rfl); (case kK => assumption); (case k1 => k_asm); (case k2 => k_asm); (case k3 => k_asm); (case k5 => k_asm); (case k6 => k_is); (case k7 => k_is); (case k8 => ktr_room); (case k9 => first | exact BindsTo.of_eq rfl | exact binds_K (by k_in) rfl (by k_is) rfl rfl rfl); (case c5 => decide); (case kB => exact locs rfl); (case c2 => exact rfl); (case c3 => exact rfl); (case c4 => exact rfl); k_whole; intro L' h' F' N' B' X' T'; (try dsimp only); (try k_fold))
  w_strict k_steps
  all_goals (exact hret _ _ _ (by k_asm) (news_kept N (by assumption)) (Fr.keep (by assumption)) rfl)
theorem ascii_c (w : World) (b : Array UInt8) (t : Tok) :
    Ctr w 49 2 [.bytes b t] [] (fun _ => True) (fun r _ _ => r = .bytes b t) := by
  k_with_none
  k_with "call type:type" => ((with_reducible show wpAny _ _ (call _ [Value.bytes _ _]) _ _ _); refine call_type_of (Tx := "bytes") rfl (by decide +kernel) ?_)
  w_on
  unfold Ctr
  k_fill
  intro mean mg mb dp un gd cn cs aa ccd cl outer A₀ base h₀ L m news s Q E B F X N T hk hdp hu hyp hret
  refine wpAny_call ?_
  k_dflt (refine' enter0 (binds := [(Str.ofString "data", .bytes b t)]) ?k1 ?k2 ?k3 ?k5 ?kA ?kF ?kK ?k6 ?k7 ?k8 ?k9 ?kB ?_ ?c2 ?c3 ?c4 ?c5; (case kA => exact rfl); (case kF => exact rfl); (case kK => assumption); (case k1 => k_asm); (case k2 => k_asm); (case k3 => k_asm); (case k5 => k_asm); (case k6 => k_is); (case k7 => k_is); (case k8 => ktr_room); (case k9 => first | exact BindsTo.of_eq rfl | exact binds_K (by k_in) rfl (by k_is) rfl rfl rfl); (case c5 => decide); (case kB => exact locs rfl); (case c2 => exact rfl); (case c3 => exact rfl); (case c4 => exact rfl); k_whole; intro L' h' F' N' B' X' T'; (try dsimp only); (try k_fold))
  w_strict k_steps
  all_goals (exact hret _ _ _ (by k_asm) (news_kept N (by assumption)) (Fr.keep (by assumption)) rfl)
end
section
theorem b2a_c (w : World) (ns : List Int) (t1 : Tok) (hns : KBa.In ns) (hl : ns.length ≤ 100) (h3 : ns.length % 3 = 0) :
    Ctr w 86 5 [.bytes (byteArr ns) t1] [(Str.ofString "newline", .bool false)] (fun _ => True) (fun r _ _ => ∃ t, r = .bytes (byteArr (encL ns)) t) := by
  k_with_none
  k_with "callWith" => (k_here; (with_reducible show wpAny _ _ (callWith _ _ (Prod.snd _) _ _) _ _ _); with_reducible refine PyProof.Rows.callWith_method1 ?_ (by k_dflt rfl) (by k_dflt rfl))
  k_with "execs cons" => (k_here; first | k_gentoks | (with_reducible refine wpAny_execs_cons ?_; (try dsimp only)))
  k_with "call type:type" => ((with_reducible show wpAny _ _ (call _ [Value.bytes _ _]) _ _ _); refine call_type_of (Tx := "bytes") rfl (by decide +kernel) ?_)
  k_with "binaryOp BitAnd int int" => (k_here; with_reducible (first | refine and_63 ?_ | refine and_15 ?_ | refine and_3 ?_ | refine and_65535 ?_))
  k_with "binaryOp LShift int int" => (k_here; first | refine shl_by (p := 256) (by decide) (by decide) (by decide) (by omega) (by omega) ?_ | refine shl_by (p := 4) (by decide) (by decide) (by decide) (by omega) (by omega) ?_ | refine shl_by (p := 16) (by decide) (by decide) (by decide) (by omega) (by omega) ?_ | refine shl_by (p := 64) (by decide) (by decide) (by decide) (by omega) (by omega) ?_)
  k_with "binaryOp RShift int int" => (k_here; first | refine shr_by (p := 4) (by decide) (by decide) (by decide) ?_ | refine shr_by (p := 16) (by decide) (by decide) (by decide) ?_ | refine shr_by (p := 64) (by decide) (by decide) (by decide) ?_ | refine shr_by (p := 1) (by decide) (by decide) (by decide) ?_)
  k_with "binaryOp BitOr int int" => (k_here; first | with_reducible refine or_by (k := 8) (p := 256) (by decide) rfl (by omega) (by omega) ?_ | with_reducible refine or_by (k := 2) (p := 4) (by decide) rfl (by omega) (by omega) ?_ | with_reducible refine or_by (k := 4) (p := 16) (by decide) rfl (by omega) (by omega) ?_ | with_reducible refine or_by (k := 6) (p := 64) (by decide) rfl (by omega) (by omega) ?_)
  k_with "subscriptTail" => (k_here; (with_reducible show wpAny _ _ (subscriptTail _ _ (Value.bytes _ _) (Value.int _ _)) _ _ _); k_dflt (refine b64_item (by with_unfolding_all rfl) (by omega) (by omega) ?_); intro _ _ kbaLo kbaHi)
  k_with "call ref" => (k_here; k_dflt (first | refine Ctr.use (truth_c _) (by k_asm) (by k_asm) (by k_asm) (by k_asm) (by k_asm) (by first | exact rfl | assumption) (by ktr_room) (by ktr_units) (by exact trivial) ?_ | refine Ctr.use (buffer_c _ _ _) (by k_asm) (by k_asm) (by k_asm) (by k_asm) (by k_asm) (by first | exact rfl | assumption) (by ktr_room) (by ktr_units) (by exact trivial) ?_ | refine Ctr.use (ascii_c _ _ _) (by k_asm) (by k_asm) (by k_asm) (by k_asm) (by k_asm) (by first | exact rfl | assumption) (by ktr_room) (by ktr_units) (by exact trivial) ?_); intro r9 h9 tk9 F9 N9 K9 O9; subst O9; (try dsimp only); (try k_sweep))
  k_with "call builtin:list.append" => (k_here; (with_unfolding_all show wpAny _ _ (call (Value.builtin "list.append") [Value.ref _, _]) _ _ _); k_dflt (refine append_K (by k_asm) (by k_asm) (by k_upd) ?_ (by size_fits); k_whole); intro h' F' N'; (try k_sweep))
  w_on
  unfold Ctr
  k_fill
  intro mean mg mb dp un gd cn cs aa ccd cl outer A₀ base h₀ L m news s Q E B F X N T hk hdp hu hyp hret
  k_with "state" => first | exact encP_nil | exact encP_0 (by assumption) | exact encP_2 (by assumption) | exact encP_4 (by assumption)
  refine wpAny_call ?_
  k_dflt (refine' enter0 (binds := [(Str.ofString "data", .bytes (byteArr ns) t1), (Str.ofString "newline", .bool false)]) ?k1 ?k2 ?k3 ?k5 ?kA ?kF ?kK ?k6 ?k7 ?k8 ?k9 ?kB ?_ ?c2 ?c3 ?c4 ?c5; (case kA => exact rfl); (case kF => exact rfl); (case kK => assumption); (case k1 => k_asm); (case k2 => k_asm); (case k3 => k_asm); (case k5 => k_asm); (case k6 => k_is); (case k7 => k_is); (case k8 => ktr_room); (case k9 => first | exact BindsTo.of_eq rfl | exact binds_K (by k_in) rfl (by k_is) rfl rfl rfl); (case c5 => decide); (case kB => exact locs rfl); (case c2 => exact rfl); (case c3 => exact rfl); (case c4 => exact rfl); k_whole; intro L' h' F' N' B' X' T'; (try dsimp only); (try k_fold))
  w_strict (repeat' (first | (k_unfold; (try dsimp only)) | ((fail_if_success (with_reducible show wpAny _ _ (exec (Stmt.For _ _ _ _ _) _) _ _ _)); walk1) | fail "no step"))
  (rename Fr _ _ _ _ => lF'); (with_unfolding_all refine' For_invVF lF' ?k1 ?k2 ?_; (case k1 => exact rfl); (case k2 => exact rfl); k_whole)
  w_strict walk1
  have hbI := KBa.ints_make hns
  (rename Fr _ _ _ _ => fF)
  (rename News _ _ _ _ => fN)
  refine' KStb.kst_bytes (σ := List Value × List Int × Nat × Int × Tok × Int × Tok) (fun c => [(_, listOf c.1.toArray c.2.2.1)]) (fun c => [(Str.ofString "leftbits", .int c.2.2.2.1 c.2.2.2.2.1), (Str.ofString "leftchar", .int c.2.2.2.2.2.1 c.2.2.2.2.2.2)]) (fun c => IntsAre c.1 c.2.1) [] (fun pre c => EncP pre c.2.1 c.2.2.2.1 c.2.2.2.2.2.1) ([], [], _, _, _, _, _) hbI rfl rfl fF fN IntsAre.nil ?kk ?kp ?_ ?_
  (case kk => kst_all)
  (case kp => exact encP_nil)
  · clear fF fN
    rintro ⟨vs, out, nn, lb, tb, lc, tc⟩ kPre kPost kN kT kU kH kTk kOwn kEq kLen kLo kHi kOff kFacts kInv kFr kNews
    have kMark := kstMark
    dsimp only [kstB] at kFr
    dsimp only at kNews kFacts kInv
    simp only [List.nil_append, List.cons_append] at kNews
    simp only [List.map_cons, List.map_nil] at kOff
    have q1 := kInv.len
    have q3 := kInv.lo
    have q4 := kInv.hi
    have q6 := kFacts.length
    have q7 := kInv.cases
    try k_fold
    rcases q7 with e | e | e <;> subst e
    · w_strict k_steps
    · w_strict k_steps
    · w_strict k_steps
  · clear fF fN
    rintro ⟨vs, out, nn, lb, tb, lc, tc⟩ kU kH kTk kLen kFacts kInv kFr kNews
    have kMark := kstMark
    dsimp only [kstB] at kFr
    dsimp only at kNews kFacts kInv
    have q1 := kInv.len
    have q2 := kInv.bits
    have q5 := kInv.isIn
    have q6 := kFacts.length
    have q7 : lb = 0 := by omega
    subst q7
    try k_fold
    w_strict k_steps
    exact hret _ _ _ (by k_asm) (news_kept N (by assumption)) (Fr.keep (by assumption)) (ex_bytes (by rw [encL, kInv.eq]))
end
section
theorem encP_run : ∀ (ns : List Int), ∃ lb lc, EncP ns (encL ns) lb lc
  | ns => by
    have key : ∀ (r pre out : List Int) (lb lc : Int), EncP pre out lb lc → ∃ out' lb' lc', EncP (pre ++ r) out' lb' lc' := by
      intro r
      induction r with
      | nil => intro pre out lb lc h; exact ⟨out, lb, lc, by simpa using h⟩
      | cons b r ih =>
        intro pre out lb lc h
        have e : pre ++ b :: r = (pre ++ [b]) ++ r := by simp
        rw [e]
        rcases h.cases with q | q | q <;> subst q
        · exact ih _ _ _ _ (encP_0 h)
        · exact ih _ _ _ _ (encP_2 h)
        · exact ih _ _ _ _ (encP_4 h)
    obtain ⟨out, lb, lc, h⟩ := key ns [] [] 0 0 encP_nil
    rw [List.nil_append] at h
    have : encL ns = out := by rw [encL, h.eq]
    exact ⟨lb, lc, this ▸ h⟩
theorem encL_len (ns : List Int) : (encL ns).length ≤ 2 * ns.length := by
  obtain ⟨_, _, h⟩ := encP_run ns; exact h.len
theorem encL_in (ns : List Int) : KBa.In (encL ns) := by
  obtain ⟨_, _, h⟩ := encP_run ns; exact h.isIn
theorem len_alt {prog : Program} {w : World} {A : Around} {E : Value → Shared → Prop} {s : Shared} {Q : Value → Shared → Prop} {sw : Bool} {t : Tok} (h : ∀ t' k, Q (.int 2 t') { s with toks := k }) : wpAny (model prog w) A (call (.builtin "len") [.bytes (altA sw) t]) Q E s :=
  KBw.len_K (altA_ints sw) (by rw [altL_len]; decide) (by rw [altL_len]; exact h _ _)
theorem enc_c (w : World) (ns : List Int) (t1 t2 : Tok) (sw : Bool) (hns : KBa.In ns) (hl : ns.length ≤ 100) (h3 : ns.length % 3 = 0) :
    Ctr w 94 8 [.bytes (byteArr ns) t1, .bytes (altA sw) t2] [] (fun _ => True) (fun r _ _ => ∃ t, r = .bytes ((byteArr (encL ns)).map fun c => (trans #[43, 47] (altA sw)).getD c.toNat c) t) := by
  k_with_none
  k_with "callWith" => (k_here; (with_reducible show wpAny _ _ (callWith _ _ (Prod.snd _) _ _) _ _ _); with_reducible refine PyProof.Rows.callWith_method1 ?_ (by k_dflt rfl) (by k_dflt rfl))
  k_with "execs cons" => (k_here; first | k_gentoks | (with_reducible refine wpAny_execs_cons ?_; (try dsimp only)))
  k_with "call ref" => (k_here; k_dflt (refine Ctr.use (b2a_c _ _ _ (by assumption) (by assumption) (by assumption)) (by k_asm) (by k_asm) (by k_asm) (by k_asm) (by k_asm) (by first | exact rfl | assumption) (by ktr_room) (by ktr_units) (by exact trivial) ?_; intro r9 h9 tk9 F9 N9 K9 O9; obtain ⟨t9, O9⟩ := O9; subst O9; (try dsimp only); (try k_sweep)))
  k_with "getMethod type:bytes" => (k_here; k_dflt (refine method_maketrans (by k_asm) (by k_asm) (by k_is) ?_))
  k_with "getMethod bytes" => (k_here; (with_reducible refine method_translate ?_))
  k_with "call builtin:len" => (k_here; (with_reducible refine len_alt ?_); intro _ _)
  k_with "call builtin:bytes.maketrans" => (k_here; k_dflt (refine call_maketrans (by (rw [altA_size]; rfl)) (by (rw [trans_size]; decide)) ?_); intro tb9 t9 k9 eT9)
  k_with "call builtin:bytes.translate" => (k_here; k_dflt (refine call_translate (by (rename (_ = trans _ _) => eT8; rw [eT8]; exact trans_size _ _)) (by (rw [byteArr_size, sizeLine_eq]; omega)) ?_); intro _ _)
  w_on
  unfold Ctr
  k_fill
  intro mean mg mb dp un gd cn cs aa ccd cl outer A₀ base h₀ L m news s Q E B F X N T hk hdp hu hyp hret
  have hz := encL_len ns
  refine wpAny_call ?_
  k_dflt (refine' enter0 (binds := [(Str.ofString "s", .bytes (byteArr ns) t1), (Str.ofString "altchars", .bytes (altA sw) t2)]) ?k1 ?k2 ?k3 ?k5 ?kA ?kF ?kK ?k6 ?k7 ?k8 ?k9 ?kB ?_ ?c2 ?c3 ?c4 ?c5; (case kA => exact rfl); (case kF => exact rfl); (case kK => assumption); (case k1 => k_asm); (case k2 => k_asm); (case k3 => k_asm); (case k5 => k_asm); (case k6 => k_is); (case k7 => k_is); (case k8 => ktr_room); (case k9 => first | exact BindsTo.of_eq rfl | exact binds_K (by k_in) rfl (by k_is) rfl rfl rfl); (case c5 => decide); (case kB => exact locs rfl); (case c2 => exact rfl); (case c3 => exact rfl); (case c4 => exact rfl); k_whole; intro L' h' F' N' B' X' T'; (try dsimp only); (try k_fold))
  w_strict k_steps
  (rename (_ = trans _ _) => eT8; subst eT8)
  all_goals (exact hret _ _ _ (by k_asm) (news_kept N (by assumption)) (Fr.keep (by assumption)) ⟨_, rfl⟩)
end
section
theorem ex_int {x y : Int} {t : Tok} (h : x = y) : ∃ t', Value.int x t = .int y t' := ⟨t, h ▸ rfl⟩
theorem uv_c (w : World) (c : Int) (t : Tok) :
    Ctr w 70 2 [.int c t] [] (fun _ => True) (fun r _ _ => ∃ t', r = .int (uv c) t') := by
  k_with_none
  w_on
  unfold Ctr
  k_fill
  intro mean mg mb dp un gd cn cs aa ccd cl outer A₀ base h₀ L m news s Q E B F X N T hk hdp hu hyp hret
  refine wpAny_call ?_
  k_dflt (refine' enter0 (binds := [(Str.ofString "c", .int c t)]) ?k1 ?k2 ?k3 ?k5 ?kA ?kF ?kK ?k6 ?k7 ?k8 ?k9 ?kB ?_ ?c2 ?c3 ?c4 ?c5; (case kA => exact rfl); (case kF => exact rfl); (case kK => assumption); (case k1 => k_asm); (case k2 => k_asm); (case k3 => k_asm); (case k5 => k_asm); (case k6 => k_is); (case k7 => k_is); (case k8 => ktr_room); (case k9 => first | exact BindsTo.of_eq rfl | exact binds_K (by k_in) rfl (by k_is) rfl rfl rfl); (case c5 => decide); (case kB => exact locs rfl); (case c2 => exact rfl); (case c3 => exact rfl); (case c4 => exact rfl); k_whole; intro L' h' F' N' B' X' T'; (try dsimp only); (try k_fold))
  w_strict k_steps
  all_goals (exact hret _ _ _ (by k_asm) (news_kept N (by assumption)) (Fr.keep (by assumption)) (ex_int (by (unfold uv; repeat (first | rfl | (rw [if_pos (by first | assumption | exact ⟨by assumption, by assumption⟩)]) | (rw [if_neg (by first | assumption | exact fun q => absurd q.1 (by assumption) | exact fun q => absurd q.2 (by assumption) | omega)]))))))
theorem val_c (w : World) (v : Int) (t : Tok) (h0 : 0 ≤ v) (h1 : v < 64) :
    Ctr w 70 2 [.int (tab v) t] [] (fun _ => True) (fun r _ _ => ∃ t', r = .int v t') := by
  have h := uv_c w (tab v) t
  rw [uv_tab v h0 h1] at h
  exact h
theorem decQ_0 {pre out fpre : List Int} {qp lc v : Int} (h0 : 0 ≤ v) (h1 : v < 64) (hq : qp = 0) (h : DecP pre out qp lc 0 fpre) : DecP (pre ++ [tab v]) out 1 v 0 (fpre ++ [v]) := by
  subst hq; exact decP_0 h0 h1 h
theorem decQ_1 {pre out fpre : List Int} {qp lc v : Int} (h0 : 0 ≤ v) (h1 : v < 64) (hq : qp = 1) (h : DecP pre out qp lc 0 fpre) : DecP (pre ++ [tab v]) (out ++ [lc * 4 + v / 16]) 2 (v % 16) 0 (fpre ++ [v]) := by
  subst hq; exact decP_1 h0 h1 h
theorem decQ_2 {pre out fpre : List Int} {qp lc v : Int} (h0 : 0 ≤ v) (h1 : v < 64) (hq : qp = 2) (h : DecP pre out qp lc 0 fpre) : DecP (pre ++ [tab v]) (out ++ [lc * 16 + v / 4]) 3 (v % 4) 0 (fpre ++ [v]) := by
  subst hq; exact decP_2 h0 h1 h
theorem decQ_3 {pre out fpre : List Int} {qp lc v : Int} (h0 : 0 ≤ v) (h1 : v < 64) (n0 : qp ≠ 0) (n1 : qp ≠ 1) (n2 : qp ≠ 2) (h : DecP pre out qp lc 0 fpre) : DecP (pre ++ [tab v]) (out ++ [lc * 64 + v]) 0 0 0 (fpre ++ [v]) := by
  have hq : qp = 3 := by have := h.hi; omega
  subst hq; exact decP_3 h0 h1 h
theorem decP_lc {pre out fpre : List Int} {qp lc : Int} (h : DecP pre out qp lc 0 fpre) : lc < 65536 := by have := h.hi; omega
theorem tab_61 {v : Int} (h0 : 0 ≤ v) (h1 : v < 64) : tab v ≠ 61 := by have := tab_cases v h0 h1; omega
theorem a2b_c (w : World) (fs : List Int) (t1 : Tok) (hfs : Figs fs) (hl : fs.length ≤ 100) (h3 : fs.length % 4 = 0) :
    Ctr w 78 5 [.bytes (byteArr (fs.map tab)) t1] [(Str.ofString "strict_mode", .bool false)] (fun _ => True) (fun r _ _ => ∃ t, r = .bytes (byteArr (decL fs)) t) := by
  k_with_none
  k_with "binaryOp BitAnd int int" => (k_here; with_reducible (first | refine and_63 ?_ | refine and_15 ?_ | refine and_3 ?_ | refine and_65535 ?_))
  k_with "binaryOp LShift int int" => (k_here; first | refine shl_by (p := 256) (by decide) (by decide) (by decide) (by omega) (by omega) ?_ | refine shl_by (p := 4) (by decide) (by decide) (by decide) (by omega) (by omega) ?_ | refine shl_by (p := 16) (by decide) (by decide) (by decide) (by omega) (by omega) ?_ | refine shl_by (p := 64) (by decide) (by decide) (by decide) (by omega) (by omega) ?_)
  k_with "binaryOp RShift int int" => (k_here; first | refine shr_by (p := 4) (by decide) (by decide) (by decide) ?_ | refine shr_by (p := 16) (by decide) (by decide) (by decide) ?_ | refine shr_by (p := 64) (by decide) (by decide) (by decide) ?_ | refine shr_by (p := 1) (by decide) (by decide) (by decide) ?_)
  k_with "binaryOp BitOr int int" => (k_here; first | with_reducible refine or_by (k := 8) (p := 256) (by decide) rfl (by omega) (by omega) ?_ | with_reducible refine or_by (k := 2) (p := 4) (by decide) rfl (by omega) (by omega) ?_ | with_reducible refine or_by (k := 4) (p := 16) (by decide) rfl (by omega) (by omega) ?_ | with_reducible refine or_by (k := 6) (p := 64) (by decide) rfl (by omega) (by omega) ?_)
  k_with "call builtin:list.append" => (k_here; (with_unfolding_all show wpAny _ _ (call (Value.builtin "list.append") [Value.ref _, _]) _ _ _); k_dflt (refine append_K (by k_asm) (by k_asm) (by k_upd) ?_ (by size_fits); k_whole); intro h' F' N'; (try k_sweep))
  k_with "call ref" => (k_here; k_dflt (first | refine Ctr.use (truth_c _) (by k_asm) (by k_asm) (by k_asm) (by k_asm) (by k_asm) (by first | exact rfl | assumption) (by ktr_room) (by ktr_units) (by exact trivial) ?_ | refine Ctr.use (ascii_c _ _ _) (by k_asm) (by k_asm) (by k_asm) (by k_asm) (by k_asm) (by first | exact rfl | assumption) (by ktr_room) (by ktr_units) (by exact trivial) ?_); intro r9 h9 tk9 F9 N9 K9 O9; subst O9; (try dsimp only); (try k_sweep))
  k_with "call ref" => (k_here; k_dflt (refine Ctr.use (val_c _ _ _ (by assumption) (by assumption)) (by k_asm) (by k_asm) (by k_asm) (by k_asm) (by k_asm) (by first | exact rfl | assumption) (by ktr_room) (by ktr_units) (by exact trivial) ?_; intro r9 h9 tk9 F9 N9 K9 O9; obtain ⟨t9, O9⟩ := O9; subst O9; (try dsimp only); (try k_sweep)))
  w_on
  unfold Ctr
  k_fill
  intro mean mg mb dp un gd cn cs aa ccd cl outer A₀ base h₀ L m news s Q E B F X N T hk hdp hu hyp hret
  k_with "state" => exact ⟨_, by first | exact decQ_0 (by assumption) (by assumption) (by assumption) (by assumption) | exact decQ_1 (by assumption) (by assumption) (by assumption) (by assumption) | exact decQ_2 (by assumption) (by assumption) (by assumption) (by assumption) | exact decQ_3 (by assumption) (by assumption) (by assumption) (by assumption) (by assumption) (by assumption)⟩
  refine wpAny_call ?_
  k_dflt (refine' enter0 (binds := [(Str.ofString "data", .bytes (byteArr (fs.map tab)) t1), (Str.ofString "strict_mode", .bool false)]) ?k1 ?k2 ?k3 ?k5 ?kA ?kF ?kK ?k6 ?k7 ?k8 ?k9 ?kB ?_ ?c2 ?c3 ?c4 ?c5; (case kA => exact rfl); (case kF => exact rfl); (case kK => assumption); (case k1 => k_asm); (case k2 => k_asm); (case k3 => k_asm); (case k5 => k_asm); (case k6 => k_is); (case k7 => k_is); (case k8 => ktr_room); (case k9 => first | exact BindsTo.of_eq rfl | exact binds_K (by k_in) rfl (by k_is) rfl rfl rfl); (case c5 => decide); (case kB => exact locs rfl); (case c2 => exact rfl); (case c3 => exact rfl); (case c4 => exact rfl); k_whole; intro L' h' F' N' B' X' T'; (try dsimp only); (try k_fold))
  w_strict (repeat' (first | (k_unfold; (try dsimp only)) | ((fail_if_success (with_reducible show wpAny _ _ (exec (Stmt.For _ _ _ _ _) _) _ _ _)); walk1) | fail "no step"))
  (rename Fr _ _ _ _ => lF'); (with_unfolding_all refine' For_invVF lF' ?k1 ?k2 ?_; (case k1 => exact rfl); (case k2 => exact rfl); k_whole)
  w_strict walk1
  have hbI := KBa.ints_make (tab_map_in fs)
  (rename Fr _ _ _ _ => fF)
  (rename News _ _ _ _ => fN)
  refine' KStb.kst_bytes (σ := List Value × List Int × Nat × Int × Tok × Int × Tok × Int × Tok × Int × Tok) (fun c => [(_, listOf c.1.toArray c.2.2.1)]) (fun c => [(Str.ofString "quad_pos", .int c.2.2.2.1 c.2.2.2.2.1), (Str.ofString "leftchar", .int c.2.2.2.2.2.1 c.2.2.2.2.2.2.1), (Str.ofString "pads", .int c.2.2.2.2.2.2.2.1 c.2.2.2.2.2.2.2.2.1), (Str.ofString "i", .int c.2.2.2.2.2.2.2.2.2.1 c.2.2.2.2.2.2.2.2.2.2)]) (fun c => IntsAre c.1 c.2.1) [] (fun pre c => DecE pre c.2.1 c.2.2.2.1 c.2.2.2.2.2.1 c.2.2.2.2.2.2.2.1) ([], [], _, _, _, _, _, _, _, _, _) hbI rfl rfl fF fN IntsAre.nil ?kk ?kp ?_ ?_
  (case kk => kst_all)
  (case kp => exact ⟨_, decP_nil⟩)
  · clear fF fN
    rintro ⟨vs, out, nn, qp, tq, lc, tc, pads, tp, ii, ti⟩ kPre kPost kN kT kU kH kTk kOwn kEq kLen kLo kHi kOff kFacts kInv kFr kNews
    have kMark := kstMark
    dsimp only [kstB] at kFr
    dsimp only at kNews kFacts kInv
    simp only [List.nil_append, List.cons_append] at kNews
    simp only [List.map_cons, List.map_nil] at kOff
    obtain ⟨fpre, kInv⟩ := kInv
    have q0 := kInv.pads0
    subst q0
    have q1 := kInv.len
    have q3 := kInv.lo
    have q4 := decP_lc kInv
    have q6 := kFacts.length
    have hin : kN ∈ fs.map tab := by rw [kEq]; exact List.mem_append.mpr (.inr (.head _))
    obtain ⟨v, hv, ev⟩ := List.mem_map.mp hin
    subst ev
    have hv0 := (hfs v hv).1
    have hv1 := (hfs v hv).2
    have hc := tab_61 hv0 hv1
    simp only [List.length_map] at kLen
    have q7 : vs.length ≤ 100 := by omega
    clear q1 q6 kLen hl h3 hin hv hfs hbI
    try k_fold
    w_strict k_steps
  · clear fF fN
    rintro ⟨vs, out, nn, qp, tq, lc, tc, pads, tp, ii, ti⟩ kU kH kTk kLen kFacts kInv kFr kNews
    have kMark := kstMark
    dsimp only [kstB] at kFr
    dsimp only at kNews kFacts kInv
    obtain ⟨fpre, kInv⟩ := kInv
    have q0 := kInv.pads0
    subst q0
    have q1 := kInv.len
    have q2 := kInv.pos
    have q5 := kInv.isIn
    have q6 := kFacts.length
    have q8 := map_tab_inj hfs kInv.figs kInv.same
    simp only [List.length_map] at q1 q2
    have q7 : qp = 0 := by omega
    subst q7
    subst q8
    try k_fold
    w_strict k_steps
    all_goals (exact hret _ _ _ (by k_asm) (news_kept N (by assumption)) (Fr.keep (by assumption)) (ex_bytes (by rw [decL, kInv.eq])))
end
section
theorem from_bytes_c (w : World) (b : Array UInt8) (t : Tok) :
    Ctr w 29 2 [.bytes b t] [] (fun _ => True) (fun r _ _ => r = .bytes b t) := by
  k_with_none
  w_on
  unfold Ctr
  k_fill
  intro mean mg mb dp un gd cn cs aa ccd cl outer A₀ base h₀ L m news s Q E B F X N T hk hdp hu hyp hret
  refine wpAny_call ?_
  k_dflt (refine' enter0 (binds := [(Str.ofString "s", .bytes b t)]) ?k1 ?k2 ?k3 ?k5 ?kA ?kF ?kK ?k6 ?k7 ?k8 ?k9 ?kB ?_ ?c2 ?c3 ?c4 ?c5; (case kA => exact rfl); (case kF => exact rfl); (case kK => assumption); (case k1 => k_asm); (case k2 => k_asm); (case k3 => k_asm); (case k5 => k_asm); (case k6 => k_is); (case k7 => k_is); (case k8 => ktr_room); (case k9 => first | exact BindsTo.of_eq rfl | exact binds_K (by k_in) rfl (by k_is) rfl rfl rfl); (case c5 => decide); (case kB => exact locs rfl); (case c2 => exact rfl); (case c3 => exact rfl); (case c4 => exact rfl); k_whole; intro L' h' F' N' B' X' T'; (try dsimp only); (try k_fold))
  w_strict k_steps
  all_goals (exact hret _ _ _ (by k_asm) (news_kept N (by assumption)) (Fr.keep (by assumption)) rfl)
theorem from_str_c (w : World) (sw : Bool) (fs : List Int) (t : Tok) (hfs : Figs fs) (hl : fs.length ≤ 100) (hn : 0 < fs.length) :
    Ctr w 29 2 [.str (txt sw fs) t] [] (fun _ => True) (fun r _ _ => ∃ t', r = .bytes (byteArr (fs.map (atab sw))) t') := by
  k_with_none
  k_with "getMethod str" => (k_here; (with_reducible refine method_encode ?_))
  k_with "call builtin:str.encode" => (k_here; k_dflt (refine call_encode (by exact txt_low _ (by assumption)) (by (rw [txt_size]; assumption)) (by (rw [txt_size, sizeLine_eq]; omega)) ?_); intro _ _)
  w_on
  unfold Ctr
  k_fill
  intro mean mg mb dp un gd cn cs aa ccd cl outer A₀ base h₀ L m news s Q E B F X N T hk hdp hu hyp hret
  refine wpAny_call ?_
  k_dflt (refine' enter0 (binds := [(Str.ofString "s", .str (txt sw fs) t)]) ?k1 ?k2 ?k3 ?k5 ?kA ?kF ?kK ?k6 ?k7 ?k8 ?k9 ?kB ?_ ?c2 ?c3 ?c4 ?c5; (case kA => exact rfl); (case kF => exact rfl); (case kK => assumption); (case k1 => k_asm); (case k2 => k_asm); (case k3 => k_asm); (case k5 => k_asm); (case k6 => k_is); (case k7 => k_is); (case k8 => ktr_room); (case k9 => first | exact BindsTo.of_eq rfl | exact binds_K (by k_in) rfl (by k_is) rfl rfl rfl); (case c5 => decide); (case kB => exact locs rfl); (case c2 => exact rfl); (case c3 => exact rfl); (case c4 => exact rfl); k_whole; intro L' h' F' N' B' X' T'; (try dsimp only); (try k_fold))
  w_strict k_steps
  all_goals (exact hret _ _ _ (by k_asm) (news_kept N (by assumption)) (Fr.keep (by assumption)) (ex_bytesA (txt_bytes _ _)))
theorem len_alt2 {prog : Program} {w : World} {A : Around} {E : Value → Shared → Prop} {s : Shared} {Q : Value → Shared → Prop} {sw : Bool} {t : Tok} (h : ∀ t' k, Q (.int 2 t') { s with toks := k }) : wpAny (model prog w) A (call (.builtin "len") [.bytes (altA sw) t]) Q E s :=
  KBw.len_K (altA_ints sw) (by rw [altL_len]; decide) (by rw [altL_len]; exact h _ _)
theorem dec_c (w : World) (sw : Bool) (fs : List Int) (t1 t2 : Tok) (hfs : Figs fs) (hl : fs.length ≤ 100) (hn : 0 < fs.length) (h4 : fs.length % 4 = 0) :
    Ctr w 102 8 [.str (txt sw fs) t1, .bytes (altA sw) t2] [] (fun _ => True) (fun r _ _ => ∃ t, r = .bytes (byteArr (decL fs)) t) := by
  k_with_none
  k_with "getMethod str" => (k_here; (with_reducible refine method_encode ?_))
  k_with "call builtin:str.encode" => (k_here; k_dflt (refine call_encode (by exact txt_low _ (by assumption)) (by (rw [txt_size]; assumption)) (by (rw [txt_size, sizeLine_eq]; omega)) ?_); intro _ _)
  k_with "getMethod type:bytes" => (k_here; k_dflt (refine method_maketrans (by k_asm) (by k_asm) (by k_is) ?_))
  k_with "getMethod bytes" => (k_here; (with_reducible refine method_translate ?_))
  k_with "call builtin:len" => (k_here; (with_reducible refine len_alt2 ?_); intro _ _)
  k_with "call builtin:bytes.maketrans" => (k_here; k_dflt (refine call_maketrans (by (rw [altA_size]; rfl)) (by (rw [trans_size]; decide)) ?_); intro tb9 t9 k9 eT9)
  k_with "call builtin:bytes.translate" => (k_here; k_dflt (refine call_translate (by (rename (_ = trans _ _) => eT8; rw [eT8]; exact trans_size _ _)) (by (rw [byteArr_size, List.length_map, sizeLine_eq]; omega)) ?_); intro t9 k9; (rename (_ = trans _ _) => eT8); rw [eT8, trans_from _ (by assumption)])
  k_with "call ref" => (k_here; k_dflt (refine Ctr.use (from_bytes_c _ _ _) (by k_asm) (by k_asm) (by k_asm) (by k_asm) (by k_asm) (by first | exact rfl | assumption) (by ktr_room) (by ktr_units) (by exact trivial) ?_; intro r9 h9 tk9 F9 N9 K9 O9; subst O9; (try dsimp only); (try k_sweep)))
  k_with "call ref" => (k_here; k_dflt (first | refine Ctr.use (from_str_c _ _ _ _ (by assumption) (by assumption) (by omega)) (by k_asm) (by k_asm) (by k_asm) (by k_asm) (by k_asm) (by first | exact rfl | assumption) (by ktr_room) (by ktr_units) (by exact trivial) ?_ | refine Ctr.use (a2b_c _ _ _ (by assumption) (by assumption) (by assumption)) (by k_asm) (by k_asm) (by k_asm) (by k_asm) (by k_asm) (by first | exact rfl | assumption) (by ktr_room) (by ktr_units) (by exact trivial) ?_); intro r9 h9 tk9 F9 N9 K9 O9; obtain ⟨t9, O9⟩ := O9; subst O9; (try dsimp only); (try k_sweep))
  w_on
  unfold Ctr
  k_fill
  intro mean mg mb dp un gd cn cs aa ccd cl outer A₀ base h₀ L m news s Q E B F X N T hk hdp hu hyp hret
  refine wpAny_call ?_
  k_dflt (refine' enter0 (binds := [(Str.ofString "s", .str (txt sw fs) t1), (Str.ofString "altchars", .bytes (altA sw) t2), (Str.ofString "validate", .bool false)]) ?k1 ?k2 ?k3 ?k5 ?kA ?kF ?kK ?k6 ?k7 ?k8 ?k9 ?kB ?_ ?c2 ?c3 ?c4 ?c5; (case kA => exact rfl); (case kF => exact rfl); (case kK => assumption); (case k1 => k_asm); (case k2 => k_asm); (case k3 => k_asm); (case k5 => k_asm); (case k6 => k_is); (case k7 => k_is); (case k8 => ktr_room); (case k9 => first | exact BindsTo.of_eq rfl | exact binds_K (by k_in) rfl (by k_is) rfl rfl rfl); (case c5 => decide); (case kB => exact locs rfl); (case c2 => exact rfl); (case c3 => exact rfl); (case c4 => exact rfl); k_whole; intro L' h' F' N' B' X' T'; (try dsimp only); (try k_fold))
  w_strict k_steps
  all_goals (exact hret _ _ _ (by k_asm) (news_kept N (by assumption)) (Fr.keep (by assumption)) ⟨_, rfl⟩)
end
section
noncomputable def escS (x : Str) : Str := repS 62 (Str.ofString "&gt;").cps.toList (repS 60 (Str.ofString "&lt;").cps.toList x)
noncomputable def Plainly (x : Str) : Prop := 38 ∉ x.cps.toList ∧ 34 ∉ x.cps.toList ∧ 13 ∉ x.cps.toList ∧ 10 ∉ x.cps.toList ∧ 9 ∉ x.cps.toList
theorem lt_is : (Str.ofString "&lt;").cps.toList = [38, 108, 116, 59] := by decide
theorem gt_is : (Str.ofString "&gt;").cps.toList = [38, 103, 116, 59] := by decide
theorem sz_ok {x z : Str} (h : x.length ≤ 1000) (hz : z.length ≤ 4 := by decide) : x.length + (x.length + 1) * z.length ≤ 16777216 := by
  have := Nat.mul_le_mul_left (x.length + 1) hz
  omega
theorem sz_rep {x : Str} (h : x.length ≤ 100) : (repS 60 (Str.ofString "&lt;").cps.toList x).length ≤ 1000 := by
  have := rep_len 60 (Str.ofString "&lt;").cps.toList x
  rw [lt_is] at this ⊢
  simp only [List.length_cons, List.length_nil] at this
  omega
theorem esc_2 {x : Str} (h : 62 ∉ (repS 60 (Str.ofString "&lt;").cps.toList x).cps.toList) : repS 60 (Str.ofString "&lt;").cps.toList x = escS x := (repS_none h).symm
theorem esc_3 {x : Str} (h : 60 ∉ x.cps.toList) : repS 62 (Str.ofString "&gt;").cps.toList x = escS x := by rw [escS, repS_none h]
theorem esc_4 {x : Str} (h : 60 ∉ x.cps.toList) (h' : 62 ∉ x.cps.toList) : x = escS x := by rw [escS, repS_none h, repS_none h']
theorem cdata_c (w : World) (x : Str) (t : Tok) (hl : x.length ≤ 100) (hp : Plainly x) :
    Ctr w 125 2 [.str x t] [] (fun _ => True) (fun r _ _ => ∃ t, r = .str (escS x) t) := by
  k_with_none
  k_with "callWith" => (k_here; (with_reducible show wpAny _ _ (callWith _ _ (Prod.snd _) _ _) _ _ _); with_reducible refine PyProof.Rows.callWith_method1 ?_ (by k_dflt rfl) (by k_dflt rfl))
  k_with "execs cons" => (k_here; first | k_gentoks | (with_reducible refine wpAny_execs_cons ?_; (try dsimp only)))
  k_with "execs cons" => (k_here; (with_reducible show wpAny _ _ _ _ _ (Shared.mk _ _ _ (_ + 1) _)); refine toks_pos (Nat.succ_pos _) ?_; intro tk9 hk9; (try dsimp only))
  k_with "compareOp In str str" => (k_here; first | (with_reducible refine in_no lit_amp (by first | assumption | exact notin_rep (by rw [lt_is]; decide) (by assumption) | exact notin_rep (by rw [gt_is]; decide) (by assumption) | exact notin_rep (by rw [gt_is]; decide) (notin_rep (by rw [lt_is]; decide) (by assumption))) ?_) | (with_reducible refine in_no lit_quot (by first | assumption | exact notin_rep (by rw [lt_is]; decide) (by assumption) | exact notin_rep (by rw [gt_is]; decide) (by assumption) | exact notin_rep (by rw [gt_is]; decide) (notin_rep (by rw [lt_is]; decide) (by assumption))) ?_) | (with_reducible refine in_no lit_cr (by first | assumption | exact notin_rep (by rw [lt_is]; decide) (by assumption) | exact notin_rep (by rw [gt_is]; decide) (by assumption) | exact notin_rep (by rw [gt_is]; decide) (notin_rep (by rw [lt_is]; decide) (by assumption))) ?_) | (with_reducible refine in_no lit_nl (by first | assumption | exact notin_rep (by rw [lt_is]; decide) (by assumption) | exact notin_rep (by rw [gt_is]; decide) (by assumption) | exact notin_rep (by rw [gt_is]; decide) (notin_rep (by rw [lt_is]; decide) (by assumption))) ?_) | (with_reducible refine in_no lit_tab (by first | assumption | exact notin_rep (by rw [lt_is]; decide) (by assumption) | exact notin_rep (by rw [gt_is]; decide) (by assumption) | exact notin_rep (by rw [gt_is]; decide) (notin_rep (by rw [lt_is]; decide) (by assumption))) ?_) | (with_reducible refine in_yes lit_lt ?_) | (with_reducible refine in_yes lit_gt ?_))
  k_with "call builtin:str.replace" => (k_here; (first | ((with_unfolding_all show wpAny _ _ (call (Value.builtin "str.replace") [Value.str _ _, Value.str (Str.ofString "<") _, Value.str (Str.ofString "&lt;") _]) _ _ _); k_dflt (refine call_rep (y := Str.ofString "<") (z := Str.ofString "&lt;") lit_lt (by k_ne) (by k_ne) (by k_ne) ne_lt (by exact sz_ok (by first | omega | exact sz_rep (by omega))) (by (dsimp only; omega)) ?_)) | ((with_unfolding_all show wpAny _ _ (call (Value.builtin "str.replace") [Value.str _ _, Value.str (Str.ofString ">") _, Value.str (Str.ofString "&gt;") _]) _ _ _); k_dflt (refine call_rep (y := Str.ofString ">") (z := Str.ofString "&gt;") lit_gt (by k_ne) (by k_ne) (by k_ne) ne_gt (by exact sz_ok (by first | omega | exact sz_rep (by omega))) (by (dsimp only; omega)) ?_))); intro t9 k9 hk9)
  w_on
  unfold Ctr
  k_fill
  intro mean mg mb dp un gd cn cs aa ccd cl outer A₀ base h₀ L m news s Q E B F X N T hk hdp hu hyp hret
  obtain ⟨p1, p2, p3, p4, p5⟩ := hp
  refine wpAny_call ?_
  k_dflt (refine' enter0 (binds := [(Str.ofString "text", .str x t)]) ?k1 ?k2 ?k3 ?k5 ?kA ?kF ?kK ?k6 ?k7 ?k8 ?k9 ?kB ?_ ?c2 ?c3 ?c4 ?c5; (case kA => exact rfl); (case kF => exact rfl); (case kK => assumption); (case k1 => k_asm); (case k2 => k_asm); (case k3 => k_asm); (case k5 => k_asm); (case k6 => k_is); (case k7 => k_is); (case k8 => ktr_room); (case k9 => first | exact BindsTo.of_eq rfl | exact binds_K (by k_in) rfl (by k_is) rfl rfl rfl); (case c5 => decide); (case kB => exact locs rfl); (case c2 => exact rfl); (case c3 => exact rfl); (case c4 => exact rfl); k_whole; intro L' h' F' N' B' X' T'; (try dsimp only); (try k_fold))
  refine toks_pos (Nat.succ_pos _) ?_
  intro tk0 htk0
  dsimp only
  w_strict k_steps
  all_goals (refine hret _ _ _ (by k_asm) (news_kept N (by assumption)) (Fr.keep (by assumption)) ?_; w_strict (first | exact ex_str rfl | exact ex_str (esc_2 (by assumption)) | exact ex_str (esc_3 (by assumption)) | exact ex_str (esc_4 (by assumption) (by assumption))))
theorem c14n_c (w : World) (x : Str) (t : Tok) (hl : x.length ≤ 100) (hp : Plainly x) :
    Ctr w 139 2 [.str x t] [] (fun _ => True) (fun r _ _ => ∃ t, r = .str (escS x) t) := by
  k_with_none
  k_with "callWith" => (k_here; (with_reducible show wpAny _ _ (callWith _ _ (Prod.snd _) _ _) _ _ _); with_reducible refine PyProof.Rows.callWith_method1 ?_ (by k_dflt rfl) (by k_dflt rfl))
  k_with "execs cons" => (k_here; first | k_gentoks | (with_reducible refine wpAny_execs_cons ?_; (try dsimp only)))
  k_with "execs cons" => (k_here; (with_reducible show wpAny _ _ _ _ _ (Shared.mk _ _ _ (_ + 1) _)); refine toks_pos (Nat.succ_pos _) ?_; intro tk9 hk9; (try dsimp only))
  k_with "compareOp In str str" => (k_here; first | (with_reducible refine in_no lit_amp (by first | assumption | exact notin_rep (by rw [lt_is]; decide) (by assumption) | exact notin_rep (by rw [gt_is]; decide) (by assumption) | exact notin_rep (by rw [gt_is]; decide) (notin_rep (by rw [lt_is]; decide) (by assumption))) ?_) | (with_reducible refine in_no lit_quot (by first | assumption | exact notin_rep (by rw [lt_is]; decide) (by assumption) | exact notin_rep (by rw [gt_is]; decide) (by assumption) | exact notin_rep (by rw [gt_is]; decide) (notin_rep (by rw [lt_is]; decide) (by assumption))) ?_) | (with_reducible refine in_no lit_cr (by first | assumption | exact notin_rep (by rw [lt_is]; decide) (by assumption) | exact notin_rep (by rw [gt_is]; decide) (by assumption) | exact notin_rep (by rw [gt_is]; decide) (notin_rep (by rw [lt_is]; decide) (by assumption))) ?_) | (with_reducible refine in_no lit_nl (by first | assumption | exact notin_rep (by rw [lt_is]; decide) (by assumption) | exact notin_rep (by rw [gt_is]; decide) (by assumption) | exact notin_rep (by rw [gt_is]; decide) (notin_rep (by rw [lt_is]; decide) (by assumption))) ?_) | (with_reducible refine in_no lit_tab (by first | assumption | exact notin_rep (by rw [lt_is]; decide) (by assumption) | exact notin_rep (by rw [gt_is]; decide) (by assumption) | exact notin_rep (by rw [gt_is]; decide) (notin_rep (by rw [lt_is]; decide) (by assumption))) ?_) | (with_reducible refine in_yes lit_lt ?_) | (with_reducible refine in_yes lit_gt ?_))
  k_with "call builtin:str.replace" => (k_here; (first | ((with_unfolding_all show wpAny _ _ (call (Value.builtin "str.replace") [Value.str _ _, Value.str (Str.ofString "<") _, Value.str (Str.ofString "&lt;") _]) _ _ _); k_dflt (refine call_rep (y := Str.ofString "<") (z := Str.ofString "&lt;") lit_lt (by k_ne) (by k_ne) (by k_ne) ne_lt (by exact sz_ok (by first | omega | exact sz_rep (by omega))) (by (dsimp only; omega)) ?_)) | ((with_unfolding_all show wpAny _ _ (call (Value.builtin "str.replace") [Value.str _ _, Value.str (Str.ofString ">") _, Value.str (Str.ofString "&gt;") _]) _ _ _); k_dflt (refine call_rep (y := Str.ofString ">") (z := Str.ofString "&gt;") lit_gt (by k_ne) (by k_ne) (by k_ne) ne_gt (by exact sz_ok (by first | omega | exact sz_rep (by omega))) (by (dsimp only; omega)) ?_))); intro t9 k9 hk9)
  w_on
  unfold Ctr
  k_fill
  intro mean mg mb dp un gd cn cs aa ccd cl outer A₀ base h₀ L m news s Q E B F X N T hk hdp hu hyp hret
  obtain ⟨p1, p2, p3, p4, p5⟩ := hp
  refine wpAny_call ?_
  k_dflt (refine' enter0 (binds := [(Str.ofString "text", .str x t)]) ?k1 ?k2 ?k3 ?k5 ?kA ?kF ?kK ?k6 ?k7 ?k8 ?k9 ?kB ?_ ?c2 ?c3 ?c4 ?c5; (case kA => exact rfl); (case kF => exact rfl); (case kK => assumption); (case k1 => k_asm); (case k2 => k_asm); (case k3 => k_asm); (case k5 => k_asm); (case k6 => k_is); (case k7 => k_is); (case k8 => ktr_room); (case k9 => first | exact BindsTo.of_eq rfl | exact binds_K (by k_in) rfl (by k_is) rfl rfl rfl); (case c5 => decide); (case kB => exact locs rfl); (case c2 => exact rfl); (case c3 => exact rfl); (case c4 => exact rfl); k_whole; intro L' h' F' N' B' X' T'; (try dsimp only); (try k_fold))
  refine toks_pos (Nat.succ_pos _) ?_
  intro tk0 htk0
  dsimp only
  w_strict k_steps
  all_goals (refine hret _ _ _ (by k_asm) (news_kept N (by assumption)) (Fr.keep (by assumption)) ?_; w_strict (first | exact ex_str rfl | exact ex_str (esc_2 (by assumption)) | exact ex_str (esc_3 (by assumption)) | exact ex_str (esc_4 (by assumption) (by assumption))))
theorem attrib_c (w : World) (x : Str) (t : Tok) (hl : x.length ≤ 100) (hp : Plainly x) :
    Ctr w 132 2 [.str x t] [] (fun _ => True) (fun r _ _ => ∃ t, r = .str (escS x) t) := by
  k_with_none
  k_with "callWith" => (k_here; (with_reducible show wpAny _ _ (callWith _ _ (Prod.snd _) _ _) _ _ _); with_reducible refine PyProof.Rows.callWith_method1 ?_ (by k_dflt rfl) (by k_dflt rfl))
  k_with "execs cons" => (k_here; first | k_gentoks | (with_reducible refine wpAny_execs_cons ?_; (try dsimp only)))
  k_with "execs cons" => (k_here; (with_reducible show wpAny _ _ _ _ _ (Shared.mk _ _ _ (_ + 1) _)); refine toks_pos (Nat.succ_pos _) ?_; intro tk9 hk9; (try dsimp only))
  k_with "compareOp In str str" => (k_here; first | (with_reducible refine in_no lit_amp (by first | assumption | exact notin_rep (by rw [lt_is]; decide) (by assumption) | exact notin_rep (by rw [gt_is]; decide) (by assumption) | exact notin_rep (by rw [gt_is]; decide) (notin_rep (by rw [lt_is]; decide) (by assumption))) ?_) | (with_reducible refine in_no lit_quot (by first | assumption | exact notin_rep (by rw [lt_is]; decide) (by assumption) | exact notin_rep (by rw [gt_is]; decide) (by assumption) | exact notin_rep (by rw [gt_is]; decide) (notin_rep (by rw [lt_is]; decide) (by assumption))) ?_) | (with_reducible refine in_no lit_cr (by first | assumption | exact notin_rep (by rw [lt_is]; decide) (by assumption) | exact notin_rep (by rw [gt_is]; decide) (by assumption) | exact notin_rep (by rw [gt_is]; decide) (notin_rep (by rw [lt_is]; decide) (by assumption))) ?_) | (with_reducible refine in_no lit_nl (by first | assumption | exact notin_rep (by rw [lt_is]; decide) (by assumption) | exact notin_rep (by rw [gt_is]; decide) (by assumption) | exact notin_rep (by rw [gt_is]; decide) (notin_rep (by rw [lt_is]; decide) (by assumption))) ?_) | (with_reducible refine in_no lit_tab (by first | assumption | exact notin_rep (by rw [lt_is]; decide) (by assumption) | exact notin_rep (by rw [gt_is]; decide) (by assumption) | exact notin_rep (by rw [gt_is]; decide) (notin_rep (by rw [lt_is]; decide) (by assumption))) ?_) | (with_reducible refine in_yes lit_lt ?_) | (with_reducible refine in_yes lit_gt ?_))
  k_with "call builtin:str.replace" => (k_here; (first | ((with_unfolding_all show wpAny _ _ (call (Value.builtin "str.replace") [Value.str _ _, Value.str (Str.ofString "<") _, Value.str (Str.ofString "&lt;") _]) _ _ _); k_dflt (refine call_rep (y := Str.ofString "<") (z := Str.ofString "&lt;") lit_lt (by k_ne) (by k_ne) (by k_ne) ne_lt (by exact sz_ok (by first | omega | exact sz_rep (by omega))) (by (dsimp only; omega)) ?_)) | ((with_unfolding_all show wpAny _ _ (call (Value.builtin "str.replace") [Value.str _ _, Value.str (Str.ofString ">") _, Value.str (Str.ofString "&gt;") _]) _ _ _); k_dflt (refine call_rep (y := Str.ofString ">") (z := Str.ofString "&gt;") lit_gt (by k_ne) (by k_ne) (by k_ne) ne_gt (by exact sz_ok (by first | omega | exact sz_rep (by omega))) (by (dsimp only; omega)) ?_))); intro t9 k9 hk9)
  w_on
  unfold Ctr
  k_fill
  intro mean mg mb dp un gd cn cs aa ccd cl outer A₀ base h₀ L m news s Q E B F X N T hk hdp hu hyp hret
  obtain ⟨p1, p2, p3, p4, p5⟩ := hp
  refine wpAny_call ?_
  k_dflt (refine' enter0 (binds := [(Str.ofString "text", .str x t)]) ?k1 ?k2 ?k3 ?k5 ?kA ?kF ?kK ?k6 ?k7 ?k8 ?k9 ?kB ?_ ?c2 ?c3 ?c4 ?c5; (case kA => exact rfl); (case kF => exact rfl); (case kK => assumption); (case k1 => k_asm); (case k2 => k_asm); (case k3 => k_asm); (case k5 => k_asm); (case k6 => k_is); (case k7 => k_is); (case k8 => ktr_room); (case k9 => first | exact BindsTo.of_eq rfl | exact binds_K (by k_in) rfl (by k_is) rfl rfl rfl); (case c5 => decide); (case kB => exact locs rfl); (case c2 => exact rfl); (case c3 => exact rfl); (case c4 => exact rfl); k_whole; intro L' h' F' N' B' X' T'; (try dsimp only); (try k_fold))
  refine toks_pos (Nat.succ_pos _) ?_
  intro tk0 htk0
  dsimp only
  w_strict k_steps
  all_goals (refine hret _ _ _ (by k_asm) (news_kept N (by assumption)) (Fr.keep (by assumption)) ?_; w_strict (first | exact ex_str rfl | exact ex_str (esc_2 (by assumption)) | exact ex_str (esc_3 (by assumption)) | exact ex_str (esc_4 (by assumption) (by assumption))))
end
section
theorem txt_plainly (sw : Bool) {fs : List Int} (h : Figs fs) : Plainly (txt sw fs) := by
  have key : ∀ c ∈ (txt sw fs).cps.toList, 48 ≤ c ∨ c = 60 ∨ c = 62 := by
    intro c hc
    unfold txt at hc
    simp only [List.mem_map] at hc
    obtain ⟨v, hv, rfl⟩ := hc
    rcases atab_cases sw v (h v hv).1 (h v hv).2 with ⟨_, _, c⟩ | ⟨_, _, c⟩ | ⟨_, c, d, _⟩
    · rw [c]; cases sw <;> decide
    · rw [c]; cases sw <;> decide
    · rw [c]; omega
  exact ⟨fun q => by have := key _ q; omega, fun q => by have := key _ q; omega, fun q => by have := key _ q; omega, fun q => by have := key _ q; omega, fun q => by have := key _ q; omega⟩
theorem txt_short (sw : Bool) {fs : List Int} (h : fs.length ≤ 100) : (txt sw fs).length ≤ 100 := by
  show (txt sw fs).cps.size ≤ 100
  rw [txt_size]; exact h
/-- decode('ascii') of a row's bytes -/
theorem call_decode_txt {prog : Program} {w : World} {A : Around} {E : Value → Shared → Prop} {s : Shared} {Q : Value → Shared → Prop} {sw : Bool} {fs : List Int} {t u : Tok} (hf : Figs fs) (hn : 0 < fs.length) (hl : fs.length ≤ 100)
    (hQ : ∀ t' k, Q (.str (txt sw fs) t') { s with toks := k }) : wpAny (model prog w) A (call (.builtin "bytes.decode") [.bytes (byteArr (fs.map (atab sw))) t, .str (Str.ofString "ascii") u]) Q E s := by
  have hb := bytes_low sw hf
  have e := bytes_txt sw hf
  cases fs with
  | nil => simp at hn
  | cons v r =>
    refine call_decode hb ?_ fun t' k => ?_
    · show (byteArr ((v :: r).map (atab sw))).size ≤ _
      rw [byteArr_size, List.length_map, sizeLine_eq]; omega
    · have := hQ t' k
      have e2 : (⟨(byteArr ((v :: r).map (atab sw))).map (·.toNat)⟩ : Str) = txt sw (v :: r) := congrArg Str.mk e
      rw [← e2] at this
      exact this
theorem wri_c (w : World) (sw : Bool) (ns fs : List Int) (wr : Int) (t1 t2 t3 : Tok) (hns : KBa.In ns) (hl : ns.length ≤ 100) (h3 : ns.length % 3 = 0) (hE : encL ns = fs.map tab) (hfs : Figs fs) (hn : 0 < fs.length) (hl2 : fs.length ≤ 100) :
    Ctr w 153 12 [.bytes (byteArr ns) t1, .bytes (altA sw) t2, .int wr t3] [] (fun _ => True) (fun r _ _ => ∃ t, r = .str (escS (txt sw fs)) t) := by
  k_with_none
  k_with "callWith" => (k_here; (with_reducible show wpAny _ _ (callWith _ _ (Prod.snd _) _ _) _ _ _); with_reducible refine PyProof.Rows.callWith_method1 ?_ (by k_dflt rfl) (by k_dflt rfl))
  k_with "execs cons" => (k_here; first | k_gentoks | (with_reducible refine wpAny_execs_cons ?_; (try dsimp only)))
  k_with "call builtin:bytes.decode" => (k_here; k_dflt (refine call_decode_txt (by assumption) (by assumption) (by assumption) ?_); intro _ _)
  k_with "call ref" => (k_here; k_dflt (first | refine Ctr.use (cdata_c _ _ _ (by exact txt_short _ (by assumption)) (txt_plainly _ (by assumption))) (by k_asm) (by k_asm) (by k_asm) (by k_asm) (by k_asm) (by first | exact rfl | assumption) (by ktr_room) (by ktr_units) (by exact trivial) ?_ | refine Ctr.use (c14n_c _ _ _ (by exact txt_short _ (by assumption)) (txt_plainly _ (by assumption))) (by k_asm) (by k_asm) (by k_asm) (by k_asm) (by k_asm) (by first | exact rfl | assumption) (by ktr_room) (by ktr_units) (by exact trivial) ?_ | refine Ctr.use (attrib_c _ _ _ (by exact txt_short _ (by assumption)) (txt_plainly _ (by assumption))) (by k_asm) (by k_asm) (by k_asm) (by k_asm) (by k_asm) (by first | exact rfl | assumption) (by ktr_room) (by ktr_units) (by exact trivial) ?_); intro r9 h9 tk9 F9 N9 K9 O9; obtain ⟨t9, O9⟩ := O9; subst O9; (try dsimp only); (try k_sweep))
  k_with "call ref" => (k_here; k_dflt (refine Ctr.use (enc_c _ _ _ _ _ (by assumption) (by assumption) (by assumption)) (by k_asm) (by k_asm) (by k_asm) (by k_asm) (by k_asm) (by first | exact rfl | assumption) (by ktr_room) (by ktr_units) (by exact trivial) ?_); intro r9 h9 tk9 F9 N9 K9 O9; obtain ⟨t9, O9⟩ := O9; (rename (encL _ = _) => eE9); rw [eE9, trans_to _ (by assumption)] at O9; subst O9; (try dsimp only); (try k_sweep))
  w_on
  unfold Ctr
  k_fill
  intro mean mg mb dp un gd cn cs aa ccd cl outer A₀ base h₀ L m news s Q E B F X N T hk hdp hu hyp hret
  refine wpAny_call ?_
  k_dflt (refine' enter0 (binds := [(Str.ofString "octets", .bytes (byteArr ns) t1), (Str.ofString "altchars", .bytes (altA sw) t2), (Str.ofString "writer", .int wr t3)]) ?k1 ?k2 ?k3 ?k5 ?kA ?kF ?kK ?k6 ?k7 ?k8 ?k9 ?kB ?_ ?c2 ?c3 ?c4 ?c5; (case kA => exact rfl); (case kF => exact rfl); (case kK => assumption); (case k1 => k_asm); (case k2 => k_asm); (case k3 => k_asm); (case k5 => k_asm); (case k6 => k_is); (case k7 => k_is); (case k8 => ktr_room); (case k9 => first | exact BindsTo.of_eq rfl | exact binds_K (by k_in) rfl (by k_is) rfl rfl rfl); (case c5 => decide); (case kB => exact locs rfl); (case c2 => exact rfl); (case c3 => exact rfl); (case c4 => exact rfl); k_whole; intro L' h' F' N' B' X' T'; (try dsimp only); (try k_fold))
  w_strict k_steps
  all_goals (exact hret _ _ _ (by k_asm) (news_kept N (by assumption)) (Fr.keep (by assumption)) ⟨_, rfl⟩)
end
section
noncomputable def markIn (p : Str) : Bool := [Str.ofString "lt;", Str.ofString "gt;"].any fun x => x == Txt.slice p none (some 3)
noncomputable def markF (sur low : Int) (p : Str) : Int × Int :=
  if markIn p = true then
    (if (Txt.slice p none (some 3) == Str.ofString "lt;") = true then (sur + 1, if sur + 1 < low then sur + 1 else low) else (sur - 1, if sur - 1 < low then sur - 1 else low))
  else (sur - 100, low - 100)
section
variable {sur low : Int} {p : Str}
theorem mf1 (h1 : ([Str.ofString "lt;", Str.ofString "gt;"].any fun x => x == Txt.slice p none (some 3)) = true) (h2 : (Txt.slice p none (some 3) == Str.ofString "lt;") = true) (h3 : sur + 1 < low) : markF sur low p = (sur + 1, sur + 1) := by
  unfold markF markIn; rw [if_pos h1, if_pos h2, if_pos h3]
theorem mf2 (h1 : ([Str.ofString "lt;", Str.ofString "gt;"].any fun x => x == Txt.slice p none (some 3)) = true) (h2 : (Txt.slice p none (some 3) == Str.ofString "lt;") = true) (h3 : ¬ sur + 1 < low) : markF sur low p = (sur + 1, low) := by
  unfold markF markIn; rw [if_pos h1, if_pos h2, if_neg h3]
theorem mf3 (h1 : ([Str.ofString "lt;", Str.ofString "gt;"].any fun x => x == Txt.slice p none (some 3)) = true) (h2 : (Txt.slice p none (some 3) == Str.ofString "lt;") = false) (h3 : sur - 1 < low) : markF sur low p = (sur - 1, sur - 1) := by
  unfold markF markIn; rw [if_pos h1, if_neg (by rw [h2]; exact Bool.false_ne_true), if_pos h3]
theorem mf4 (h1 : ([Str.ofString "lt;", Str.ofString "gt;"].any fun x => x == Txt.slice p none (some 3)) = true) (h2 : (Txt.slice p none (some 3) == Str.ofString "lt;") = false) (h3 : ¬ sur - 1 < low) : markF sur low p = (sur - 1, low) := by
  unfold markF markIn; rw [if_pos h1, if_neg (by rw [h2]; exact Bool.false_ne_true), if_neg h3]
theorem mf5 (h1 : ([Str.ofString "lt;", Str.ofString "gt;"].any fun x => x == Txt.slice p none (some 3)) = false) : markF sur low p = (sur - 100, low - 100) := by
  unfold markF markIn; rw [if_neg (by rw [h1]; exact Bool.false_ne_true)]
end
noncomputable def tupOf (x y : Int) (t3 t4 : Tok) : Obj := { cls := .type "tuple", data := .seq [Value.int x t3, .int y t4].toArray }
noncomputable def IsPair (g h : Heap) (r : Value) (q : Int × Int) : Prop := ∃ a' t3 t4, r = .ref a' ∧ g.get? a' = none ∧ h.get? a' = some (tupOf q.1 q.2 t3 t4)
theorem pair_end {g h' : Heap} {L' D : Addr} {x y : Int} {t3 t4 : Tok} {r : List (Addr × Obj)} {q : Int × Int} (N : News g L' h' ((D, { cls := .type "tuple", data := .seq [Value.int x t3, .int y t4].toArray }) :: r)) (hq : q = (x, y)) : IsPair g h' (.ref D) q := by
  subst hq
  exact ⟨D, t3, t4, rfl, (N _ (.head _)).2.2, (N _ (.head _)).1⟩
theorem mark_c (w : World) (a : Addr) (sur low : Int) (t1 t2 : Tok) (p : Str) (t : Tok) (hl : p.length ≤ 1000) :
    Ctr w 160 2 [.ref a, .str p t] [] (fun h => IsTup h a [Value.int sur t1, Value.int low t2].toArray) (fun r h h' => IsPair h h' r (markF sur low p)) := by
  k_with_none
  k_with "subscriptTail" => (k_here; (with_reducible show wpAny _ _ (subscriptTail _ _ (Value.ref _) (Value.int _ _)) _ _ _); k_dflt (refine item_tupleT (by first | exact Fr.tup (by k_asm) (by assumption) | exact News.isTup (by k_asm) (by k_mem)) (by decide) (by decide) rfl rfl ?_; k_whole))
  w_on
  unfold Ctr
  k_fill
  intro mean mg mb dp un gd cn cs aa ccd cl outer A₀ base h₀ L m news s Q E B F X N T hk hdp hu hyp hret
  refine wpAny_call ?_
  k_dflt (refine' enter0 (binds := [(Str.ofString "state", .ref a), (Str.ofString "piece", .str p t)]) ?k1 ?k2 ?k3 ?k5 ?kA ?kF ?kK ?k6 ?k7 ?k8 ?k9 ?kB ?_ ?c2 ?c3 ?c4 ?c5; (case kA => exact rfl); (case kF => exact rfl); (case kK => assumption); (case k1 => k_asm); (case k2 => k_asm); (case k3 => k_asm); (case k5 => k_asm); (case k6 => k_is); (case k7 => k_is); (case k8 => ktr_room); (case k9 => first | exact BindsTo.of_eq rfl | exact binds_K (by k_in) rfl (by k_is) rfl rfl rfl); (case c5 => decide); (case kB => exact locs rfl); (case c2 => exact rfl); (case c3 => exact rfl); (case c4 => exact rfl); k_whole; intro L' h' F' N' B' X' T'; (try dsimp only); (try k_fold))
  w_strict k_steps
  all_goals (refine hret _ _ _ (by k_asm) (news_kept N (by assumption)) (Fr.keep (by assumption)) ?_; (rename News _ _ _ (_ :: _) => nE); (rename News _ _ _ (_ :: _) => nF); w_strict (first
    | exact pair_end (by assumption) (mf1 (by assumption) (by assumption) (by assumption))
    | exact pair_end (by assumption) (mf2 (by assumption) (by assumption) (by assumption))
    | exact pair_end (by assumption) (mf3 (by assumption) (by assumption) (by assumption))
    | exact pair_end (by assumption) (mf4 (by assumption) (by assumption) (by assumption))
    | exact pair_end (by assumption) (mf5 (by assumption))))
end
section
abbrev itObj (l : Addr) : Obj := { cls := .type "list_iterator", data := .fields #[.ref l, .int 0 0] }
section
variable {prog : Program} {w : World} {A : Around} {E : Value → Shared → Prop} {s : Shared} {h₀ : Heap} {L l : Addr} {m : Str → Option Value} {news : List (Addr × Obj)} {items : Array Value}
theorem call_iter {Q : Value → Shared → Prop} (F : Fr h₀ L s.heap m) (N : News h₀ L s.heap news) (hl : h₀.IsList l items)
    (h : ∀ D h', Fr h₀ L h' m → News h₀ L h' ((D, itObj l) :: news) → (∀ p ∈ news, p.1 < D) → Q (.ref D) { s with heap := h' }) :
    wpAny (model prog w) A (call (.builtin "iter") [.ref l]) Q E s := by
  have hl' : s.heap.IsList l items := hl.at fun o e => F.keep _ _ e
  refine call_function_entry (by decide +kernel) (by decide +kernel) kdk_entry_iter (kdk_args_iter _) ?_
  unfold Builtin.«iter»
  refine wpAny_bind (m := someArgs "iter" 1 2 _) (wpAny_of_eq (a := [Value.ref l]) (by first | rfl | kernel_rfl!) ?_)
  show wpAny _ _ (pyIter (.ref l) >>= _) _ _ _
  refine wpAny_bind (wpAny_pyIter_list hl' ?_)
  exact wpAny_pure ⟨_, rfl, h _ _ (F.push _) (News.push F N _) fun p hp => Heap.lt_size (N p hp).1⟩
end
section
variable {prog : Program} {w : World} {A : Around} {E : Value → Shared → Prop} {s : Shared} {env : Env} {h₀ : Heap} {x : Str} {body : List Stmt} {Q : Flow → Shared → Prop}
/-- a loop over a list's iterator, the list standing under the call: what a turn makes may lie anywhere -/
theorem list_loop {I l : Addr} {items : Array Value} {m₀ : Str → Option Value} {news : List (Addr × Obj)} (J : Nat → (Str → Option Value) → List (Addr × Obj) → Prop)
    (hh : A.handled = none) (hl : h₀.IsList l items) (F : Fr h₀ env.locals s.heap m₀) (NI : News h₀ env.locals s.heap [(I, itObj l)]) (N : News h₀ env.locals s.heap news) (hnw : ∀ p ∈ news, p.1 ≠ I) (hj : J 0 m₀ news)
    (turn : ∀ i v m₁ nx h tk own, i < items.size → items[i]? = some v → OwnOff own (nx.map (·.1)) → J i m₁ nx → Fr h₀ env.locals h (fun y => if y = x then some v else m₁ y) → News h₀ env.locals h (nx ++ own) →
      wpAny (model prog w) A (execs body env) (InvPostG h₀ env.locals (J (i + 1)) own { s with heap := h, toks := tk } Q) E { s with heap := h, toks := tk })
    (done : ∀ m₁ nx h tk, J items.size m₁ nx → Fr h₀ env.locals h m₁ → News h₀ env.locals h nx → Q .next { s with heap := h, toks := tk }) :
    wpAny (model prog w) A (pyIter (.ref I)) (fun it s₂ => LoopAtV prog w A h₀ env x body Q E it s₂) E s := by
  have hI := NI _ (.head _)
  obtain ⟨ol, hol, hor⟩ := hl
  have hne : l ≠ I := fun q => by have := hI.2.2; rw [← q, hol] at this; cases this
  have hlL : env.locals ≠ l := fun q => by
    have h2 := F.above
    rw [q] at h2
    exact absurd (Nat.lt_of_lt_of_le (Heap.lt_size hol) h2) (Nat.lt_irrefl _)
  have W := Walks.list (prog := prog) (w := w) hh I l hne items
  have st : s.heap.IsListIter I l 0 ∧ s.heap.IsList l items := ⟨⟨_, hI.1, rfl, rfl⟩, ⟨ol, F.keep _ _ hol, hor⟩⟩
  refine W.self 0 s _ _ st ?_
  refine ⟨I, _, _, _, _, _, m₀, news, J, rfl, W, ?_, ?_, ?_, st, F, N, hj, ?_, ?_⟩
  · intro q
    rcases List.mem_cons.mp q with q | q
    · exact hI.2.1 q.symm
    · exact hlL (List.mem_singleton.mp q)
  · intro b hb
    rw [List.mem_singleton.mp hb]
    exact hI.2.2
  · intro p hp q
    exact hnw p hp (List.mem_singleton.mp q)
  · rintro i v m₁ news₁ s₁ own ⟨hh', tk', rfl⟩ hin hP hJ hoff hown hget hmem hst' F₁ N₁
    have ownI : ∀ p ∈ own, p.1 = I := by
      intro p hp
      rcases List.mem_cons.mp (hown p hp) with q | q
      · exact q
      · have := (N₁ p (List.mem_append_left _ hp)).2.2
        rw [List.mem_singleton.mp q, hol] at this
        cases this
    have hsep : OwnOff own (news₁.map (·.1)) := by
      intro p hp b hb e
      obtain ⟨q, hq, rfl⟩ := List.mem_map.mp hb
      exact hoff q hq (by rw [← e, ownI p hp]; exact .head _)
    have N₂ : News h₀ env.locals hh' (news₁ ++ own) := fun p hp => N₁ p ((List.mem_append.mp hp).elim (fun h => List.mem_append.mpr (.inr h)) fun h => List.mem_append.mpr (.inl h))
    refine wpAny_mono (turn i v m₁ news₁ hh' tk' own hin hP hsep hJ F₁ N₂) (fun f s₂ p => ?_) fun _ _ e => e
    have fin : InvEndG h₀ env.locals (J (i + 1)) own { s with heap := hh', toks := tk' } s₂ → LoopStepU h₀ env.locals [I] own (J (i + 1)) { s with heap := hh', toks := tk' } .next s₂ := by
      rintro ⟨h', tk, m', news', nx, e, F', N', hn, ho, ha, hm⟩
      refine ⟨rfl, h', tk, m', nx, e, F', fun p hp => N' p ((List.mem_append.mp hp).elim (ho p) (hn p)), fun p hp hq => ?_, hm⟩
      obtain ⟨o, hbo, _⟩ := hst'.1
      exact ha _ (hmem I (.head _) hI.2.2 o hbo) p.1 (List.mem_map.mpr ⟨p, hp, rfl⟩) (List.mem_singleton.mp hq).symm
    cases f with
    | ret v => exact .ret p
    | brk => exact .brk p
    | next => exact .next (fin p)
    | cont => exact .cont (fin p)
  · rintro h' tk m' news' F' N' _ hJ
    exact done m' news' h' tk hJ F' N'
end
theorem is_tup_other {M : Model} {A : Around} {E : Value → Shared → Prop} {s : Shared} {Q : Value → Shared → Prop} {x y : Addr} {items : Array Value} {oy : Obj} (ht : IsTup s.heap x items) (hy : s.heap.get? y = some oy) (hb : oy.cls ≠ .type "tuple")
    (h : Q (.bool false) s) : wpAny M A (compareOp .Is (.ref x) (.ref y)) Q E s := by
  obtain ⟨ox, hx, hc, _⟩ := ht
  have hxy : x ≠ y := fun q => by
    subst q
    rw [hx] at hy
    cases hy
    exact hb hc
  show wpAny M A (do return .bool (← isSame (.ref x) (.ref y))) Q E s
  refine wpAny_bind ?_
  show wpAny M A (if (x == y) = true then pure true else _) _ E s
  rw [if_neg (by simpa using hxy)]
  refine wpAny_bind (wpAny_load hx (wpAny_bind (wpAny_load hy ?_)))
  split
  · rename_i h2 _ _; exact absurd h2 hb
  · exact wpAny_pure (wpAny_pure h)
/-- one more object upon the ledger, made by a call -/
theorem news_add {h₀ h h' : Heap} {L a : Addr} {m : Str → Option Value} {news : List (Addr × Obj)} {o : Obj} (F : Fr h₀ L h m) (N : News h₀ L h' news) (e : h.get? a = none) (e' : h'.get? a = some o) : News h₀ L h' ((a, o) :: news) := by
  intro p hp
  rcases List.mem_cons.mp hp with rfl | hp
  · refine ⟨e', fun q => ?_, ?_⟩
    · obtain ⟨oL, _, _, hL, _⟩ := F.ns
      have q' : a = L := q
      rw [q', hL] at e
      cases e
    · cases hq : h₀.get? a with
      | none => rfl
      | some o' => have := F.keep _ _ hq; rw [e] at this; cases this
  · exact N p hp
end
section
noncomputable def redF (ps : List Str) : Int × Int := ps.foldl (fun q p => markF q.1 q.2 p) (0, 1)
theorem strs_get : ∀ {vs : List Value} {ps : List Str} (_ : PyProof.Rows.StrsAre vs ps) {i : Nat} {v : Value}, vs[i]? = some v → ∃ p t, ps[i]? = some p ∧ v = .str p t
  | _, _, .nil, _, _, h => by simp at h
  | _, _, .cons y t r, 0, _, h => by simp at h; subst h; exact ⟨y, t, rfl, rfl⟩
  | _, _, .cons y t r, i + 1, _, h => by
    simp only [List.getElem?_cons_succ] at h ⊢
    exact strs_get r h
theorem redF_snoc (ps : List Str) (i : Nat) (p : Str) (h : ps[i]? = some p) : redF (ps.take (i + 1)) = markF (redF (ps.take i)).1 (redF (ps.take i)).2 p := by
  unfold redF
  rw [List.take_add_one, h, List.foldl_append]
  rfl
noncomputable def RedJ (a0 : Addr) (t1 t2 : Tok) (ps : List Str) (m₀ : Str → Option Value) (i : Nat) (m : Str → Option Value) (nx : List (Addr × Obj)) : Prop :=
  ∃ a t3 t4, m (Str.ofString "value") = some (.ref a) ∧ (∀ y, y ≠ Str.ofString "element" → y ≠ Str.ofString "value" → m y = m₀ y) ∧
    ((i = 0 ∧ a = a0 ∧ t3 = t1 ∧ t4 = t2 ∧ nx = []) ∨ (0 < i ∧ nx = [(a, tupOf (redF (ps.take i)).1 (redF (ps.take i)).2 t3 t4)]))
theorem red_fr {h₀ h : Heap} {L a : Addr} {m₀ m₁ : Str → Option Value} {v : Value} (e1 : m₁ (Str.ofString "value") = some (.ref a)) (e2 : ∀ y, y ≠ Str.ofString "element" → y ≠ Str.ofString "value" → m₁ y = m₀ y)
    (F : Fr h₀ L h (fun y => if y = Str.ofString "element" then some v else m₁ y)) : Fr h₀ L h (fun y => if y = Str.ofString "element" then some v else if y = Str.ofString "value" then some (.ref a) else m₀ y) := by
  have em : (fun y => if y = Str.ofString "element" then some v else if y = Str.ofString "value" then some (.ref a) else m₀ y) = fun y => if y = Str.ofString "element" then some v else m₁ y := by
    funext y
    by_cases h1 : y = Str.ofString "element"
    · rw [if_pos h1, if_pos h1]
    · rw [if_neg h1, if_neg h1]
      by_cases h2 : y = Str.ofString "value"
      · rw [if_pos h2, h2, e1]
      · rw [if_neg h2, e2 y h1 h2]
  rw [em]
  exact F
theorem red_frOut {h₀ h : Heap} {L a : Addr} {m₀ m₁ : Str → Option Value} (e1 : m₁ (Str.ofString "value") = some (.ref a)) (e2 : ∀ y, y ≠ Str.ofString "element" → y ≠ Str.ofString "value" → m₁ y = m₀ y)
    (F : Fr h₀ L h m₁) : Fr h₀ L h (fun y => if y = Str.ofString "element" then m₁ y else if y = Str.ofString "value" then some (.ref a) else m₀ y) := by
  have em : (fun y => if y = Str.ofString "element" then m₁ y else if y = Str.ofString "value" then some (.ref a) else m₀ y) = m₁ := by
    funext y
    by_cases h1 : y = Str.ofString "element"
    · rw [if_pos h1]
    · rw [if_neg h1]
      by_cases h2 : y = Str.ofString "value"
      · rw [if_pos h2, h2, e1]
      · rw [if_neg h2, e2 y h1 h2]
  rw [em]
  exact F
theorem red_end {h₀ h' : Heap} {L a0 a9 : Addr} {t1 t2 t7 t8 : Tok} {ps : List Str} {m₀ m' : Str → Option Value} {i tk : Nat} {p : Str} {nx own : List (Addr × Obj)} {s₁ : Shared}
    (F : Fr h₀ L h' m') (N : News h₀ L h' ((a9, tupOf (markF (redF (ps.take i)).1 (redF (ps.take i)).2 p).1 (markF (redF (ps.take i)).1 (redF (ps.take i)).2 p).2 t7 t8) :: (nx ++ own))) (hp : ps[i]? = some p)
    (hv : m' (Str.ofString "value") = some (.ref a9)) (hr : ∀ y, y ≠ Str.ofString "element" → y ≠ Str.ofString "value" → m' y = m₀ y) (ho : ∀ q ∈ own, q.1 ≠ a9) :
    InvEndG h₀ L (RedJ a0 t1 t2 ps m₀ (i + 1)) own s₁ { s₁ with heap := h', toks := tk } := by
  rw [← redF_snoc ps i p hp] at N
  exact InvEndG.intro F N ⟨a9, t7, t8, hv, hr, .inr ⟨Nat.succ_pos _, rfl⟩⟩ (fun q hq b hb => by rw [List.mem_singleton.mp hb]; exact ho q hq) (fun q hq => by rw [List.mem_singleton.mp hq]; exact .head _) fun q hq => .tail _ (List.mem_append_right _ hq)
theorem red_c (w : World) (l a0 : Addr) (vs : List Value) (ps : List Str) (t1 t2 : Tok) (hps : PyProof.Rows.StrsAre vs ps) (hne : ps ≠ []) (hl : ∀ p ∈ ps, p.length ≤ 1000) :
    Ctr w 111 6 [.ref 160, .ref l, .ref a0] [] (fun h => h.IsList l vs.toArray ∧ IsTup h a0 [Value.int 0 t1, Value.int 1 t2].toArray) (fun r h h' => IsPair h h' r (redF ps)) := by
  k_with_none
  k_with "callWith" => (k_here; (with_reducible show wpAny _ _ (callWith _ _ (Prod.snd _) _ _) _ _ _); with_reducible refine PyProof.Rows.callWith_method1 ?_ (by k_dflt rfl) (by k_dflt rfl))
  k_with "execs cons" => (k_here; first | k_gentoks | (with_reducible refine wpAny_execs_cons ?_; (try dsimp only)))
  k_with "call builtin:iter" => (k_here; k_dflt (refine call_iter (by k_asm) (by k_asm) (by assumption) ?_); intro D' h' F' N' l1; (try k_lt l1); (try k_sweep))
  k_with "compareOp Is ref ref" => (k_here; k_dflt (refine is_tup_other (by exact IsTup.keeps (by assumption) (Fr.keep (by k_asm))) (by (refine kto_K (by k_in) (by k_is))) (by kto_not) ?_))
  k_with "call ref" => (k_here; k_dflt (refine Ctr.use (mark_c _ _ _ _ _ _ _ _ (by assumption)) (by k_asm) (by k_asm) (by k_asm) (by k_asm) (by k_asm) (by first | exact rfl | assumption) (by ktr_room) (by ktr_units) (by assumption) ?_; intro r9 h9 tk9 F9 N9 K9 O9; obtain ⟨a9, t7, t8, O9, e9, e8⟩ := O9; subst O9; (have N8 := news_add (by assumption) N9 e9 e8); (try dsimp only)))
  w_on
  unfold Ctr
  k_fill
  intro mean mg mb dp un gd cn cs aa ccd cl outer A₀ base h₀ L m news s Q E B F X N T hk hdp hu hyp hret
  obtain ⟨hyl, hyt⟩ := hyp
  refine wpAny_call ?_
  k_dflt (refine' enter0 (binds := [(Str.ofString "function", .ref 160), (Str.ofString "sequence", .ref l), (Str.ofString "initial", .ref a0)]) ?k1 ?k2 ?k3 ?k5 ?kA ?kF ?kK ?k6 ?k7 ?k8 ?k9 ?kB ?_ ?c2 ?c3 ?c4 ?c5; (case kA => exact rfl); (case kF => exact rfl); (case kK => assumption); (case k1 => k_asm); (case k2 => k_asm); (case k3 => k_asm); (case k5 => k_asm); (case k6 => k_is); (case k7 => k_is); (case k8 => ktr_room); (case k9 => first | exact BindsTo.of_eq rfl | exact binds_K (by k_in) rfl (by k_is) rfl rfl rfl); (case c5 => decide); (case kB => exact locs rfl); (case c2 => exact rfl); (case c3 => exact rfl); (case c4 => exact rfl); k_whole; intro L' h' F' N' B' X' T'; (try dsimp only); (try k_fold))
  w_strict (repeat' (first | (k_unfold; (try dsimp only)) | ((fail_if_success (with_reducible show wpAny _ _ (exec (Stmt.For _ _ _ _ _) _) _ _ _)); walk1) | fail "no step"))
  (rename Fr _ _ _ _ => lF'); (with_unfolding_all refine' For_invVF lF' ?k1 ?k2 ?_; (case k1 => exact rfl); (case k2 => exact rfl); k_whole)
  w_strict walk1
  (rename Fr _ _ _ _ => fF)
  (rename News _ _ _ _ => fN)
  refine' list_loop (RedJ a0 t1 t2 ps _) rfl hyl fF fN News.nil (fun _ hp => nomatch hp) ⟨a0, t1, t2, rfl, fun _ _ _ => rfl, .inl ⟨rfl, rfl, rfl, rfl, rfl⟩⟩ ?_ ?_
  · clear fF fN
    intro i v m₁ nx h tk own hi hv hoff hJ F₁ N₁
    obtain ⟨a, t3, t4, e1, e2, e3⟩ := hJ
    have F₂ := red_fr e1 e2 F₁
    obtain ⟨p, tp, hp, ev⟩ := strs_get hps (by simpa using hv)
    subst ev
    have hpl := hl p (List.mem_of_getElem? hp)
    have ht : IsTup h a [Value.int (redF (ps.take i)).1 t3, Value.int (redF (ps.take i)).2 t4].toArray := by
      rcases e3 with ⟨rfl, rfl, rfl, rfl, rfl⟩ | ⟨_, rfl⟩
      · exact IsTup.keeps hyt F₁.keep
      · exact ⟨_, (N₁ _ (.head _)).1, rfl, _, rfl⟩
    clear F₁
    try k_fold
    w_strict k_steps
    (rename Fr _ _ _ _ => fE)
    (rename News _ _ _ (_ :: _) => nE)
    (rename (Heap.get? _ _ = none) => eN)
    refine red_end fE nE hp rfl ?_ ?_
    · intro y h1 h2
      show (if y = Str.ofString "value" then _ else if y = Str.ofString "element" then _ else if y = Str.ofString "value" then _ else _) = _
      rw [if_neg h2, if_neg h1, if_neg h2]
    · intro q hq e
      have h1 := (N₁ q (List.mem_append_right _ hq)).1
      rw [e] at h1
      exact absurd (eN.symm.trans h1) (by intro z; cases z)
  · clear fF fN
    intro m₁ nx h tk hJ F₁ N₁
    obtain ⟨a, t3, t4, e1, e2, e3⟩ := hJ
    have F₂ := red_frOut e1 e2 F₁
    have hlen : vs.toArray.size = ps.length := by rw [List.size_toArray]; exact hps.length
    rcases e3 with ⟨e, _⟩ | ⟨_, rfl⟩
    · rw [hlen] at e
      exact absurd (List.length_eq_zero_iff.mp e) hne
    · clear F₁
      rw [hlen, List.take_length] at N₁
      try k_fold
      w_strict k_steps
      all_goals (exact hret _ _ _ (by k_asm) (news_kept N (by assumption)) (Fr.keep (by assumption)) ⟨_, _, _, rfl, (N₁ _ (.head _)).2.2, (N₁ _ (.head _)).1⟩)
end
section
noncomputable def bg (sw : Bool) : Int := if sw then 63 else 62
theorem bg_cases (sw : Bool) : bg sw = 62 ∨ bg sw = 63 := by cases sw <;> decide
section
variable {prog : Program} {w : World} {M : Model} {A : Around} {E : Value → Shared → Prop} {s : Shared} {Q : Value → Shared → Prop} {a b : Int} {t u : Tok} {env : Env}
theorem eq_any (h : ∀ sw, Q (.bool sw) s) : wpAny (model prog w) A (compareOp .Eq (.int a t) (.int b u)) Q E s := eq_int (h _)
theorem ite_alt {sw : Bool} {k k' : Nat} {p p' : Pos} (h : Q (.bytes (altA sw) s.toks) { s with toks := s.toks + 1 }) :
    if sw = true then wpAny M A (eval (.Constant (.bytes [62, 60]) k p) env) Q E s else wpAny M A (eval (.Constant (.bytes [60, 62]) k' p') env) Q E s := by
  cases sw
  · rw [if_neg Bool.false_ne_true]; exact Constant_bytes h
  · rw [if_pos rfl]; exact Constant_bytes h
theorem ite_bg {sw : Bool} {k k' : Nat} {p p' : Pos} (h : Q (.int (bg sw) s.toks) { s with toks := s.toks + 1 }) :
    if sw = true then wpAny M A (eval (.Constant (.int 63) k p) env) Q E s else wpAny M A (eval (.Constant (.int 62) k' p') env) Q E s := by
  cases sw
  · rw [if_neg Bool.false_ne_true]; exact wpAny_Constant_int h
  · rw [if_pos rfl]; exact wpAny_Constant_int h
end
abbrev Len3 (fs : List Int) : Prop := fs.length = 4 ∨ fs.length = 8 ∨ fs.length = 12
theorem octs_100 {fs : List Int} (h : fs.length = 4 ∨ fs.length = 8 ∨ fs.length = 12) : (octs fs).length ≤ 100 := by have := octs_len fs (by omega); omega
theorem octs_m3 {fs : List Int} (h : fs.length = 4 ∨ fs.length = 8 ∨ fs.length = 12) : (octs fs).length % 3 = 0 := by have := octs_len fs (by omega); omega
theorem len_m4 {fs : List Int} (h : fs.length = 4 ∨ fs.length = 8 ∨ fs.length = 12) : fs.length % 4 = 0 := by omega
theorem len_pos {fs : List Int} (h : fs.length = 4 ∨ fs.length = 8 ∨ fs.length = 12) : 0 < fs.length := by omega
theorem len_100 {fs : List Int} (h : fs.length = 4 ∨ fs.length = 8 ∨ fs.length = 12) : fs.length ≤ 100 := by omega
end
section
/-- the least of a row's sums from its beginning, the empty one too -/
noncomputable def mn : List Int → Int
  | [] => 0
  | v :: r => min 0 (v + mn r)
theorem mn_le (l : List Int) : mn l ≤ 0 := by cases l <;> simp [mn] <;> omega
theorem mn_snoc (v : Int) : ∀ r : List Int, mn (r ++ [v]) = min (mn r) (r.sum + v)
  | [] => by simp [mn]
  | u :: r => by
    have ih := mn_snoc v r
    simp only [List.cons_append, mn, List.sum_cons, ih]
    omega
/-- every sum from the beginning is above nought -/
noncomputable def allPos (l : List Int) : Bool := match l with
  | [] => true
  | v :: r => decide (0 < v + mn r)
noncomputable def rot {α : Type} (k : Nat) (l : List α) : List α := l.drop k ++ l.take k
theorem rot_zero {α : Type} (l : List α) : rot 0 l = l := by simp [rot]
theorem rot_all {α : Type} (l : List α) : rot l.length l = l := by simp [rot]
theorem rot_cons {α : Type} {k : Nat} {l : List α} (h : k < l.length) : rot k l = l[k] :: (l.drop (k + 1) ++ l.take k) := by
  rw [rot, List.drop_eq_getElem_cons h]; rfl
theorem rot_succ {α : Type} {k : Nat} {l : List α} (h : k < l.length) : rot (k + 1) l = (l.drop (k + 1) ++ l.take k) ++ [l[k]] := by
  rw [rot, List.take_add_one, List.getElem?_eq_getElem h]
  simp
theorem rot_sum (k : Nat) (l : List Int) : (rot k l).sum = l.sum := by
  rw [rot, List.sum_append]
  have := congrArg List.sum (List.take_append_drop k l)
  rw [List.sum_append] at this
  omega
theorem allPos_sum {l : List Int} (h : allPos l = true) (hne : l ≠ []) : 0 < l.sum := by
  cases l with
  | nil => exact absurd rfl hne
  | cons v r =>
    have h1 : 0 < v + mn r := of_decide_eq_true h
    have h2 : ∀ r : List Int, mn r ≤ r.sum := by
      intro r
      induction r with
      | nil => simp [mn]
      | cons u r ih => simp only [mn, List.sum_cons]; omega
    have := h2 r
    rw [List.sum_cons]
    omega
/-- how many of the first k turns are good -/
noncomputable def cnt (l : List Int) : Nat → Int
  | 0 => 0
  | k + 1 => cnt l k + if allPos (rot k l) = true then 1 else 0
theorem cnt_eq (l : List Int) (hv : ∀ v ∈ l, v ≤ 1) (hs : 0 < l.sum) : ∀ k, k ≤ l.length → cnt l k = (l.take k).sum + mn (rot k l) - mn l
  | 0, _ => by simp [cnt, rot_zero]
  | k + 1, h => by
    have hk : k < l.length := h
    have ih := cnt_eq l hv hs k (Nat.le_of_lt hk)
    have e1 := rot_cons hk
    have e2 := rot_succ hk
    have hsum := rot_sum k l
    rw [e1, List.sum_cons] at hsum
    have e3 : (l.take (k + 1)).sum = (l.take k).sum + l[k] := by
      rw [List.take_add_one, List.getElem?_eq_getElem hk, List.sum_append]; simp
    have h1 := hv l[k] (List.getElem_mem hk)
    have h2 := mn_le (l.drop (k + 1) ++ l.take k)
    rw [cnt, ih, e3, e2, mn_snoc, e1]
    simp only [allPos, mn, decide_eq_true_eq]
    split <;> omega
/-- the cycle lemma (Dvoretzky and Motzkin) -/
theorem cycle (l : List Int) (hv : ∀ v ∈ l, v ≤ 1) : cnt l l.length = if 0 < l.sum then l.sum else 0 := by
  by_cases hs : 0 < l.sum
  · rw [if_pos hs, cnt_eq l hv hs _ (Nat.le_refl _), rot_all, List.take_length]; omega
  · rw [if_neg hs]
    have key : ∀ k, k ≤ l.length → cnt l k = 0 := by
      intro k
      induction k with
      | zero => intro _; rfl
      | succ k ih =>
        intro h
        rw [cnt, ih (by omega)]
        have hne : rot k l ≠ [] := by
          intro q
          have := congrArg List.length q
          simp [rot] at this
          omega
        rw [if_neg]
        · rfl
        · intro q
          have := allPos_sum q hne
          rw [rot_sum] at this
          exact hs this
    exact key _ (Nat.le_refl _)
end
section
/-- what a figure is worth: a beginning 1, an end -1 -/
noncomputable def val (sw : Bool) (v : Int) : Int := if v = bg sw then 1 else if v = 125 - bg sw then -1 else 0
noncomputable def stp (q : Int × Int) (v : Int) : Int × Int := if v = 0 then q else (q.1 + v, if q.1 + v < q.2 then q.1 + v else q.2)
theorem stp_sum : ∀ (l : List Int) (q : Int × Int), (l.foldl stp q).1 = q.1 + l.sum
  | [], q => by simp
  | v :: l, q => by
    rw [List.foldl_cons, stp_sum l, List.sum_cons]
    unfold stp
    split
    · omega
    · simp only; omega
theorem stp_low : ∀ (l : List Int) (q : Int × Int), q.2 ≤ q.1 → (l.foldl stp q).2 = min q.2 (q.1 + mn l)
  | [], q, h => by simp [mn]; omega
  | v :: l, q, h => by
    rw [List.foldl_cons]
    have hm := mn_le l
    by_cases hv : v = 0
    · have e : stp q v = q := by rw [stp, if_pos hv]
      rw [e, stp_low l q h]; simp only [mn]; omega
    · have e : stp q v = (q.1 + v, if q.1 + v < q.2 then q.1 + v else q.2) := by rw [stp, if_neg hv]
      rw [e, stp_low l _ (by dsimp only; split <;> omega)]
      simp only [mn]
      split <;> omega
/-- a turn's answer -/
theorem stp_good (v : Int) (l : List Int) (hv : v ≤ 1) : (v = 1 ∧ 0 < ((v :: l).foldl stp (0, 1)).2) ↔ allPos (v :: l) = true := by
  have hm := mn_le l
  show _ ↔ decide (0 < v + mn l) = true
  rw [decide_eq_true_eq]
  constructor
  · rintro ⟨rfl, h⟩
    rw [List.foldl_cons] at h
    have e : stp (0, 1) 1 = (1, 1) := by decide
    rw [e, stp_low l _ (by decide)] at h
    dsimp only at h
    omega
  · intro h
    have : v = 1 := by omega
    subst this
    refine ⟨rfl, ?_⟩
    rw [List.foldl_cons]
    have e : stp (0, 1) 1 = (1, 1) := by decide
    rw [e, stp_low l _ (by decide)]
    dsimp only
    omega
/-- the escapes, sign by sign -/
noncomputable def escL (l : List Nat) : List Nat := l.flatMap fun d => if d = 60 then [38, 108, 116, 59] else if d = 62 then [38, 103, 116, 59] else [d]
theorem repL_app (c : Nat) (z l r : List Nat) : repL c z (l ++ r) = repL c z l ++ repL c z r := by simp [repL]
theorem escL_eq : ∀ l : List Nat, repL 62 [38, 103, 116, 59] (repL 60 [38, 108, 116, 59] l) = escL l
  | [] => rfl
  | d :: l => by
    have ih := escL_eq l
    have e : repL 60 [38, 108, 116, 59] (d :: l) = (if d = 60 then [38, 108, 116, 59] else [d]) ++ repL 60 [38, 108, 116, 59] l := by simp [repL]
    have e2 : escL (d :: l) = (if d = 60 then [38, 108, 116, 59] else if d = 62 then [38, 103, 116, 59] else [d]) ++ escL l := by simp [escL]
    rw [e, repL_app, ih, e2]
    congr 1
    by_cases h : d = 60
    · rw [if_pos h, if_pos h]; decide
    · rw [if_neg h, if_neg h]; simp [repL]
theorem escS_cps (x : Str) : (escS x).cps.toList = escL x.cps.toList := by
  unfold escS repS
  rw [lt_is, gt_is]
  simp only [escL_eq]
noncomputable def sgn (c : Nat) : Int := if c = 60 then 1 else if c = 62 then -1 else 0
/-- a text of a list of signs -/
noncomputable def strOf (l : List Nat) : Str := ⟨l.toArray⟩
theorem slice3 (a b c : Nat) (l : List Nat) : Txt.slice (strOf (a :: b :: c :: l)) none (some 3) = strOf [a, b, c] := by
  have h := slice_closes_toL (x := strOf (a :: b :: c :: l)) (j := 3) (by decide) (by show (3 : Int) ≤ (((a :: b :: c :: l).toArray.size : Nat) : Int); simp; omega)
  have h2 := eq_of_beq h
  rw [h2]
  rfl
theorem lts_is : Str.ofString "lt;" = strOf [108, 116, 59] := by decide
theorem gts_is : Str.ofString "gt;" = strOf [103, 116, 59] := by decide
theorem mark_lt (q : Int × Int) (l : List Nat) : markF q.1 q.2 (strOf (108 :: 116 :: 59 :: l)) = stp q 1 := by
  unfold markF markIn
  rw [slice3, lts_is, gts_is]
  rw [if_pos (by decide), if_pos (by decide)]
  rfl
theorem mark_gt (q : Int × Int) (l : List Nat) : markF q.1 q.2 (strOf (103 :: 116 :: 59 :: l)) = stp q (-1) := by
  unfold markF markIn
  rw [slice3, lts_is, gts_is]
  rw [if_pos (by decide), if_neg (by decide)]
  rfl
theorem split_esc : ∀ (l : List Nat), 38 ∉ l → ∃ p r, splitL 38 (escL l) = p :: r ∧ (r = [] → ∀ d ∈ l, d ≠ 60 ∧ d ≠ 62) ∧ ∀ q : Int × Int, (r.map strOf).foldl (fun q p => markF q.1 q.2 p) q = (l.map sgn).foldl stp q
  | [], _ => ⟨[], [], rfl, (fun _ _ h => absurd h List.not_mem_nil), fun _ => rfl⟩
  | d :: l, h => by
    obtain ⟨p, r, e, hz, ih⟩ := split_esc l fun q => h (.tail _ q)
    have hd : d ≠ 38 := fun q => h (q ▸ .head _)
    have e2 : escL (d :: l) = (if d = 60 then [38, 108, 116, 59] else if d = 62 then [38, 103, 116, 59] else [d]) ++ escL l := by simp [escL]
    rw [e2]
    by_cases h1 : d = 60
    · refine ⟨[], (108 :: 116 :: 59 :: p) :: r, ?_, fun q => absurd q (by simp), fun q => ?_⟩
      · rw [if_pos h1]; simp [splitL, e]
      · subst h1
        rw [List.map_cons, List.map_cons, List.foldl_cons, List.foldl_cons, ih, mark_lt]; rfl
    · by_cases h2 : d = 62
      · refine ⟨[], (103 :: 116 :: 59 :: p) :: r, ?_, fun q => absurd q (by simp), fun q => ?_⟩
        · rw [if_neg h1, if_pos h2]; simp [splitL, e]
        · subst h2
          rw [List.map_cons, List.map_cons, List.foldl_cons, List.foldl_cons, ih, mark_gt]; rfl
      · refine ⟨d :: p, r, ?_, fun q x hx => (List.mem_cons.mp hx).elim (fun y => y ▸ ⟨h1, h2⟩) (hz q x), fun q => ?_⟩
        · rw [if_neg h1, if_neg h2]; simp [splitL, e, hd]
        · rw [ih, List.map_cons, List.foldl_cons]
          have e3 : sgn d = 0 := by rw [sgn, if_neg h1, if_neg h2]
          rw [e3]; rfl
theorem txt_cps (sw : Bool) (fs : List Int) : (txt sw fs).cps.toList = fs.map fun v => (atab sw v).toNat := by simp [txt]
theorem sgn_val (sw : Bool) (v : Int) (h0 : 0 ≤ v) (h1 : v < 64) : sgn (atab sw v).toNat = val sw v := by
  rcases atab_cases sw v h0 h1 with ⟨a, _, c⟩ | ⟨a, _, c⟩ | ⟨a, c, d, e, f, _⟩
  · rw [c, a]; cases sw <;> decide
  · rw [c, a]; cases sw <;> decide
  · rw [c]
    have n1 : ¬ (tab v).toNat = 60 := by omega
    have n2 : ¬ (tab v).toNat = 62 := by omega
    have := bg_cases sw
    rw [sgn, if_neg n1, if_neg n2, val, if_neg (by omega), if_neg (by omega)]
theorem strOf_cps (x : Str) : strOf x.cps.toList = x := str_ext (by simp [strOf])
/-- the pieces behind each & -/
noncomputable def pcs (sw : Bool) (fs : List Int) : List Str := (Txt.split (escS (txt sw fs)) ⟨#[38]⟩).drop 1
theorem pcs_eq (sw : Bool) {fs : List Int} (h : Figs fs) : ∃ r : List (List Nat), pcs sw fs = r.map strOf ∧ (r = [] → ∀ v ∈ fs, val sw v = 0) ∧ ∀ q : Int × Int, (r.map strOf).foldl (fun q p => markF q.1 q.2 p) q = (fs.map (val sw)).foldl stp q := by
  obtain ⟨p, r, e, hz, ih⟩ := split_esc (txt sw fs).cps.toList (txt_plainly sw h).1
  have e1 := split_eq (escS (txt sw fs)) 38
  rw [escS_cps, e] at e1
  have e2 : pcs sw fs = r.map strOf := by
    have e3 := congrArg (fun l => (l.drop 1).map strOf) e1
    simp only [List.map_drop, List.map_map, List.drop_succ_cons, List.drop_zero] at e3
    rw [← e3, pcs]
    conv => lhs; rw [← List.map_id (Txt.split (escS (txt sw fs)) ⟨#[38]⟩)]
    rw [← List.map_drop, ← List.map_drop]
    refine List.map_congr_left fun x _ => ?_
    exact (strOf_cps x).symm
  have e4 : (txt sw fs).cps.toList.map sgn = fs.map (val sw) := by
    rw [txt_cps, List.map_map]
    exact List.map_congr_left fun v hv => sgn_val sw v (h v hv).1 (h v hv).2
  refine ⟨r, e2, fun q v hv => ?_, fun q => by rw [ih, e4]⟩
  have hm : (atab sw v).toNat ∈ (txt sw fs).cps.toList := by rw [txt_cps]; exact List.mem_map.mpr ⟨v, hv, rfl⟩
  have h9 := hz q _ hm
  rw [← sgn_val sw v (h v hv).1 (h v hv).2, sgn, if_neg h9.1, if_neg h9.2]
theorem red_pcs (sw : Bool) {fs : List Int} (h : Figs fs) : redF (pcs sw fs) = (fs.map (val sw)).foldl stp (0, 1) := by
  obtain ⟨r, e, _, ih⟩ := pcs_eq sw h
  rw [e, redF, ih]
theorem val_62 (sw : Bool) : val sw 62 ≠ 0 := by cases sw <;> decide
theorem pcs_ne (sw : Bool) {fs : List Int} (h : Figs fs) (hm : 62 ∈ fs) : pcs sw fs ≠ [] := by
  obtain ⟨r, e, hz, _⟩ := pcs_eq sw h
  intro q
  rw [e] at q
  exact val_62 sw (hz (List.map_eq_nil_iff.mp q) 62 hm)
theorem esc_short (sw : Bool) {fs : List Int} (h : fs.length ≤ 12) : (escS (txt sw fs)).length ≤ 900 := by
  have h1 := rep_len 62 (Str.ofString "&gt;").cps.toList (repS 60 (Str.ofString "&lt;").cps.toList (txt sw fs))
  have h2 := rep_len 60 (Str.ofString "&lt;").cps.toList (txt sw fs)
  have h3 : (txt sw fs).length = fs.length := txt_size sw fs
  rw [lt_is] at h1 h2
  rw [gt_is] at h1
  simp only [List.length_cons, List.length_nil] at h1 h2
  unfold escS
  rw [lt_is, gt_is]
  omega
theorem pcs_short (sw : Bool) {fs : List Int} (h : fs.length ≤ 12) : ∀ p ∈ pcs sw fs, p.length ≤ 1000 := by
  intro p hp
  have h1 := part_short (List.mem_of_mem_drop hp)
  have := esc_short sw h
  omega
theorem count_val (sw : Bool) : ∀ fs : List Int, ((fs.count (bg sw) : Nat) : Int) - ((fs.count (125 - bg sw) : Nat) : Int) = (fs.map (val sw)).sum
  | [] => rfl
  | v :: fs => by
    have ih := count_val sw fs
    have hb := bg_cases sw
    rw [List.map_cons, List.sum_cons, ← ih, List.count_cons, List.count_cons, val]
    by_cases h1 : v = bg sw
    · have h2 : ¬ v = 125 - bg sw := by omega
      rw [if_pos h1, if_pos (beq_iff_eq.mpr h1), if_neg (by rw [beq_iff_eq]; exact h2)]; omega
    · rw [if_neg h1, if_neg (by rw [beq_iff_eq]; exact h1)]
      by_cases h2 : v = 125 - bg sw
      · rw [if_pos h2, if_pos (beq_iff_eq.mpr h2)]; omega
      · rw [if_neg h2, if_neg (by rw [beq_iff_eq]; exact h2)]; omega
theorem val_le (sw : Bool) (v : Int) : val sw v ≤ 1 := by
  unfold val; (repeat' split) <;> decide
theorem val_one (sw : Bool) (v : Int) : val sw v = 1 ↔ v = bg sw := by
  unfold val
  constructor
  · intro h
    split at h
    · assumption
    · split at h <;> exact absurd h (by decide)
  · intro h; rw [if_pos h]
theorem rot_map {α β : Type} (f : α → β) (k : Nat) (l : List α) : (rot k l).map f = rot k (l.map f) := by simp [rot]
theorem rot_len {α : Type} (k : Nat) (l : List α) : (rot k l).length = l.length := by simp [rot]; omega
theorem rot_mem {α : Type} {k : Nat} {l : List α} {x : α} : x ∈ rot k l ↔ x ∈ l := by
  rw [rot, List.mem_append]
  conv => rhs; rw [← List.take_append_drop k l, List.mem_append]
  exact Or.comm
theorem rot_figs {k : Nat} {fs : List Int} (h : Figs fs) : Figs (rot k fs) := fun v hv => h v (rot_mem.mp hv)
theorem rot_len3 {k : Nat} {fs : List Int} (h : Len3 fs) : Len3 (rot k fs) := by unfold Len3; rw [rot_len]; exact h
theorem txt_rot (sw : Bool) {fs : List Int} {k : Int} (h0 : 0 ≤ k) (h1 : k < fs.length) : Txt.slice (txt sw fs) (some k) none ++ Txt.slice (txt sw fs) none (some k) = txt sw (rot k.toNat fs) := by
  have hl : (txt sw fs).length = fs.length := txt_size sw fs
  have e1 := slice_from_eq (x := txt sw fs) (i := k) (b := ((txt sw fs).length : Int)) h0 (by omega) rfl
  have e2 := eq_of_beq (slice_closes_toL (x := txt sw fs) (j := k) h0 (by omega))
  rw [e1, e2]
  apply str_ext
  rw [Str.cps_append]
  simp only [Array.toList_append]
  rw [txt_cps, txt_cps, rot_map, rot]
  congr 1
  · rw [List.take_of_length_le]
    rw [List.length_drop, List.length_map, hl]; omega
  · simp
/-- how the surplus of a turn comes out -/
theorem turn_sur (sw : Bool) {fs : List Int} (k : Nat) (h : Figs fs) : (redF (pcs sw (rot k fs))).1 = (fs.map (val sw)).sum := by
  rw [red_pcs sw (rot_figs h), stp_sum, rot_map, rot_sum]; simp
/-- a turn is good -/
theorem turn_good (sw : Bool) {fs : List Int} {k : Nat} (h : Figs fs) (hk : k < fs.length) : (fs[k] = bg sw ∧ 0 < (redF (pcs sw (rot k fs))).2) ↔ allPos (rot k (fs.map (val sw))) = true := by
  rw [red_pcs sw (rot_figs h), rot_map]
  have hk' : k < (fs.map (val sw)).length := by rw [List.length_map]; exact hk
  rw [rot_cons hk', ← stp_good _ _ (by rw [List.getElem_map]; exact val_le sw _), List.getElem_map, val_one]
/-- the loop's word -/
noncomputable def LawP (sw : Bool) (row pre : List Int) (good : Int) : Prop := good = cnt (row.map (val sw)) pre.length
theorem lawP_nil (sw : Bool) (row : List Int) : LawP sw row [] 0 := rfl
theorem lawP_yes {sw : Bool} {row pre : List Int} {good k : Int} (h : LawP sw row pre good) (hf : Figs row) (hl : pre.length < row.length) (h1 : row[pre.length] = bg sw) (h2 : 0 < (redF (pcs sw (rot pre.length row))).2) : LawP sw row (pre ++ [k]) (good + 1) := by
  unfold LawP at h ⊢
  rw [List.length_append, List.length_singleton, cnt, ← h, if_pos ((turn_good sw hf hl).mp ⟨h1, h2⟩)]
theorem lawP_no {sw : Bool} {row pre : List Int} {good k : Int} (h : LawP sw row pre good) (hf : Figs row) (hl : pre.length < row.length) (h1 : ¬ (row[pre.length] = bg sw ∧ 0 < (redF (pcs sw (rot pre.length row))).2)) : LawP sw row (pre ++ [k]) good := by
  unfold LawP at h ⊢
  rw [List.length_append, List.length_singleton, cnt, ← h, if_neg fun q => h1 ((turn_good sw hf hl).mpr q)]
  omega
theorem lawP_end {sw : Bool} {row pre : List Int} {good : Int} (h : LawP sw row pre good) (hl : pre.length = row.length) : good = if 0 < (row.map (val sw)).sum then (row.map (val sw)).sum else 0 := by
  unfold LawP at h
  have hc := cycle (row.map (val sw)) (fun v hv => by obtain ⟨u, _, rfl⟩ := List.mem_map.mp hv; exact val_le sw u)
  rw [List.length_map] at hc
  rw [h, hl, hc]
end
section
theorem law_end {sw : Bool} {row pre : List Int} {good : Int} (h : LawP sw row pre good) (hl : pre.length = row.length) :
    (0 < ((row.count (bg sw) : Nat) : Int) - ((row.count (125 - bg sw) : Nat) : Int) ∧ good = ((row.count (bg sw) : Nat) : Int) - ((row.count (125 - bg sw) : Nat) : Int)) ∨
    (((row.count (bg sw) : Nat) : Int) - ((row.count (125 - bg sw) : Nat) : Int) ≤ 0 ∧ good = 0) := by
  have e := lawP_end h hl
  rw [← count_val] at e
  split at e <;> omega
theorem ks_len (n : Nat) : (rangeKs 0 (((n : Nat) : Int) - 0).toNat).length = n := by
  unfold rangeKs
  rw [List.length_map, List.length_range]
  omega
/-- a goal put by for the next theorem: hidden, so that no step takes it for a fact -/
structure Hid (P : Prop) : Prop where
  out : P
noncomputable def law_mk {P R : Prop} (h : Hid P → R) : {P : Prop // P → R} := ⟨P, fun hp => h ⟨hp⟩⟩
theorem law_go {P R : Prop} {h : Hid P → R} (hp : P) : (law_mk h).1 := hp
noncomputable def lawM : {P : Prop // P → PySem.Challenge.rw_oy0114_01.Holds} := by
  k_with_none
  k_with "getMethod ref" => (k_here; (with_reducible show wpAny _ _ (getMethod (Value.ref _) (PySem.Str.ofString "count") _) _ _ _); k_dflt (refine kl_method (by k_asm) (by k_mem) PySem.F.slot_list_count PySem.F.type_list_count ?_))
  k_with "ite" => first | (with_reducible refine ite_alt ?_) | (with_reducible refine ite_bg ?_)
  k_with "call builtin:list.count" => (k_here; (with_unfolding_all show wpAny _ _ (call (Value.builtin "list.count") [Value.ref _, Value.int _ _]) _ _ _); k_dflt (refine count_list_ints (by is_list) (by l_ints) ?_))
  k_with "call builtin:bytes.decode" => (k_here; k_dflt (refine call_decode_txt (by assumption) (by exact len_pos (by assumption)) (by exact len_100 (by assumption)) ?_); intro _ _)
  k_with "call ref" => (k_here; k_dflt (refine Ctr.use (oct_c _ _ _ _ (by assumption) (by assumption) (by assumption)) (by k_asm) (by k_asm) (by k_asm) (by k_asm) (by k_asm) (by first | exact rfl | assumption) (by ktr_room) (by ktr_units) (by exact News.isList (by k_asm) (by k_mem)) ?_; intro r9 h9 tk9 F9 N9 K9 O9; obtain ⟨t9, O9⟩ := O9; subst O9; clear K9; (try dsimp only); (try k_sweep)))
  k_with "call ref" => (k_here; k_dflt (refine Ctr.use (enc_c _ (octs _) _ _ _ (octs_in _ (by assumption)) (octs_100 (by assumption)) (octs_m3 (by assumption))) (by k_asm) (by k_asm) (by k_asm) (by k_asm) (by k_asm) (by first | exact rfl | assumption) (by ktr_room) (by ktr_units) (by exact trivial) ?_; intro r9 h9 tk9 F9 N9 K9 O9; obtain ⟨t9, O9⟩ := O9; rw [encL_octs (by assumption) (len_m4 (by assumption)), trans_to _ (by assumption)] at O9; subst O9; clear K9; (try dsimp only); (try k_sweep)))
  apply law_mk
  · intro hP
    refine Mine.hd ?_
    w_on
    w_strict (k_go0; (all_goals try k_fold); (repeat' (first | (k_unfold; (try dsimp only)) | (k_end; kc_close) | ((fail_if_success ((with_reducible show wpAny _ _ (binaryOp Operator.Add (Value.ref _) (Value.ref _)) _ _ _); (rename (IntsAre (List.flatten _) _) => zz))); walk1) | fail "no step")))
    k_dflt (refine' kmk_add_ints ?zF ?zN ?za ?zb ?zi ?zj ?_ ?zz; (case zF => k_asm); (case zN => k_asm); (case za => kmk_list); (case zb => kmk_list); (case zi => assumption); (case zj => assumption); (case zz => exact row_sz _))
    intro D' ws' h' F' N' l1 hI'
    k_lt l1
    k_sweep
    obtain ⟨row, hr1, hr2, hr3, hr4⟩ := row_ok hI'
    clear hI'
    have N8 := kst_newsOf (l' := [_]) N' (fun p hp => by rw [List.mem_singleton.mp hp]; exact .head _)
    clear N'
    w_strict (repeat' (first | (k_unfold; (try dsimp only)) | ((fail_if_success (with_reducible show wpAny _ _ (compareOp CmpOp.Eq _ _) _ _ _)); walk1) | fail "no step"))
    refine eq_any ?_
    intro sw
    w_strict (repeat' (first | (k_unfold; (try dsimp only)) | ((fail_if_success (with_reducible show wpAny _ _ (exec (Stmt.For _ _ _ _ _) _) _ _ _)); walk1) | fail "no step"))
    repeat ((rename (_ < _ ∧ _) => zz); clear zz)
    (rename (IntsAre (List.flatten _) _) => zz); clear zz
    repeat ((rename (_ < (0 : Int) → _) => zz); clear zz)
    repeat ((rename ((0 : Int) ≤ _ → _) => zz); clear zz)
    repeat ((rename (IntsAre _ (_ ++ _)) => zz); clear zz)
    repeat ((rename (IntsAre _ (List.map _ _)) => zz); clear zz)
    repeat ((rename (IntsAre _ (List.take _ _)) => zz); clear zz)
    repeat ((rename (List.length (List.flatten _) = _) => zz); clear zz)
    repeat ((rename (Array.size (List.toArray (List.flatten _)) = _) => zz); clear zz)
    (rename Fr _ _ _ _ => lF'); (with_unfolding_all refine' For_invVF lF' ?k1 ?k2 ?_; (case k1 => exact rfl); (case k2 => exact rfl); k_whole)
    w_strict (repeat' (first | (k_unfold; (try dsimp only)) | ((fail_if_success (with_reducible show wpAny _ _ (pyIter _) _ _ _)); walk1) | fail "no step"))
    rename IsRange _ _ _ _ _ _ _ _ => rgX
    rename Fr _ _ _ _ => fF
    rename News _ _ _ _ => fN
    rename (Figs _) => hfig
    rename (_ ∨ _ ∨ _) => hlen
    refine' kst_range (σ := Int × Tok) (fun c => [(_, listOf _ 0)]) (fun c => [(Str.ofString "good", .int c.1 c.2)]) (fun _ => True) [Str.ofString "turned", Str.ofString "pieces", Str.ofString "state"] (fun pre c => LawP sw row pre c.1) (0, _) rfl rgX ?ks (by first | exact rangeSize_nat _ _ | rfl) fF fN trivial ?kk (lawP_nil _ _) ?_ ?_
    (case ks => exact small_one (by omega) (by omega) (by omega) (by omega))
    (case kk => kst_all)
    · clear fF fN
      rintro ⟨good, tg⟩ kPre kK kT kU kH kTk kOwn kEq kLt kOff kFacts kInv kFr kNews
      have kMark := kstMark
      dsimp only [kstB] at kFr
      dsimp only at kNews kFacts kInv
      simp only [List.nil_append, List.cons_append] at kNews
      simp only [List.map_cons, List.map_nil] at kOff
      try k_fold
      repeat (rename _ => zz; revert zz)
      exact fun h => h.out
    · clear fF fN
      rintro ⟨good, tg⟩ kU kH kTk kFacts kInv kFr kNews
      have kMark := kstMark
      dsimp only [kstB] at kFr
      dsimp only at kNews kFacts kInv
      try k_fold
      have hE := law_end kInv (ks_len _)
      clear kInv
      dsimp only
      rcases hE with ⟨e1, e2⟩ | ⟨e1, e2⟩
      · w_strict k_steps
      · w_strict k_steps
end
section
theorem dec_r (w : World) (sw : Bool) (fs : List Int) (k : Int) (t1 t2 : Tok) (hfs : Figs fs) (hl : Len3 fs) (h0 : 0 ≤ k) (h1 : k < fs.length) :
    Ctr w 102 8 [.str (Txt.slice (txt sw fs) (some k) none ++ Txt.slice (txt sw fs) none (some k)) t1, .bytes (altA sw) t2] [] (fun _ => True) (fun r _ _ => ∃ t, r = .bytes (byteArr (octs (rot k.toNat fs))) t) := by
  have h3 := rot_len3 (k := k.toNat) hl
  rw [txt_rot sw h0 h1, ← decL_octs (rot_figs hfs) (len_m4 h3)]
  exact dec_c w sw _ t1 t2 (rot_figs hfs) (len_100 h3) (len_pos h3) (len_m4 h3)
section
variable {prog : Program} {w : World} {A : Around} {E : Value → Shared → Prop} {s : Shared} {h₀ : Heap} {L l a b : Addr} {m : Str → Option Value} {news : List (Addr × Obj)} {value slice : PySem.Expr} {vs us : List Value} {ns : List Int} {x : Int} {t : Tok} {Q : Value → Shared → Prop}
theorem row_from (F : Fr h₀ L s.heap m) (N : News h₀ L s.heap news) (hl : s.heap.IsList l vs.toArray) (hi : IntsAre vs ns) (hx : 0 ≤ x) (hn : Len3 ns)
    (h : ∀ D ws h', Fr h₀ L h' m → News h₀ L h' ((D, listOf (List.toArray ws) 0) :: news) → (∀ p ∈ news, p.1 < D) → IntsAre ws (ns.drop x.toNat) → Q (.ref D) { s with heap := h' })
    (hs : subscripted slice false (.ref l) (.ref s.heap.objs.size) = operate [.ref s.heap.objs.size, .ref l] (getItem (.ref l) (.ref s.heap.objs.size))) (ht : ∀ r, letTemporaryGo value (.ref l) r = pure ()) :
    wpAny (model prog w) A (subscriptTail value slice (.ref l) (.ref s.heap.objs.size)) Q E { s with heap := s.heap.push { cls := .type "slice", data := .fields #[.int x t, .none, .none] } } :=
  kmk_slice_ints F N hl (.int _ _) .none hi (kmk_from hi hx) rfl (fun D ws h' F' N' l1 hI _ _ => h D ws h' F' N' l1 hI) hs ht (by rw [List.size_toArray, hi.length, sizeLine_eq]; have := len_100 hn; omega)
theorem row_upto (F : Fr h₀ L s.heap m) (N : News h₀ L s.heap news) (hl : s.heap.IsList l vs.toArray) (hi : IntsAre vs ns) (hx : 0 ≤ x) (hn : Len3 ns)
    (h : ∀ D ws h', Fr h₀ L h' m → News h₀ L h' ((D, listOf (List.toArray ws) 0) :: news) → (∀ p ∈ news, p.1 < D) → IntsAre ws (ns.take x.toNat) → Q (.ref D) { s with heap := h' })
    (hs : subscripted slice false (.ref l) (.ref s.heap.objs.size) = operate [.ref s.heap.objs.size, .ref l] (getItem (.ref l) (.ref s.heap.objs.size))) (ht : ∀ r, letTemporaryGo value (.ref l) r = pure ()) :
    wpAny (model prog w) A (subscriptTail value slice (.ref l) (.ref s.heap.objs.size)) Q E { s with heap := s.heap.push { cls := .type "slice", data := .fields #[.none, .int x t, .none] } } :=
  kmk_slice_ints F N hl .none (.int _ _) hi (kmk_upto hi hx) rfl (fun D ws h' F' N' l1 hI _ _ => h D ws h' F' N' l1 hI) hs ht (by rw [List.size_toArray, hi.length, sizeLine_eq]; have := len_100 hn; omega)
theorem row_join (F : Fr h₀ L s.heap m) (N : News h₀ L s.heap news) (ha : s.heap.IsList a vs.toArray) (hb : s.heap.IsList b us.toArray) (hi : IntsAre vs (ns.drop x.toNat)) (hj : IntsAre us (ns.take x.toNat)) (hn : Len3 ns)
    (h : ∀ D ws h', Fr h₀ L h' m → News h₀ L h' ((D, listOf (List.toArray ws) 0) :: news) → (∀ p ∈ news, p.1 < D) → IntsAre ws (rot x.toNat ns) → Q (.ref D) { s with heap := h' }) :
    wpAny (model prog w) A (binaryOp .Add (.ref a) (.ref b)) Q E s :=
  kmk_add_ints F N ha hb hi hj h (by rw [List.length_drop, List.length_take, sizeLine_eq]; have := len_100 hn; omega)
end
section
variable {prog : Program} {w : World} {A : Around} {E : Value → Shared → Prop} {s : Shared} {h₀ : Heap} {L l : Addr} {m : Str → Option Value} {news : List (Addr × Obj)} {value slice : PySem.Expr} {vs : List Value} {ss : List Str} {x : Int} {t u : Tok} {b : Array UInt8} {sw : Bool} {fs : List Int} {Q : Value → Shared → Prop}
theorem ne_same (h : Q (.bool false) s) : wpAny (model prog w) A (compareOp .NotEq (.bytes b t) (.bytes b u)) Q E s :=
  ne_bytes (by rw [bne_self_eq_false]; exact h)
theorem pick_from (hx : 0 ≤ x) : slicePick vs.toArray (some x) none none = (vs.drop x.toNat).toArray := by
  have e : sliceBounds (some x) none none vs.toArray.size = (((min x.toNat vs.toArray.size : Nat) : Int), ((vs.toArray.size : Nat) : Int), 1) := by
    simp only [sliceBounds, Option.getD_none, show (1 : Int) > 0 by decide, if_true, if_neg (show ¬ (x < 0) by omega)]
    congr 1
    omega
  rw [kmk_pick_nat _ e]
  show ((vs.drop (min x.toNat vs.toArray.size)).take (vs.toArray.size - min x.toNat vs.toArray.size)).toArray = _
  rw [List.size_toArray, kmk_drop_min, List.take_of_length_le (by rw [List.length_drop]; omega)]
theorem strs_from (F : Fr h₀ L s.heap m) (N : News h₀ L s.heap news) (hl : s.heap.IsList l vs.toArray) (hi : StrsAre vs ss) (hx : 0 ≤ x) (hn : ss.length ≤ 1000)
    (h : ∀ D ws h', Fr h₀ L h' m → News h₀ L h' ((D, listOf (List.toArray ws) 0) :: news) → (∀ p ∈ news, p.1 < D) → StrsAre ws (ss.drop x.toNat) → Q (.ref D) { s with heap := h' })
    (hs : subscripted slice false (.ref l) (.ref s.heap.objs.size) = operate [.ref s.heap.objs.size, .ref l] (getItem (.ref l) (.ref s.heap.objs.size))) (ht : ∀ r, letTemporaryGo value (.ref l) r = pure ()) :
    wpAny (model prog w) A (subscriptTail value slice (.ref l) (.ref s.heap.objs.size)) Q E { s with heap := s.heap.push { cls := .type "slice", data := .fields #[.int x t, .none, .none] } } :=
  kmk_slice F N hl (.int _ _) .none (fun D h' F' N' l1 => h D (vs.drop x.toNat) h' F' (by rw [pick_from hx] at N'; exact N') l1 (StrsAre.drop' hi _)) hs ht (by rw [List.size_toArray, hi.length, sizeLine_eq]; omega)
theorem split_pcs (F : Fr h₀ L s.heap m) (N : News h₀ L s.heap news) (hn : Len3 fs)
    (h : ∀ D vs h' k, Fr h₀ L h' m → News h₀ L h' ((D, listOf (List.toArray vs) 0) :: news) → (∀ p ∈ news, p.1 < D) → StrsAre vs (Txt.split (escS (txt sw fs)) ⟨#[38]⟩) → Q (.ref D) { s with heap := h', toks := k }) :
    wpAny (model prog w) A (call (.builtin "str.split") [.str (escS (txt sw fs)) t, .str (Str.ofString "&") u]) Q E s := by
  have hz := esc_short sw (fs := fs) (by rcases hn with h | h | h <;> omega)
  rw [lit_amp]
  exact KSpl.split1 F N (by decide) (fun D l h' k e a F' N' l1 => h D (strValues l) h' k F' N' l1 (e ▸ a)) (by rw [sizeLine_eq]; omega)
theorem split_len (hn : Len3 fs) : (Txt.split (escS (txt sw fs)) ⟨#[38]⟩).length ≤ 1000 := by
  have hz := esc_short sw (fs := fs) (by rcases hn with h | h | h <;> omega)
  have e := congrArg List.length (split_eq (escS (txt sw fs)) 38)
  have key : ∀ l : List Nat, (splitL 38 l).length ≤ l.length + 1 := by
    intro l
    induction l with
    | nil => decide
    | cons d l ih =>
      unfold splitL
      split
      · simp only [List.length_cons]; omega
      · split
        · simp
        · rename_i q; rw [q] at ih; simp only [List.length_cons] at ih ⊢; omega
  have h2 := key (escS (txt sw fs)).cps.toList
  have h3 : (escS (txt sw fs)).cps.toList.length = (escS (txt sw fs)).length := Array.length_toList
  rw [List.length_map] at e
  omega
end
theorem wri_r (w : World) (sw : Bool) (fs : List Int) (k : Nat) (wr : Int) (t1 t2 t3 : Tok) (hf : Figs fs) (hl : Len3 fs) :
    Ctr w 153 12 [.bytes (byteArr (octs (rot k fs))) t1, .bytes (altA sw) t2, .int wr t3] [] (fun _ => True) (fun r _ _ => ∃ t, r = .str (escS (txt sw (rot k fs))) t) :=
  have h3 := rot_len3 (k := k) hl
  wri_c w sw _ _ wr t1 t2 t3 (octs_in _ (rot_figs hf)) (octs_100 h3) (octs_m3 h3) (encL_octs (rot_figs hf) (len_m4 h3)) (rot_figs hf) (len_pos h3) (len_100 h3)
theorem red_r (w : World) (sw : Bool) (fs : List Int) (k : Nat) (l a0 : Addr) (vs : List Value) (t1 t2 : Tok) (hf : Figs fs) (hl : Len3 fs) (hm : 62 ∈ fs) (hps : StrsAre vs ((Txt.split (escS (txt sw (rot k fs))) ⟨#[38]⟩).drop (1 : Int).toNat)) :
    Ctr w 111 6 [.ref 160, .ref l, .ref a0] [] (fun h => h.IsList l vs.toArray ∧ IsTup h a0 [Value.int 0 t1, Value.int 1 t2].toArray) (fun r h h' => IsPair h h' r (redF (pcs sw (rot k fs)))) :=
  red_c w l a0 vs _ t1 t2 hps (pcs_ne sw (rot_figs hf) (rot_mem.mpr hm)) (pcs_short sw (by have := rot_len3 (k := k) hl; rcases this with h | h | h <;> omega))
theorem turn_yes {sw : Bool} {row pre : List Int} {good k : Int} (h : LawP sw row pre good) (hf : Figs row) (hk : k = 0 + (pre.length : Int)) (hl : pre.length < ((row.length : Int) - 0).toNat) (h1 : row.getD k.toNat 0 = bg sw) (h2 : 0 < (redF (pcs sw (rot k.toNat row))).2) : LawP sw row (pre ++ [k]) (good + 1) := by
  have e : k.toNat = pre.length := by omega
  have hl' : pre.length < row.length := by omega
  rw [e] at h1 h2
  refine lawP_yes h hf hl' ?_ h2
  rw [← h1, List.getD_eq_getElem?_getD, List.getElem?_eq_getElem hl']; rfl
theorem turn_no1 {sw : Bool} {row pre : List Int} {good k : Int} (h : LawP sw row pre good) (hf : Figs row) (hk : k = 0 + (pre.length : Int)) (hl : pre.length < ((row.length : Int) - 0).toNat) (h1 : ¬ 0 < (redF (pcs sw (rot k.toNat row))).2) : LawP sw row (pre ++ [k]) good := by
  have e : k.toNat = pre.length := by omega
  rw [e] at h1
  exact lawP_no h hf (by omega) fun q => h1 q.2
theorem turn_no2 {sw : Bool} {row pre : List Int} {good k : Int} (h : LawP sw row pre good) (hf : Figs row) (hk : k = 0 + (pre.length : Int)) (hl : pre.length < ((row.length : Int) - 0).toNat) (h1 : row.getD k.toNat 0 ≠ bg sw) : LawP sw row (pre ++ [k]) good := by
  have e : k.toNat = pre.length := by omega
  have hl' : pre.length < row.length := by omega
  rw [e] at h1
  refine lawP_no h hf hl' fun q => h1 ?_
  rw [← q.1, List.getD_eq_getElem?_getD, List.getElem?_eq_getElem hl']; rfl
theorem law_turn : lawM.1 := by
  k_with_none
  k_with "subscriptTail" => (k_here; (with_reducible show wpAny _ _ (subscriptTail _ _ (Value.ref _) (Value.int _ _)) _ _ _); k_dflt (refine item_tupleT (by first | exact Fr.tup (by k_asm) (by assumption) | exact News.isTup (by k_asm) (by k_mem)) (by decide) (by decide) rfl rfl ?_; k_whole))
  k_with "call ref" => (k_here; k_dflt (refine Ctr.use (dec_r _ _ _ _ _ _ (by assumption) (by assumption) (by omega) (by omega)) (by k_asm) (by k_asm) (by k_asm) (by k_asm) (by k_asm) (by first | exact rfl | assumption) (by ktr_room) (by ktr_units) (by exact trivial) ?_; intro r9 h9 tk9 F9 N9 K9 O9; obtain ⟨t9, O9⟩ := O9; subst O9; clear K9; (try dsimp only); (try k_sweep)))
  k_with "subscriptTail Name Slice ref ref" => (k_here; (with_reducible show wpAny _ _ (subscriptTail _ (PySem.Expr.Slice (some _) none none _) (Value.ref _) (Value.ref _)) _ _ _); k_dflt (refine row_from (by k_asm) (by k_asm) (by kmk_list) (by assumption) (by omega) (by assumption) ?_ (by with_unfolding_all rfl) (by kmk_pure)); intro D' ws' h' F' N' l1 hI'; (try dsimp only); (try k_lt l1); (try k_sweep))
  k_with "subscriptTail Name Slice ref ref" => (k_here; (with_reducible show wpAny _ _ (subscriptTail _ (PySem.Expr.Slice none (some _) none _) (Value.ref _) (Value.ref _)) _ _ _); k_dflt (refine row_upto (by k_asm) (by k_asm) (by kmk_list) (by assumption) (by omega) (by assumption) ?_ (by with_unfolding_all rfl) (by kmk_pure)); intro D' ws' h' F' N' l1 hI'; (try dsimp only); (try k_lt l1); (try k_sweep))
  k_with "binaryOp Add ref ref" => (k_here; k_dflt (refine row_join (by k_asm) (by k_asm) (by kmk_list) (by kmk_list) (by assumption) (by assumption) (by assumption) ?_); intro D' ws' h' F' N' l1 hI'; (try dsimp only); (try k_lt l1); (try k_sweep))
  k_with "call ref" => (k_here; k_dflt (refine Ctr.use (oct_c _ _ _ _ (rot_figs (by assumption)) (by assumption) (rot_len3 (by assumption))) (by k_asm) (by k_asm) (by k_asm) (by k_asm) (by k_asm) (by first | exact rfl | assumption) (by ktr_room) (by ktr_units) (by exact News.isList (by k_asm) (by k_mem)) ?_; intro r9 h9 tk9 F9 N9 K9 O9; obtain ⟨t9, O9⟩ := O9; subst O9; clear K9; (try dsimp only); (try k_sweep)))
  k_with "compareOp NotEq bytes bytes" => (k_here; (with_reducible refine ne_same ?_))
  k_with "call ref" => (k_here; k_dflt (refine Ctr.use (wri_r _ _ _ _ _ _ _ _ (by assumption) (by assumption)) (by k_asm) (by k_asm) (by k_asm) (by k_asm) (by k_asm) (by first | exact rfl | assumption) (by ktr_room) (by ktr_units) (by exact trivial) ?_; intro r9 h9 tk9 F9 N9 K9 O9; obtain ⟨t9, O9⟩ := O9; subst O9; clear K9; (try dsimp only); (try k_sweep)))
  k_with "call ref" => (k_here; k_dflt (refine Ctr.use (red_r _ _ _ _ _ _ _ _ _ (by assumption) (by assumption) (by assumption) (by assumption)) (by k_asm) (by k_asm) (by k_asm) (by k_asm) (by k_asm) (by first | exact rfl | assumption) (by ktr_room) (by ktr_units) (by exact ⟨News.isList (by k_asm) (by k_mem), News.isTup (by k_asm) (by k_mem)⟩) ?_; intro r9 h9 tk9 F9 N9 K9 O9; obtain ⟨a9, t7, t8, O9, e9, e8⟩ := O9; subst O9; (have N8 := news_add (by k_asm) N9 e9 e8); (dsimp only [tupOf] at N8); (try dsimp only); (try k_sweep)))
  k_with "call builtin:str.split" => (k_here; (with_unfolding_all show wpAny _ _ (call (Value.builtin "str.split") [Value.str (escS (txt _ _)) _, Value.str (Str.ofString "&") _]) _ _ _); k_dflt (refine split_pcs (by k_asm) (by k_asm) (by exact rot_len3 (by assumption)) ?_); intro D' vs' h' k' F' N' l1 hS'; (try dsimp only); (try k_lt l1); (try k_sweep))
  k_with "subscriptTail Name Slice ref ref" => (k_here; (with_reducible show wpAny _ _ (subscriptTail _ (PySem.Expr.Slice (some _) none none _) (Value.ref _) (Value.ref _)) _ _ _); k_dflt (refine strs_from (by k_asm) (by k_asm) (by kmk_list) (by assumption) (by decide) (by exact split_len (rot_len3 (by assumption))) ?_ (by with_unfolding_all rfl) (by kmk_pure)); intro D' ws' h' F' N' l1 hS'; (try dsimp only); (try k_lt l1); (try k_sweep))
  k_with "state" => first | exact turn_yes (by assumption) (by assumption) (by assumption) (by assumption) (by assumption) (by assumption) | exact turn_no1 (by assumption) (by assumption) (by assumption) (by assumption) (by assumption) | exact turn_no2 (by assumption) (by assumption) (by assumption) (by assumption) (by assumption)
  k_with "InvEndN" => ((rename News _ _ _ _ => nE'); k_dflt (refine kst_end (_, _) (by assumption) nE' (by first | kst_in | kst_inAny) (by first | (intro p hp; kst_mem) | kst_anyIn) (by rfl) trivial (by kst_all) (by kst_same) (by first | exact turn_yes (by assumption) (by assumption) (by assumption) (by assumption) (by assumption) (by assumption) | exact turn_no1 (by assumption) (by assumption) (by assumption) (by assumption) (by assumption) | exact turn_no2 (by assumption) (by assumption) (by assumption) (by assumption) (by assumption))))
  delta lawM
  refine law_go ?_
  k_fill
  intros
  w_on
  rename (_ = (0 : Int) + _) => kEq
  rename (_ ∨ _ ∨ _) => hlen
  rename (_ < Int.toNat _) => kLt
  rename (LawP _ _ _ _) => kInv
  rename Int => kK
  rename (Figs _) => hfig
  rename Bool => sw
  rename List Int => kPre
  have hsz := txt_short sw (len_100 hlen)
  have hsur := (turn_sur sw kK.toNat hfig).trans (count_val sw _).symm
  w_strict k_steps
theorem law_holds : PySem.Challenge.rw_oy0114_01.Holds := lawM.2 law_turn
end
end
end Mine
theorem PySem.Challenge.cw_oy0114_01_holds : PySem.Challenge.rw_oy0114_01.Holds :=
  Mine.law_holds
